/- Maps from strings: slices.Equal and slices.Concat of words. -/
import Derived.Test.YtbfaldccnaekeaaBtWu
namespace Go.Proofs.Ytbfaldccnaekeaa.Bt.W
set_option linter.unusedVariables false
set_option linter.unusedSimpArgs false
open Go Go.RowKit Go.Proofs.Ytbfaldccnaekeaa.Bt

variable {w : World}

set_option maxHeartbeats 1000000 in
set_option maxRecDepth 100000 in
/-- 'slices.Equal' of words -/
theorem equalw_is {v u : Value} {l : List Wd} (hv : Wds w v l) (hu : Wds w u l) (hl : l.length ≤ 9223372036854775807) : Calls Try.prog 23 #[v, u] w (fun e w' => e = .returned (.bool true) ∧ ∃ a, w' = w.drewN a) := by
  obtain ⟨a, cap, rfl, hc⟩ := hv
  obtain ⟨a', cap', rfl, hc'⟩ := hu
  have HC := hidp hc
  have HC' := hidp hc'
  clear hc hc'
  go_enter Try.func23, Try.ntmps23
  go_wp2
  go_loopw [13] (fun i wr => ∃ j n : Nat, j ≤ l.length ∧ i = .int .i64 j ∧ wr = w.drewN n) (fun i _ => l.length - (intOf i).toNat)
  case atStart => exact ⟨0, 0, Nat.zero_le _, rfl, rfl⟩
  case round =>
    obtain ⟨j, n, hj, rfl, rfl⟩ := hrel
    by_cases hlt : j < l.length
    · obtain ⟨x, hx⟩ : ∃ x, l[j]? = some x := ⟨l[j], List.getElem?_eq_getElem hlt⟩
      obtain ⟨b, off, rfl, cx, cy⟩ := HC.out j x hx
      obtain ⟨b', off', rfl, cx', cy'⟩ := HC'.out j x hx
      have jlt : (j : Int) < (l.length : Int) := by omega
      clear hx
      go_wp2
      go_quiet (fail)
      go_wp2
      go_roundw
      case rel => exact ⟨j + 1, _, by omega, by go_num, rfl⟩
      case measure => simp [intOf]; omega
    · obtain rfl : j = l.length := by omega
      go_wp2
      go_ret
      exact ⟨rfl, _, rfl⟩

section
variable {P : Program} {ops : Array Oper} {o : Oper} {a : Act} {w : World} {Q : Exit → Act → World → Prop}
/-- append of a slice, either of which may be empty. -/
theorem wpList_rowE {rest : List Oper} (hg : o.guard = none) (s x : Operand) (t : TypeId) (hop : o.op = Op.call { callee := Callee.builtin Builtin.append, args := #[s, x], argTypes := #[t, t] })
    (e : TypeId) (i : TypeInfo) (z : Value) (size bytes : Nat) (h1 : P.underlying t = some (.slice e)) (h2 : P.info? e = some i) (h3 : i.zero = some z) (h4 : i.size = size) (h5 : i.bytes = bytes) (h6 : z.cells.size = size) (h7 : 0 < size)
    (v : Value) (n : Nat) (xs : List Value) (g : Option Nat) (hs : a.eval s = v) (hrow : Row size w v n xs g)
    (A : Addr) (m c : Nat) (news : List Value) (hx : ∃ sa, a.eval x = .slice sa m c ∧ (0 < m → sa = some A)) (hn : news.length = m * size) (hc : ∀ j u, news[j]? = some u → w.cell? (A.add j) = some u) (h1c : ∀ u ∈ news, u.oneCell' = true)
    (b1 : n + m ≤ maxLen) (b2 : (n + m) * bytes ≤ 140737488355328)
    (hK : ∀ v' w' g', Row size w' v' (n + m) (xs ++ news) g' → (g = g' ∨ ∃ b, g' = some b ∧ w.heap.size ≤ b) → Fr (fun k => g = some k) w w' → wpList P ops Q rest (a.put o.dst v') w') : wpList P ops Q (o :: rest) a w := by
  obtain ⟨sa, hx, hsa⟩ := hx
  rcases Nat.eq_zero_or_pos m with rfl | hm
  · obtain rfl : news = [] := List.eq_nil_of_length_eq_zero (by simpa using hn)
    cases g with
    | some b => exact wpList_row0 hg s x t hop e i size h1 h2 h4 v n xs b hs hrow sa c hx (hK v w (some b) (by simpa using hrow) (.inl rfl) (Fr.refl _ _))
    | none =>
      obtain ⟨rfl, rfl⟩ : v = .slice none 0 0 ∧ n = 0 := by
        rcases hrow.2 with ⟨h, h', _⟩ | ⟨_, _, h, _⟩
        · exact ⟨h, h'⟩
        · cases h
      have hrun : (Builtin.append_ #[t, t] o.type #[.slice none 0 0, .slice sa 0 c]).run P w = .ok (.slice none 0 0) w := by
        subst h4
        have hl : ∀ x : Addr, (loadCells x 0).run P w = .ok #[] w := fun x => run_loadCells_list (P := P) w x [] (by simp)
        have hst : ∀ x : Addr, (storeCells x []).run P w = .ok () w := fun x => rfl
        cases sa <;> simp [Builtin.append_, run_underlying h1, Builtin.lenOf, Builtin.firstCells, sizeOf, typeInfo, h2, hl, hst]
      refine wpList_plain hg fun K hK' => ?_
      unfold Oper.wp
      simp [execOp, hop, resolve, invoke, builtin, hs, hx, hrun, Result.andThen]
      exact hK' _ _ (hK _ w none (by simpa using hrow) (.inl rfl) (Fr.refl _ _))
  · rw [hsa hm] at hx
    exact wpList_row hg s x t hop e i z size bytes h1 h2 h3 h4 h5 h6 h7 v n xs g hs hrow A m c news hx hm hn hc h1c b1 b2 (fun v' w' g' hr hg' hF => hK v' w' (some g') hr (hg'.imp id fun h => ⟨g', rfl, h⟩) hF)
end

theorem Row.room2 (w : World) (c : Array Value) (t : TypeId) (cap : Nat) (hc : cap * 2 ≤ c.size) (hm : cap ≤ maxLen) : Row 2 (w.alloc (.cells c t)) (.slice (some ⟨w.heap.size, 0, none⟩) 0 cap) 0 [] (some w.heap.size) := by
  have hB := Bx.new w c.toList t
  rw [Array.toArray_toList] at hB
  refine ⟨by simp, .inr ⟨_, cap, rfl, rfl, Nat.zero_le _, hm, by simp, by simp, fun j hj => ?_, fun j u hu => by simp at hu⟩⟩
  have hj' : j < c.size := by have h : j < cap * 2 := hj; omega
  have := hB.2 j c[j] (by rw [Array.getElem?_toList]; exact Array.getElem?_eq_getElem hj')
  show (M _ _ (0 + j)).isSome = true
  rw [Nat.zero_add, this]; rfl

/-- What 'slices.Grow' of nil leaves. -/
def GrPost (w : World) (e : Ending) (w' : World) : Prop := ∃ v g, e = .returned v ∧ Row 2 w' v 0 [] g ∧ (∀ b, g = some b → w.heap.size ≤ b) ∧ Below w.heap.size w w'
set_option maxRecDepth 100000 in
theorem growW_room {n : Nat} {z : Int} (hz : z = (n : Int)) (hl : n ≤ 8589934592) :
    Calls Try.prog 66 #[.slice none 0 0, .int .i64 z] w (GrPost w) := by
  subst hz
  rcases Nat.eq_zero_or_pos n with rfl | h0
  · go_enter Try.func66, Try.ntmps66
    go_wp2
    go_ret
    exact ⟨_, none, rfl, Row.nil _ _, fun b h => (by cases h), Below.refl _ _⟩
  · obtain ⟨i0, hi0, hz0, hz1, hz2⟩ := info_parts infoW
    have hrun := Lib.run_append_nil_zeros (P := Try.prog) w 22 3 22 38 i0 _ .i64 .i64 Try.underlying22 Try.underlying3 hi0 hz0 n h0 (by rw [hz1]; decide) (by omega) (by rw [hz2]; omega)
    have hsz : (Builtin.zeroCells (Value.agg #[Value.string ByteArray.empty, .int .i64 0]).cells n ++ Builtin.zeroCells (Value.agg #[Value.string ByteArray.empty, .int .i64 0]).cells (grownCap w n 0 38 - n)).size = grownCap w n 0 38 * 2 := by
      have := grownCap_ge w n 0 38
      simp [Builtin.zeroCells, Value.cells]
      omega
    have hcm := grownCap_le_maxLen w n 0 38 (by unfold maxLen; omega)
    have hcn := grownCap_ge w n 0 38
    generalize grownCap w n 0 38 = gc at *
    generalize Builtin.zeroCells (Value.agg #[Value.string ByteArray.empty, .int .i64 0]).cells n ++ Builtin.zeroCells (Value.agg #[Value.string ByteArray.empty, .int .i64 0]).cells (gc - n) = cs at *
    have HRUN := hidp hrun
    have HR := hidp (Row.room2 w.drew cs 38 gc (Nat.le_of_eq hsz.symm) hcm)
    have HB := hidp (((Below.refl w.heap.size w).drew).alloc (by simp) (.cells cs 38))
    have hn0 : (0 : Int) < (n : Int) := by omega
    have hn1 : ¬ (n : Int) < 0 := by omega
    have hg0 : (0 : Int) ≤ (gc : Int) := by omega
    clear hrun hi0 hz0 hz1 hz2 hsz
    go_enter Try.func66, Try.ntmps66
    go_wp2_with (at_builtin; go_must (refine Lib.wpList_append_run w rfl (.tmp 20) (.tmp 21) _ _ rfl _ _ rfl rfl _ _ HRUN.out ?_))
    clear HRUN
    go_wp2
    go_ret
    exact ⟨_, some w.heap.size, rfl, HR.out, fun b h => Nat.le_of_eq (Option.some.inj h), HB.out⟩

/-- The list so far of Concat. -/
def CRW (B : Nat) (w wr : World) (u : Value) (l : List Wd) : Prop := ∃ g, Row 2 wr u l.length (itemCells EW l) g ∧ (∀ b, g = some b → B ≤ b) ∧ Below B w wr
theorem CRW.next {B : Nat} {w wr w2 : World} {u2 : Value} {l l2 : List Wd} {g g2 : Option Nat} (h : (∀ b, g = some b → B ≤ b) ∧ Below B w wr) (hB : B ≤ wr.heap.size) (hr : Row 2 w2 u2 (l.length + l2.length) (itemCells EW l ++ itemCells EW l2) g2) (hg : g = g2 ∨ ∃ b, g2 = some b ∧ wr.heap.size ≤ b) (hF : Fr (fun k => g = some k) wr w2) : CRW B w w2 u2 (l ++ l2) :=
  ⟨g2, by rw [List.length_append, itemCells_append]; exact hr, fun b hb => by
    rcases hg with e | ⟨b', e, h'⟩
    · exact h.1 b (e.trans hb)
    · rw [e] at hb; obtain rfl := Option.some.inj hb; omega, h.2.trans (hF.below hB (fun i hi => h.1 i hi))⟩
theorem Wds.flat {v : Value} {l : List Wd} (h : Wds w v l) : ∃ a cap A, v = .slice a l.length cap ∧ (0 < l.length → a = some A) ∧ ∀ q u, (itemCells EW l)[q]? = some u → w.cell? (Addr.add A q) = some u ∧ (Addr.add A q).block < w.heap.size := by
  obtain ⟨a, cap, rfl, hc⟩ := h
  rcases Nat.eq_zero_or_pos l.length with h0 | h0
  · obtain rfl := List.eq_nil_of_length_eq_zero h0
    exact ⟨a, cap, ⟨0, 0, none⟩, rfl, fun h => absurd h (by simp), fun q u hq => by simp [itemCells] at hq⟩
  · obtain ⟨b, off, rfl, _⟩ := hc 0 l[0] (List.getElem?_eq_getElem h0)
    refine ⟨_, cap, ⟨b, off, none⟩, rfl, fun _ => rfl, fun q u hq => ?_⟩
    have hcell : w.cell? (Addr.add ⟨b, off, none⟩ q) = some u := by
      obtain ⟨x, hx, hu⟩ := itemCells_at hq
      have e2 : EW.sz = 2 := rfl
      rw [e2] at hx hu
      obtain ⟨b', off', e, c0, c1⟩ := hc _ x hx
      injection e with e; injection e with e1 e3
      subst e1; subst e3
      rw [Addr.add_lit]
      have hq2 : q = q / 2 * 2 + q % 2 := by omega
      have hm : q % 2 = 0 ∨ q % 2 = 1 := by omega
      rcases hm with hm | hm
      · rw [hm] at hu hq2
        rw [hq2]
        have : u = .string x.1 := (Option.some.inj hu).symm
        rw [this]; exact c0
      · rw [hm] at hu hq2
        rw [hq2, ← Nat.add_assoc]
        have : u = .int .i64 x.2 := (Option.some.inj hu).symm
        rw [this]; exact c1
    exact ⟨hcell, World.block_lt_of_cell? w _ hcell⟩

set_option maxHeartbeats 1000000 in
set_option maxRecDepth 100000 in
/-- 'slices.Concat' of two lists of words. -/
theorem concatW_is {va vb : Value} {l1 l2 : List Wd} {b : Nat} (hA : Wds w va l1) (hB : Wds w vb l2) (hl1 : l1.length ≤ 2147483647) (hl2 : l2.length ≤ 2147483647) (hb : Bx w b [va, vb]) :
    Calls Try.prog 24 #[.slice (some ⟨b, 0, none⟩) 2 2] w (fun e w' => ∃ v, e = .returned v ∧ CRW w.heap.size w w' v (l1 ++ l2)) := by
  obtain ⟨a1, c1, A1, rfl, he1, hc1⟩ := hA.flat
  obtain ⟨a2, c2, A2, rfl, he2, hc2⟩ := hB.flat
  have k0 := hb.cell 0 rfl
  have k1 := hb.cell 1 rfl
  have hbw := hb.1
  have HC1 := hidp hc1
  have HC2 := hidp hc2
  have HE1 := hidp he1
  have HE2 := hidp he2
  clear hA hB hc1 hc2 hb he1 he2
  obtain ⟨i0, hi0, hz0, hz1, hz2⟩ := info_parts infoW
  have HI0 := hidp hi0
  have HZ0 := hidp hz0
  have HZ1 := hidp hz1
  have HZ2 := hidp hz2
  clear hi0 hz0 hz1 hz2
  have HG := hidp (growW_room (w := w) (n := l1.length + l2.length) (z := (l1.length : Int) + (l2.length : Int)) (by omega) (by omega))
  go_enter Try.func24, Try.ntmps24
  go_wp2
  go_loop [3, 11] (fun s i => (i = .int .i64 0 ∧ s = .int .i64 0) ∨ (i = .int .i64 1 ∧ s = .int .i64 (l1.length : Int)) ∨ (i = .int .i64 2 ∧ s = .int .i64 ((l1.length : Int) + (l2.length : Int)))) (fun _ i => 2 - (intOf i).toNat)
  case atStart => exact .inl ⟨rfl, rfl⟩
  case round =>
    rcases hrel with ⟨rfl, rfl⟩ | ⟨rfl, rfl⟩ | ⟨rfl, rfl⟩
    · have hx : ¬ (l1.length : Int) < 0 := by omega
      go_wp2
      go_round
      case rel => exact .inr (.inl ⟨by go_num, by go_num⟩)
      case measure => simp [intOf]
    · have hx : ¬ (l1.length : Int) + (l2.length : Int) < 0 := by omega
      go_wp2
      go_round
      case rel => exact .inr (.inr ⟨by go_num, by go_num⟩)
      case measure => simp [intOf]
    · go_wp2_with fail
      refine HG.out.mono ?_
      rintro e w1 ⟨v1, g, rfl, hr, hg, hbl⟩
      have hbl2 := hbl.size
      have H0 : Hid (CRW w.heap.size w w1 v1 []) := hidp ⟨g, hr, hg, hbl⟩
      clear hr hg hbl HG
      go_wp2
      go_loopw [6, 27] (fun u i wr => (i = .int .i64 0 ∧ Hid (CRW w.heap.size w wr u [])) ∨ (i = .int .i64 1 ∧ Hid (CRW w.heap.size w wr u l1)) ∨ (i = .int .i64 2 ∧ Hid (CRW w.heap.size w wr u (l1 ++ l2)))) (fun _ i _ => 2 - (intOf i).toNat)
      case atStart => exact .inl ⟨rfl, H0⟩
      case round =>
        rcases hrel with ⟨rfl, HR⟩ | ⟨rfl, HR⟩ | ⟨rfl, HR⟩
        · obtain ⟨g, r, hg, hbl⟩ := HR.out
          have hsz := hbl.size
          have q0 := (hbl.cell (p := ⟨b, 0, none⟩) hbw).trans k0
          have HN := hidp (And.intro r (And.intro hg hbl))
          have HCW : Hid (∀ q u, (itemCells EW l1)[q]? = some u → wr.cell? (Addr.add A1 q) = some u) := hidp fun q u hq => (hbl.cell (p := Addr.add A1 q) (HC1.out q u hq).2).trans (HC1.out q u hq).1
          clear r hg hbl HR
          go_wp2_with (at_builtin; go_must (refine wpList_rowE rfl (.tmp 31) (.tmp 32) _ rfl 38 i0 _ 2 24 Try.underlying22 HI0.out HZ0.out HZ1.out HZ2.out rfl (by decide) u6 0 [] g rfl HN.out.1 A1 l1.length c1 (itemCells EW l1) ⟨a1, rfl, HE1.out⟩ (itemCells_length _) HCW.out (itemCells_one _) (by unfold maxLen; omega) (by omega) ?_))
          intro v2 w2 g2 hr2 hg2 hF2
          have HX := hidp (CRW.next (l := []) (l2 := l1) HN.out.2 hsz (by simpa [itemCells] using hr2) hg2 hF2)
          clear hr2 hg2 hF2 HN HCW
          go_wp2
          go_roundw
          case rel => exact .inr (.inl ⟨by go_num, HX⟩)
          case measure => simp [intOf]
        · obtain ⟨g, r, hg, hbl⟩ := HR.out
          have hsz := hbl.size
          have q0 := (hbl.cell (p := ⟨b, 1, none⟩) hbw).trans k1
          have HN := hidp (And.intro r (And.intro hg hbl))
          have HCW : Hid (∀ q u, (itemCells EW l2)[q]? = some u → wr.cell? (Addr.add A2 q) = some u) := hidp fun q u hq => (hbl.cell (p := Addr.add A2 q) (HC2.out q u hq).2).trans (HC2.out q u hq).1
          clear r hg hbl HR
          go_wp2_with (at_builtin; go_must (refine wpList_rowE rfl (.tmp 31) (.tmp 32) _ rfl 38 i0 _ 2 24 Try.underlying22 HI0.out HZ0.out HZ1.out HZ2.out rfl (by decide) u6 l1.length (itemCells EW l1) g rfl HN.out.1 A2 l2.length c2 (itemCells EW l2) ⟨a2, rfl, HE2.out⟩ (itemCells_length _) HCW.out (itemCells_one _) (by unfold maxLen; omega) (by omega) ?_))
          intro v2 w2 g2 hr2 hg2 hF2
          have HX := hidp (CRW.next (l := l1) (l2 := l2) HN.out.2 hsz hr2 hg2 hF2)
          clear hr2 hg2 hF2 HN HCW
          go_wp2
          go_roundw
          case rel => exact .inr (.inr ⟨by go_num, HX⟩)
          case measure => simp [intOf]
        · go_wp2
          go_ret
          exact ⟨_, rfl, HR.out⟩
end Go.Proofs.Ytbfaldccnaekeaa.Bt.W
