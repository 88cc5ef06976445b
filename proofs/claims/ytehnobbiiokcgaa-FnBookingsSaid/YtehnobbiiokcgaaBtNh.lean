/- append of a slice to a list of the call's own, either of which may be empty. Nodes as data: Filled. Nodes as data: NodeItems. -/
import Derived.Test.YtehnobbiiokcgaaBtRow
import Derived.Test.YtehnobbiiokcgaaBtNf
import Derived.Test.YtehnobbiiokcgaaBtLast
namespace Go.Proofs.Ytehnobbiiokcgaa.Bt
set_option linter.unusedVariables false
set_option linter.unusedSimpArgs false
open Go Go.RowKit

section
variable {P : Program} {ops : Array Oper} {o : Oper} {a : Act} {w : World} {Q : Exit → Act → World → Prop}
/-- append of a slice, either of which may be empty. -/
theorem wpList_rowF {rest : List Oper} (hg : o.guard = none) (s x : Operand) (t : TypeId) (hop : o.op = Op.call { callee := Callee.builtin Builtin.append, args := #[s, x], argTypes := #[t, t] })
    (e : TypeId) (i : TypeInfo) (z : Value) (size bytes : Nat) (h1 : P.underlying t = some (.slice e)) (h2 : P.info? e = some i) (h3 : i.zero = some z) (h4 : i.size = size) (h5 : i.bytes = bytes) (h6 : z.cells.size = size) (h7 : 0 < size)
    (v : Value) (n : Nat) (xs : List Value) (g : Option Nat) (hs : a.eval s = v) (hrow : Row size w v n xs g)
    (A : Addr) (m c : Nat) (news : List Value) (hx : ∃ sa, a.eval x = .slice sa m c ∧ (0 < m → sa = some A)) (hn : news.length = m * size) (hc : ∀ j u, news[j]? = some u → w.cell? (A.add j) = some u) (h1c : ∀ u ∈ news, u.oneCell' = true)
    (b1 : n + m ≤ maxLen) (b2 : (n + m) * bytes ≤ 140737488355328)
    (hK : ∀ v' w' g', Row size w' v' (n + m) (xs ++ news) g' → (g = g' ∨ ∃ b, g' = some b ∧ w.heap.size ≤ b) → Fr (fun k => g = some k) w w' → wpList P ops Q rest (a.put o.dst v') w') : wpList P ops Q (o :: rest) a w := by
  obtain ⟨sa, hx, hsa⟩ := hx
  rcases Nat.eq_zero_or_pos m with rfl | hm
  · obtain rfl : news = [] := List.eq_nil_of_length_eq_zero (by simpa using hn)
    cases g with
    | some b => exact wpList_row0 hg s x t hop e i size h1 h2 h4 v n xs b hs hrow sa c hx (hK v w (some b) (by simpa using hrow) (.inl rfl) (Fr.refl _ _))
    | none =>
      obtain ⟨rfl, rfl⟩ : v = .slice none 0 0 ∧ n = 0 := by
        rcases hrow.2 with ⟨h, h', _⟩ | ⟨_, _, h, _⟩
        · exact ⟨h, h'⟩
        · cases h
      have hrun : (Builtin.append_ #[t, t] o.type #[.slice none 0 0, .slice sa 0 c]).run P w = .ok (.slice none 0 0) w := by
        subst h4
        have hl : ∀ x : Addr, (loadCells x 0).run P w = .ok #[] w := fun x => run_loadCells_list (P := P) w x [] (by simp)
        have hst : ∀ x : Addr, (storeCells x []).run P w = .ok () w := fun x => rfl
        cases sa <;> simp [Builtin.append_, run_underlying h1, Builtin.lenOf, Builtin.firstCells, sizeOf, typeInfo, h2, hl, hst]
      refine wpList_plain hg fun K hK' => ?_
      unfold Oper.wp
      simp [execOp, hop, resolve, invoke, builtin, hs, hx, hrun, Result.andThen]
      exact hK' _ _ (hK _ w none (by simpa using hrow) (.inl rfl) (Fr.refl _ _))
  · rw [hsa hm] at hx
    exact wpList_row hg s x t hop e i z size bytes h1 h2 h3 h4 h5 h6 h7 v n xs g hs hrow A m c news hx hm hn hc h1c b1 b2 (fun v' w' g' hr hg' hF => hK v' w' (some g') hr (hg'.imp id fun h => ⟨g', rfl, h⟩) hF)
end

end Go.Proofs.Ytehnobbiiokcgaa.Bt

namespace Go.Proofs.Ytehnobbiiokcgaa.Bt.ND
set_option linter.unusedVariables false
set_option linter.unusedSimpArgs false
open Go Go.RowKit Go.Proofs.Ytehnobbiiokcgaa.Bt

theorem NodeAt.vals {w : World} : ∀ {n : Nat} {t : DT n} {vi vk : Value} {c : Int}, NodeAt w n t vi vk c → (∃ x y z, vi = .slice x y z) ∧ ∃ x y z, vk = .slice x y z
  | 0, _, _, _, _, h => h.elim
  | n + 1, t, vi, vk, c, h => by
    obtain ⟨_, ⟨x, y, e, _⟩, a, b, e2, _⟩ := h
    exact ⟨⟨x, _, y, e⟩, a, _, b, e2⟩
theorem all_take {α : Type} {f : α → Bool} {l : List α} {j : Nat} {x : α} (h : l[j]? = some x) : (l.take (j + 1)).all f = ((l.take j).all f && f x) := by
  rw [List.take_add_one, h, List.all_append]; simp

set_option maxHeartbeats 2000000 in
set_option maxRecDepth 100000 in
/-- 'Filled' -/
theorem filled_is {D : Nat} (hD : 2 ≤ D) (hD2 : D ≤ 1000) : ∀ (n : Nat) (t : DT n) (least : Nat) {w : World} {vi vk : Value} {c : Int}, least ≤ 1000 → NodeAt w n t vi vk c → bulk n t ≤ 10000000 →
    Calls Try.prog 54 #[.int .i64 D, .int .i64 least, .agg #[vi, vk, .int .i64 c]] w (fun e w' => e = .returned (.bool (filled D least n t)) ∧ Below w.heap.size w w')
  | 0, _, _, _, _, _, _, _, h, _ => h.elim
  | n + 1, t, least, w, vi, vk, c, hle, hN, hb => by
    have IH := fun (k : DT n) => @filled_is D hD hD2 n k (D - 1)
    obtain ⟨hc, ⟨ia, icap, rfl, _, hi⟩, a, cap, rfl, hlc, hk⟩ := hN
    have hkl := Nat.le_trans (kids_len t (fun k _ => bulk_pos' k)) hb
    have hil : t.1.length ≤ 10000000 := by have : t.1.length ≤ bulk (n + 1) t := (by show t.1.length ≤ 1 + t.1.length + (t.2.1.map (bulk n)).sum; omega); omega
    have hB1 : Below w.heap.size w (w.alloc (.cells #[.slice ia t.1.length icap, .slice a t.2.1.length cap, .int .i64 c] 25)) := (Below.refl _ _).alloc (Nat.le_refl _) _
    have HB1 := hidp hB1
    have HK := hidp hk
    have ef : filled D least (n + 1) t = (decide (least ≤ t.1.length) && decide (t.1.length ≤ 2 * D - 1) && t.2.1.all (filled D (D - 1) n)) := rfl
    clear hi hk hB1 hc
    have hm1 : IntKind.i64.wrap (2 * (D : Int)) = 2 * (D : Int) := by rw [Last.i64_w, IntWalk.wrap64_in _ ⟨by omega, by omega⟩]
    by_cases h1 : t.1.length < least
    · have e1 : filled D least (n + 1) t = false := by rw [ef, decide_eq_false (by omega)]; rfl
      rw [e1]
      have h1' : (t.1.length : Int) < (least : Int) := by omega
      clear HK IH ef
      go_enter Try.func54, Try.ntmps54
      go_wp2
      go_ret
      exact ⟨rfl, HB1.out⟩
    · have h1' : ¬ (t.1.length : Int) < (least : Int) := by omega
      by_cases h2 : 2 * D - 1 < t.1.length
      · have e1 : filled D least (n + 1) t = false := by rw [ef, decide_eq_false (show ¬ t.1.length ≤ 2 * D - 1 by omega)]; simp
        rw [e1]
        have h2' : 2 * (D : Int) - 1 < (t.1.length : Int) := by omega
        clear HK IH ef
        go_enter Try.func54, Try.ntmps54
        go_wp2
        go_ret
        exact ⟨rfl, HB1.out⟩
      · have h2' : ¬ 2 * (D : Int) - 1 < (t.1.length : Int) := by omega
        have e1 : filled D least (n + 1) t = t.2.1.all (filled D (D - 1) n) := by rw [ef, decide_eq_true (by omega), decide_eq_true (by omega)]; simp
        rw [e1]
        have HE := hidp e1
        clear ef e1
        have hd1 : ((D - 1 : Nat) : Int) = (D : Int) - 1 := by omega
        go_enter Try.func54, Try.ntmps54
        go_wp2
        go_loopw [26] (fun i wr => ∃ j : Nat, j ≤ t.2.1.length ∧ i = .int .i64 j ∧ Hid ((t.2.1.take j).all (filled D (D - 1) n) = true ∧ Below w.heap.size w wr)) (fun i _ => t.2.1.length - (intOf i).toNat)
        case atStart => exact ⟨0, Nat.zero_le _, rfl, hidp ⟨by simp, HB1.out⟩⟩
        case round =>
          obtain ⟨j, hj, rfl, HBR⟩ := hrel
          by_cases hlt : j < t.2.1.length
          · obtain ⟨k', hk'⟩ : ∃ k', t.2.1[j]? = some k' := ⟨t.2.1[j], List.getElem?_eq_getElem hlt⟩
            obtain ⟨b, off, vi', vk', c', rfl, g1, g2, g3, hn'⟩ := HK.out j k' hk'
            have hbl : b < w.heap.size := World.block_lt_of_cell? w _ g1
            have y1 := (HBR.out.2.cell (p := ⟨b, off + j * 3, none⟩) hbl).trans g1
            have y2 := (HBR.out.2.cell (p := ⟨b, off + j * 3 + 1, none⟩) hbl).trans g2
            have y3 := (HBR.out.2.cell (p := ⟨b, off + j * 3 + 2, none⟩) hbl).trans g3
            have hs0 := HBR.out.2.size
            obtain ⟨⟨i1, i2, icap', rfl⟩, q1, q2, kcap', rfl⟩ := hn'.vals
            have hBA := HBR.out.2.alloc hs0 (.cells #[.slice i1 i2 icap', .slice q1 q2 kcap', .int .i64 c'] 25)
            have hbk := bulk_kid (t := t) (j := j) (k := k') hk'
            have hI := IH k' (by omega) (hn'.below hBA) (by omega)
            rw [hd1] at hI
            have HBA := hidp hBA
            have HST := hidp (all_take (f := filled D (D - 1) n) hk')
            have HM := hidp (List.mem_of_getElem? hk')
            have jlt : (j : Int) < (t.2.1.length : Int) := by omega
            clear g1 g2 g3 hBA hk' HK IH hn'
            cases hv : filled D (D - 1) n k' with
            | true =>
              rw [hv] at hI
              have HI := hidp hI
              clear hI
              go_wp2_with fail
              refine HI.out.mono ?_
              rintro e w3 ⟨rfl, hb3⟩
              have HB3 := hidp (HBA.out.trans (hb3.mono (by rw [World.size_alloc]; omega)))
              clear hb3 HI HBA
              go_wp2
              go_roundw
              case rel => exact ⟨j + 1, by omega, by go_num, hidp ⟨by rw [HST.out, HBR.out.1, hv]; rfl, HB3.out⟩⟩
              case measure => simp [intOf]; omega
            | false =>
              rw [hv] at hI
              have HI := hidp hI
              clear hI
              go_wp2_with fail
              refine HI.out.mono ?_
              rintro e w3 ⟨rfl, hb3⟩
              have HB3 := hidp (HBA.out.trans (hb3.mono (by rw [World.size_alloc]; omega)))
              clear hb3 HI HBA
              go_wp2
              go_ret
              have e0 : t.2.1.all (filled D (D - 1) n) = false := List.all_eq_false.2 ⟨k', HM.out, by rw [hv]; simp⟩
              exact ⟨by rw [e0]; try rfl, HB3.out⟩
          · obtain rfl : j = t.2.1.length := by omega
            have HF := hidp HBR.out
            clear HBR HK IH
            go_wp2
            go_ret
            obtain ⟨g1, g2⟩ := HF.out
            rw [List.take_length] at g1
            exact ⟨by rw [g1]; try rfl, g2⟩
end Go.Proofs.Ytehnobbiiokcgaa.Bt.ND

namespace Go.Proofs.Ytehnobbiiokcgaa.Bt.ND
set_option linter.unusedVariables false
set_option linter.unusedSimpArgs false
open Go Go.RowKit Go.Proofs.Ytehnobbiiokcgaa.Bt

def EI : Enc Im where
  enc x := [.int .i64 x.1, .int .i64 x.2]
  sz := 2
  ty := 35
  mty := 0
  z := [.int .i64 0, .int .i64 0]
  len _ := rfl
  zlen := rfl
  pos := by decide
  one _ u hu := by
    simp at hu; rcases hu with rfl | rfl <;> rfl

/-- The first rounds of the loop. -/
def rnd : Nat → List Im → List (List Im) → List Im
  | 0, _, _ => []
  | j + 1, xs, ls => ls.head?.getD [] ++ (xs.head?.toList ++ rnd j xs.tail ls.tail)
theorem rnd_step : ∀ (j : Nat) (xs : List Im) (ls : List (List Im)), rnd (j + 1) xs ls = rnd j xs ls ++ (ls[j]?.getD [] ++ xs[j]?.toList)
  | 0, xs, ls => by simp [rnd, List.head?_eq_getElem?]
  | j + 1, xs, ls => by
    have ih := rnd_step j xs.tail ls.tail
    have e : ∀ (xs : List Im) (ls : List (List Im)), rnd (j + 1 + 1) xs ls = ls.head?.getD [] ++ (xs.head?.toList ++ rnd (j + 1) xs.tail ls.tail) := fun _ _ => rfl
    rw [e, ih]
    show _ = (ls.head?.getD [] ++ (xs.head?.toList ++ rnd j xs.tail ls.tail)) ++ _
    rw [List.getElem?_tail, List.getElem?_tail]
    simp only [List.append_assoc]
theorem rnd_weave : ∀ (m : Nat) (xs : List Im) (ls : List (List Im)), xs.length ≤ m → ls.length ≤ m → rnd m xs ls = weave xs ls
  | 0, [], [], _, _ => by simp [rnd, weave]
  | 0, x :: xs, _, h, _ => by simp at h
  | 0, [], l :: ls, _, h => by simp at h
  | m + 1, [], [], _, _ => by
    have := rnd_weave m [] [] (by simp) (by simp)
    simpa [rnd, weave] using this
  | m + 1, [], l :: ls, _, h => by
    have := rnd_weave m [] ls (by simp) (by simpa using h)
    simpa [rnd, weave] using this
  | m + 1, x :: xs, [], h, _ => by
    have h1 := rnd_weave m xs [] (by simpa using h) (by simp)
    have h2 : weave xs ([] : List (List Im)) = xs := by cases xs <;> simp [weave]
    rw [h2] at h1
    simpa [rnd, weave] using h1
  | m + 1, x :: xs, l :: ls, h, h' => by
    have := rnd_weave m xs ls (by simpa using h) (by simpa using h')
    simp [rnd, weave, this]
theorem rnd_mono {xs : List Im} {ls : List (List Im)} : ∀ {j m : Nat}, j ≤ m → (rnd j xs ls).length ≤ (rnd m xs ls).length
  | j, m, h => by
    induction m with
    | zero => obtain rfl : j = 0 := by omega
              exact Nat.le_refl _
    | succ m ih =>
      by_cases e : j = m + 1
      · rw [e]; exact Nat.le_refl _
      · have := ih (by omega)
        rw [rnd_step, List.length_append]; omega

/-- A list of items of the call's own. -/
def Own (B : Nat) (w wr : World) (u : Value) (l : List Im) : Prop := ∃ g, Row 2 wr u l.length (itemCells EI l) g ∧ (∀ b, g = some b → B ≤ b) ∧ Below B w wr
theorem Own.next {B : Nat} {w wr w2 : World} {u2 : Value} {l l2 : List Im} {g g2 : Option Nat} (h1 : ∀ b, g = some b → B ≤ b) (h2 : Below B w wr) (hB : B ≤ wr.heap.size) (hr : Row 2 w2 u2 (l.length + l2.length) (itemCells EI l ++ itemCells EI l2) g2) (hg : g = g2 ∨ ∃ b, g2 = some b ∧ wr.heap.size ≤ b) (hF : Fr (fun k => g = some k) wr w2) : Own B w w2 u2 (l ++ l2) :=
  ⟨g2, by rw [List.length_append, itemCells_append]; exact hr, fun b hb => by
    rcases hg with e | ⟨b', e, h'⟩
    · exact h1 b (e.trans hb)
    · rw [e] at hb; obtain rfl := Option.some.inj hb; omega, h2.trans (hF.below hB (fun i hi => h1 i hi))⟩

theorem infoM : (Try.prog.info? 35).map (fun i => (i.zero, i.size, i.bytes)) = some (some (.agg #[.int .i64 0, .int .i64 0]), 2, 16) := by kernel_rfl
theorem Row.below {sz : Nat} {w w' : World} {v : Value} {n : Nat} {xs : List Value} {g : Option Nat} (h : Row sz w v n xs g) (hb : Below w.heap.size w w') : Row sz w' v n xs g := by
  obtain ⟨hl, h⟩ := h
  refine ⟨hl, ?_⟩
  rcases h with h | ⟨b, cap, e, ev, h1, h2, h3, hok⟩
  · exact .inl h
  · refine .inr ⟨b, cap, e, ev, h1, h2, Nat.lt_of_lt_of_le h3 hb.size, hok.len, fun j hj => ?_, fun j u hj => ?_⟩
    · rw [M_block (hb.block b h3)]; exact hok.some j hj
    · rw [M_block (hb.block b h3)]; exact hok.val j u hj

set_option maxHeartbeats 8000000 in
set_option maxRecDepth 100000 in
/-- 'NodeItems' -/
theorem items_is : ∀ (n : Nat) (t : DT n) {w : World} {vi vk : Value} {c : Int}, NodeAt w n t vi vk c → bulk n t ≤ 10000000 →
    Calls Try.prog 14 #[.agg #[vi, vk, .int .i64 c]] w (fun e w' => ∃ u, e = .returned u ∧ Own w.heap.size w w' u (dAll n t))
  | 0, _, _, _, _, _, h, _ => h.elim
  | n + 1, t, w, vi, vk, c, hN, hb => by
    have IH := fun (k : DT n) => @items_is n k
    obtain ⟨hc, ⟨ia, icap, rfl, _, hi⟩, a, cap, rfl, hlc, hk⟩ := hN
    have hkl := Nat.le_trans (kids_len t (fun k _ => bulk_pos' k)) hb
    have hil : t.1.length ≤ 10000000 := by have : t.1.length ≤ bulk (n + 1) t := (by show t.1.length ≤ 1 + t.1.length + (t.2.1.map (bulk n)).sum; omega); omega
    obtain ⟨m, hm⟩ : ∃ m, m = max t.2.1.length t.1.length := ⟨_, rfl⟩
    have hall : dAll (n + 1) t = rnd m t.1 (t.2.1.map (dAll n)) := (rnd_weave m _ _ (by omega) (by rw [List.length_map]; omega)).symm
    have hbound : ∀ j, j ≤ m → (rnd j t.1 (t.2.1.map (dAll n))).length ≤ 10000000 := fun j hj => by
      have h1 := rnd_mono (xs := t.1) (ls := t.2.1.map (dAll n)) hj
      rw [← hall] at h1
      have := dAll_bulk (n + 1) t; omega
    have hB1 : Below w.heap.size w (w.alloc (.cells #[.slice ia t.1.length icap, .slice a t.2.1.length cap, .int .i64 c] 25)) := (Below.refl _ _).alloc (Nat.le_refl _) _
    have hbx := Bx.new w [.slice ia t.1.length icap, .slice a t.2.1.length cap, .int .i64 c] 25
    obtain ⟨w1, hw1⟩ : ∃ w1, w1 = w.alloc (.cells #[.slice ia t.1.length icap, .slice a t.2.1.length cap, .int .i64 c] 25) := ⟨_, rfl⟩
    have hsz1 : w1.heap.size = w.heap.size + 1 := by rw [hw1]; simp
    have hlt0 : w.heap.size < w1.heap.size := by omega
    have HX : Hid (w1.cell? ⟨w.heap.size, 0, none⟩ = some (.slice ia t.1.length icap) ∧ w1.cell? ⟨w.heap.size, 1, none⟩ = some (.slice a t.2.1.length cap)) := hidp (by rw [hw1]; exact ⟨hbx.cell 0 rfl, hbx.cell 1 rfl⟩)
    rw [← hw1] at hB1
    have HB1 := hidp hB1
    have HK : Hid (∀ j k, t.2.1[j]? = some k → ∃ b off vi' vk' c', a = some ⟨b, off, none⟩ ∧ w1.cell? ⟨b, off + j * 3, none⟩ = some vi' ∧ w1.cell? ⟨b, off + j * 3 + 1, none⟩ = some vk' ∧ w1.cell? ⟨b, off + j * 3 + 2, none⟩ = some (.int .i64 c') ∧ NodeAt w1 n k vi' vk' c') := hidp fun j k hj => by
      obtain ⟨b, off, vi', vk', c', e, g1, g2, g3, g4⟩ := hk j k hj
      have hbl : b < w.heap.size := World.block_lt_of_cell? w _ g1
      exact ⟨b, off, vi', vk', c', e, (hB1.cell (p := ⟨b, off + j * 3, none⟩) hbl).trans g1, (hB1.cell (p := ⟨b, off + j * 3 + 1, none⟩) hbl).trans g2, (hB1.cell (p := ⟨b, off + j * 3 + 2, none⟩) hbl).trans g3, g4.below hB1⟩
    have HI : Hid (∀ j x, t.1[j]? = some x → ∃ b off, ia = some ⟨b, off, none⟩ ∧ w1.cell? ⟨b, off + j * 2, none⟩ = some (.int .i64 x.1) ∧ w1.cell? ⟨b, off + j * 2 + 1, none⟩ = some (.int .i64 x.2)) := hidp fun j x hj => by
      obtain ⟨b, off, e, g1, g2⟩ := hi j x hj
      have hbl : b < w.heap.size := World.block_lt_of_cell? w _ g1
      exact ⟨b, off, e, (hB1.cell (p := ⟨b, off + j * 2, none⟩) hbl).trans g1, (hB1.cell (p := ⟨b, off + j * 2 + 1, none⟩) hbl).trans g2⟩
    obtain ⟨i0, hi0, hz0, hz1, hz2⟩ := info_parts infoM
    have HI0 := hidp hi0
    have HZ0 := hidp hz0
    have HZ1 := hidp hz1
    have HZ2 := hidp hz2
    rw [hall]
    have HW1 := hidp hw1
    clear hi hk hB1 hc hi0 hz0 hz1 hz2 hall hbx hw1
    by_cases hle : t.1.length ≤ t.2.1.length
    · obtain rfl : m = t.2.1.length := by omega
      have hlez : ¬ (t.2.1.length : Int) < (t.1.length : Int) := by omega
      clear hm
      go_enter Try.func14, Try.ntmps14
      go_wp2
      rw [← HW1.out]
      go_loopw [3, 12] (fun u i wr => ∃ j : Nat, j ≤ t.2.1.length ∧ i = .int .i64 j ∧ Hid (Own w1.heap.size w1 wr u (rnd j t.1 (t.2.1.map (dAll n))))) (fun _ i _ => t.2.1.length - (intOf i).toNat)
      case atStart => exact ⟨0, Nat.zero_le _, rfl, hidp ⟨none, Row.nil 2 _, (fun b hb => by cases hb), Below.refl _ _⟩⟩
      case round =>
        obtain ⟨j, hj, rfl, HO⟩ := hrel
        obtain ⟨g, hr, hg, hbl⟩ := HO.out
        have hszr : w1.heap.size ≤ wr.heap.size := hbl.size
        have x0 := (hbl.cell (p := ⟨w.heap.size, 0, none⟩) hlt0).trans HX.out.1
        have x1 := (hbl.cell (p := ⟨w.heap.size, 1, none⟩) hlt0).trans HX.out.2
        obtain ⟨ua, ucap, rfl⟩ := hr.len
        have HRR := hidp (And.intro hr (And.intro hg hbl))
        clear HO
        by_cases hjm : j < t.2.1.length
        · have jlt : (j : Int) < (t.2.1.length : Int) := by omega
          by_cases hkj : j < t.2.1.length
          · obtain ⟨k', hk'⟩ : ∃ k', t.2.1[j]? = some k' := ⟨t.2.1[j], List.getElem?_eq_getElem hkj⟩
            obtain ⟨b, off, vi', vk', c', rfl, f1, f2, f3, hn'⟩ := HK.out j k' hk'
            have hb1 : b < w1.heap.size := World.block_lt_of_cell? w1 _ f1
            have y1 := (hbl.cell (p := ⟨b, off + j * 3, none⟩) hb1).trans f1
            have y2 := (hbl.cell (p := ⟨b, off + j * 3 + 1, none⟩) hb1).trans f2
            have y3 := (hbl.cell (p := ⟨b, off + j * 3 + 2, none⟩) hb1).trans f3
            obtain ⟨⟨i1, i2, icap', rfl⟩, q1, q2, kcap', rfl⟩ := hn'.vals
            have hbk := bulk_kid (t := t) (j := j) (k := k') hk'
            have HIC := hidp (IH k' (hn'.below hbl) (by omega))
            have hkjz : (j : Int) < (t.2.1.length : Int) := by omega
            have hkd : (t.2.1.map (dAll n))[j]? = some (dAll n k') := by rw [List.getElem?_map, hk']; rfl
            have HKD := hidp hkd
            have HLN2 : Hid ((rnd j t.1 (t.2.1.map (dAll n))).length + (dAll n k').length ≤ 10000000) := hidp (by
              have h3 := hbound (j + 1) (by omega)
              rw [rnd_step, hkd] at h3
              simp only [Option.getD_some, List.length_append] at h3
              omega)
            clear hr hg hbl f1 f2 f3 hn' hk' hkd
            go_wp2_with fail
            refine HIC.out.mono ?_
            rintro e w2 ⟨u2, rfl, g2, hr2, hg2, hb2⟩
            obtain ⟨a2, c2, rfl, _, ha2, _, hc2⟩ := hr2.cut
            have HR2 := hidp (Row.below HRR.out.1 hb2)
            have HC2 := hidp hc2
            have HA2 := hidp ha2
            have HB2 := hidp (HRR.out.2.2.trans (hb2.mono hszr))
            have hsz2 : w1.heap.size ≤ w2.heap.size := by have := hb2.size; omega
            clear hr2 hg2 hb2 hc2 ha2 HIC y1 y2 y3
            go_wp2_with (at_builtin; go_must (refine wpList_rowF rfl (.tmp 20) (.tmp 26) _ rfl 35 i0 _ 2 16 Try.underlying22 HI0.out HZ0.out HZ1.out HZ2.out rfl (by decide) (.slice ua (rnd j t.1 (t.2.1.map (dAll n))).length ucap) (rnd j t.1 (t.2.1.map (dAll n))).length (itemCells EI (rnd j t.1 (t.2.1.map (dAll n)))) g rfl HR2.out ⟨g2.getD 0, 0, none⟩ (dAll n k').length c2 (itemCells EI (dAll n k')) ⟨a2, rfl, HA2.out⟩ (itemCells_length (E := EI) _) (fun q u hq => by rw [Addr.add_lit, Nat.zero_add]; exact HC2.out q u hq) (fun u hu => itemCells_one (E := EI) _ u hu) (by have := HLN2.out; unfold maxLen; omega) (by have := HLN2.out; omega) ?_))
            intro v3 w3 g3 hr3 hg3 hF3
            have HO3 := hidp (Own.next (l := rnd j t.1 (t.2.1.map (dAll n))) (l2 := dAll n k') HRR.out.2.1 HB2.out hsz2 hr3 hg3 hF3)
            clear hr3 hg3 hF3 HR2 HC2 HA2 HB2 HRR x0 x1
            obtain ⟨g5, hr5, hg5, hb5⟩ := HO3.out
            have x0 := (hb5.cell (p := ⟨w.heap.size, 0, none⟩) hlt0).trans HX.out.1
            obtain ⟨a5, cap5, e5⟩ := hr5.len
            subst e5
            have HR5 := hidp (And.intro hr5 (And.intro hg5 hb5))
            clear hr5 hg5 hb5 HO3
            by_cases hij : j < t.1.length
            · obtain ⟨x, hx⟩ : ∃ x, t.1[j]? = some x := ⟨t.1[j], List.getElem?_eq_getElem hij⟩
              obtain ⟨ib, ioff, rfl, h1, h2⟩ := HI.out j x hx
              have hil : ib < w1.heap.size := World.block_lt_of_cell? w1 _ h1
              obtain ⟨g5r, g5g, g5b⟩ := HR5.out
              have hszq : w1.heap.size ≤ w3.heap.size := g5b.size
              have z1 := (g5b.cell (p := ⟨ib, ioff + j * 2, none⟩) hil).trans h1
              have z2 := (g5b.cell (p := ⟨ib, ioff + j * 2 + 1, none⟩) hil).trans h2
              have z0 := (g5b.cell (p := ⟨w.heap.size, 0, none⟩) hlt0).trans HX.out.1
              have HROW := hidp (g5r.alloc (.cells #[.int .i64 x.1, .int .i64 x.2] 35))
              have HLN : Hid ((rnd j t.1 (t.2.1.map (dAll n)) ++ dAll n k').length + 1 ≤ 10000000) := hidp (by
                have h3 := hbound (j + 1) (by omega)
                rw [rnd_step] at h3
                rw [HKD.out, hx] at h3
                simpa [List.length_append, Nat.add_assoc] using h3)
              have hijz : (j : Int) < (t.1.length : Int) := by omega
              have HJX := hidp hx
              clear g5r g5g g5b h1 h2 hx
              go_wp2_with (at_builtin; go_must (refine wpList_row rfl (.tmp 33) (.tmp 39) _ rfl 35 i0 _ 2 16 Try.underlying22 HI0.out HZ0.out HZ1.out HZ2.out rfl (by decide) (.slice a5 (rnd j t.1 (t.2.1.map (dAll n)) ++ dAll n k').length cap5) ((rnd j t.1 (t.2.1.map (dAll n)) ++ dAll n k').length) (itemCells EI (rnd j t.1 (t.2.1.map (dAll n)) ++ dAll n k')) g5 rfl HROW.out ⟨w3.heap.size, 0, none⟩ 1 1 [.int .i64 x.1, .int .i64 x.2] rfl (by decide) rfl (fun q u hq => by rw [Addr.add_lit, Nat.zero_add]; exact (Bx.new w3 [.int .i64 x.1, .int .i64 x.2] 35).cell q hq) (by simp [Value.oneCell']) (by have := HLN.out; unfold maxLen; omega) (by have := HLN.out; omega) ?_))
              intro v4 w4 g4 hr4 hg4 hF4
              have hsz4 : w1.heap.size ≤ (w3.alloc (.cells #[.int .i64 x.1, .int .i64 x.2] 35)).heap.size := by rw [World.size_alloc]; omega
              have HO4 := hidp (Own.next (l := rnd j t.1 (t.2.1.map (dAll n)) ++ dAll n k') (l2 := [x]) HR5.out.2.1 (HR5.out.2.2.alloc hszq _) hsz4 (by simpa [itemCells, EI] using hr4) (hg4.imp id fun h => ⟨g4, rfl, by rw [World.size_alloc]; exact h⟩) hF4)
              clear hr4 hg4 hF4 HROW HLN
              go_wp2
              go_roundw
              case rel => exact ⟨j + 1, by omega, by go_num, hidp (by
                have h3 := HO4.out
                have e3 : rnd (j + 1) t.1 (t.2.1.map (dAll n)) = (rnd j t.1 (t.2.1.map (dAll n)) ++ dAll n k') ++ [x] := by
                  rw [rnd_step]
                  have h3 : True := trivial
                  rw [HKD.out, HJX.out]
                  simp
                rw [e3]; exact h3)⟩
              case measure => simp [intOf]; omega
            · have hijz : ¬ (j : Int) < (t.1.length : Int) := by omega
              go_wp2
              go_roundw
              case rel => exact ⟨j + 1, by omega, by go_num, hidp (by
                have e3 : rnd (j + 1) t.1 (t.2.1.map (dAll n)) = rnd j t.1 (t.2.1.map (dAll n)) ++ dAll n k' := by
                  rw [rnd_step, HKD.out, List.getElem?_eq_none (Nat.le_of_not_lt hij)]; simp
                rw [e3]; exact ⟨g5, HR5.out⟩)⟩
              case measure => simp [intOf]; omega
          · exact absurd hjm hkj
        · obtain rfl : j = t.2.1.length := by omega
          have jge : ¬ (t.2.1.length : Int) < (t.2.1.length : Int) := by omega
          clear hr hg hbl
          go_wp2
          go_ret
          obtain ⟨h1, h2, h3⟩ := HRR.out
          exact ⟨_, rfl, g, h1, fun b hb => by have := h2 b hb; omega, HB1.out.trans (h3.mono (by omega))⟩
    · obtain rfl : m = t.1.length := by omega
      have hlez : (t.2.1.length : Int) < (t.1.length : Int) := by omega
      clear hm
      go_enter Try.func14, Try.ntmps14
      go_wp2
      rw [← HW1.out]
      go_loopw [3, 12] (fun u i wr => ∃ j : Nat, j ≤ t.1.length ∧ i = .int .i64 j ∧ Hid (Own w1.heap.size w1 wr u (rnd j t.1 (t.2.1.map (dAll n))))) (fun _ i _ => t.1.length - (intOf i).toNat)
      case atStart => exact ⟨0, Nat.zero_le _, rfl, hidp ⟨none, Row.nil 2 _, (fun b hb => by cases hb), Below.refl _ _⟩⟩
      case round =>
        obtain ⟨j, hj, rfl, HO⟩ := hrel
        obtain ⟨g, hr, hg, hbl⟩ := HO.out
        have hszr : w1.heap.size ≤ wr.heap.size := hbl.size
        have x0 := (hbl.cell (p := ⟨w.heap.size, 0, none⟩) hlt0).trans HX.out.1
        have x1 := (hbl.cell (p := ⟨w.heap.size, 1, none⟩) hlt0).trans HX.out.2
        obtain ⟨ua, ucap, rfl⟩ := hr.len
        have HRR := hidp (And.intro hr (And.intro hg hbl))
        clear HO
        by_cases hjm : j < t.1.length
        · have jlt : (j : Int) < (t.1.length : Int) := by omega
          by_cases hkj : j < t.2.1.length
          · obtain ⟨k', hk'⟩ : ∃ k', t.2.1[j]? = some k' := ⟨t.2.1[j], List.getElem?_eq_getElem hkj⟩
            obtain ⟨b, off, vi', vk', c', rfl, f1, f2, f3, hn'⟩ := HK.out j k' hk'
            have hb1 : b < w1.heap.size := World.block_lt_of_cell? w1 _ f1
            have y1 := (hbl.cell (p := ⟨b, off + j * 3, none⟩) hb1).trans f1
            have y2 := (hbl.cell (p := ⟨b, off + j * 3 + 1, none⟩) hb1).trans f2
            have y3 := (hbl.cell (p := ⟨b, off + j * 3 + 2, none⟩) hb1).trans f3
            obtain ⟨⟨i1, i2, icap', rfl⟩, q1, q2, kcap', rfl⟩ := hn'.vals
            have hbk := bulk_kid (t := t) (j := j) (k := k') hk'
            have HIC := hidp (IH k' (hn'.below hbl) (by omega))
            have hkjz : (j : Int) < (t.2.1.length : Int) := by omega
            have hkd : (t.2.1.map (dAll n))[j]? = some (dAll n k') := by rw [List.getElem?_map, hk']; rfl
            have HKD := hidp hkd
            have HLN2 : Hid ((rnd j t.1 (t.2.1.map (dAll n))).length + (dAll n k').length ≤ 10000000) := hidp (by
              have h3 := hbound (j + 1) (by omega)
              rw [rnd_step, hkd] at h3
              simp only [Option.getD_some, List.length_append] at h3
              omega)
            clear hr hg hbl f1 f2 f3 hn' hk' hkd
            go_wp2_with fail
            refine HIC.out.mono ?_
            rintro e w2 ⟨u2, rfl, g2, hr2, hg2, hb2⟩
            obtain ⟨a2, c2, rfl, _, ha2, _, hc2⟩ := hr2.cut
            have HR2 := hidp (Row.below HRR.out.1 hb2)
            have HC2 := hidp hc2
            have HA2 := hidp ha2
            have HB2 := hidp (HRR.out.2.2.trans (hb2.mono hszr))
            have hsz2 : w1.heap.size ≤ w2.heap.size := by have := hb2.size; omega
            clear hr2 hg2 hb2 hc2 ha2 HIC y1 y2 y3
            go_wp2_with (at_builtin; go_must (refine wpList_rowF rfl (.tmp 20) (.tmp 26) _ rfl 35 i0 _ 2 16 Try.underlying22 HI0.out HZ0.out HZ1.out HZ2.out rfl (by decide) (.slice ua (rnd j t.1 (t.2.1.map (dAll n))).length ucap) (rnd j t.1 (t.2.1.map (dAll n))).length (itemCells EI (rnd j t.1 (t.2.1.map (dAll n)))) g rfl HR2.out ⟨g2.getD 0, 0, none⟩ (dAll n k').length c2 (itemCells EI (dAll n k')) ⟨a2, rfl, HA2.out⟩ (itemCells_length (E := EI) _) (fun q u hq => by rw [Addr.add_lit, Nat.zero_add]; exact HC2.out q u hq) (fun u hu => itemCells_one (E := EI) _ u hu) (by have := HLN2.out; unfold maxLen; omega) (by have := HLN2.out; omega) ?_))
            intro v3 w3 g3 hr3 hg3 hF3
            have HO3 := hidp (Own.next (l := rnd j t.1 (t.2.1.map (dAll n))) (l2 := dAll n k') HRR.out.2.1 HB2.out hsz2 hr3 hg3 hF3)
            clear hr3 hg3 hF3 HR2 HC2 HA2 HB2 HRR x0 x1
            obtain ⟨g5, hr5, hg5, hb5⟩ := HO3.out
            have x0 := (hb5.cell (p := ⟨w.heap.size, 0, none⟩) hlt0).trans HX.out.1
            obtain ⟨a5, cap5, e5⟩ := hr5.len
            subst e5
            have HR5 := hidp (And.intro hr5 (And.intro hg5 hb5))
            clear hr5 hg5 hb5 HO3
            by_cases hij : j < t.1.length
            · obtain ⟨x, hx⟩ : ∃ x, t.1[j]? = some x := ⟨t.1[j], List.getElem?_eq_getElem hij⟩
              obtain ⟨ib, ioff, rfl, h1, h2⟩ := HI.out j x hx
              have hil : ib < w1.heap.size := World.block_lt_of_cell? w1 _ h1
              obtain ⟨g5r, g5g, g5b⟩ := HR5.out
              have hszq : w1.heap.size ≤ w3.heap.size := g5b.size
              have z1 := (g5b.cell (p := ⟨ib, ioff + j * 2, none⟩) hil).trans h1
              have z2 := (g5b.cell (p := ⟨ib, ioff + j * 2 + 1, none⟩) hil).trans h2
              have z0 := (g5b.cell (p := ⟨w.heap.size, 0, none⟩) hlt0).trans HX.out.1
              have HROW := hidp (g5r.alloc (.cells #[.int .i64 x.1, .int .i64 x.2] 35))
              have HLN : Hid ((rnd j t.1 (t.2.1.map (dAll n)) ++ dAll n k').length + 1 ≤ 10000000) := hidp (by
                have h3 := hbound (j + 1) (by omega)
                rw [rnd_step] at h3
                rw [HKD.out, hx] at h3
                simpa [List.length_append, Nat.add_assoc] using h3)
              have hijz : (j : Int) < (t.1.length : Int) := by omega
              have HJX := hidp hx
              clear g5r g5g g5b h1 h2 hx
              go_wp2_with (at_builtin; go_must (refine wpList_row rfl (.tmp 33) (.tmp 39) _ rfl 35 i0 _ 2 16 Try.underlying22 HI0.out HZ0.out HZ1.out HZ2.out rfl (by decide) (.slice a5 (rnd j t.1 (t.2.1.map (dAll n)) ++ dAll n k').length cap5) ((rnd j t.1 (t.2.1.map (dAll n)) ++ dAll n k').length) (itemCells EI (rnd j t.1 (t.2.1.map (dAll n)) ++ dAll n k')) g5 rfl HROW.out ⟨w3.heap.size, 0, none⟩ 1 1 [.int .i64 x.1, .int .i64 x.2] rfl (by decide) rfl (fun q u hq => by rw [Addr.add_lit, Nat.zero_add]; exact (Bx.new w3 [.int .i64 x.1, .int .i64 x.2] 35).cell q hq) (by simp [Value.oneCell']) (by have := HLN.out; unfold maxLen; omega) (by have := HLN.out; omega) ?_))
              intro v4 w4 g4 hr4 hg4 hF4
              have hsz4 : w1.heap.size ≤ (w3.alloc (.cells #[.int .i64 x.1, .int .i64 x.2] 35)).heap.size := by rw [World.size_alloc]; omega
              have HO4 := hidp (Own.next (l := rnd j t.1 (t.2.1.map (dAll n)) ++ dAll n k') (l2 := [x]) HR5.out.2.1 (HR5.out.2.2.alloc hszq _) hsz4 (by simpa [itemCells, EI] using hr4) (hg4.imp id fun h => ⟨g4, rfl, by rw [World.size_alloc]; exact h⟩) hF4)
              clear hr4 hg4 hF4 HROW HLN
              go_wp2
              go_roundw
              case rel => exact ⟨j + 1, by omega, by go_num, hidp (by
                have h3 := HO4.out
                have e3 : rnd (j + 1) t.1 (t.2.1.map (dAll n)) = (rnd j t.1 (t.2.1.map (dAll n)) ++ dAll n k') ++ [x] := by
                  rw [rnd_step]
                  have h3 : True := trivial
                  rw [HKD.out, HJX.out]
                  simp
                rw [e3]; exact h3)⟩
              case measure => simp [intOf]; omega
            · exact absurd hjm hij
          · have hkjz : ¬ (j : Int) < (t.2.1.length : Int) := by omega
            have hij : j < t.1.length := by omega
            have HKN : Hid ((t.2.1.map (dAll n))[j]? = none) := hidp (List.getElem?_eq_none (by rw [List.length_map]; omega))
            clear hr hg hbl
            obtain ⟨x, hx⟩ : ∃ x, t.1[j]? = some x := ⟨t.1[j], List.getElem?_eq_getElem hij⟩
            obtain ⟨ib, ioff, rfl, h1, h2⟩ := HI.out j x hx
            have hil : ib < w1.heap.size := World.block_lt_of_cell? w1 _ h1
            obtain ⟨gr, gg, gb⟩ := HRR.out
            have hszq : w1.heap.size ≤ wr.heap.size := gb.size
            have z1 := (gb.cell (p := ⟨ib, ioff + j * 2, none⟩) hil).trans h1
            have z2 := (gb.cell (p := ⟨ib, ioff + j * 2 + 1, none⟩) hil).trans h2
            have z0 := (gb.cell (p := ⟨w.heap.size, 0, none⟩) hlt0).trans HX.out.1
            have HROW := hidp (gr.alloc (.cells #[.int .i64 x.1, .int .i64 x.2] 35))
            have HLN : Hid ((rnd j t.1 (t.2.1.map (dAll n))).length + 1 ≤ 10000000) := hidp (by
              have h3 := hbound (j + 1) (by omega)
              rw [rnd_step] at h3
              rw [HKN.out, hx] at h3
              simpa [List.length_append, Nat.add_assoc] using h3)
            have hijz : (j : Int) < (t.1.length : Int) := by omega
            have HJX := hidp hx
            clear gr gg gb h1 h2 hx
            go_wp2_with (at_builtin; go_must (refine wpList_row rfl (.tmp 33) (.tmp 39) _ rfl 35 i0 _ 2 16 Try.underlying22 HI0.out HZ0.out HZ1.out HZ2.out rfl (by decide) (.slice ua (rnd j t.1 (t.2.1.map (dAll n))).length ucap) ((rnd j t.1 (t.2.1.map (dAll n))).length) (itemCells EI (rnd j t.1 (t.2.1.map (dAll n)))) g rfl HROW.out ⟨wr.heap.size, 0, none⟩ 1 1 [.int .i64 x.1, .int .i64 x.2] rfl (by decide) rfl (fun q u hq => by rw [Addr.add_lit, Nat.zero_add]; exact (Bx.new wr [.int .i64 x.1, .int .i64 x.2] 35).cell q hq) (by simp [Value.oneCell']) (by have := HLN.out; unfold maxLen; omega) (by have := HLN.out; omega) ?_))
            intro v4 w4 g4 hr4 hg4 hF4
            have hsz4 : w1.heap.size ≤ (wr.alloc (.cells #[.int .i64 x.1, .int .i64 x.2] 35)).heap.size := by rw [World.size_alloc]; omega
            have HO4 := hidp (Own.next (l := rnd j t.1 (t.2.1.map (dAll n))) (l2 := [x]) HRR.out.2.1 (HRR.out.2.2.alloc hszq _) hsz4 (by simpa [itemCells, EI] using hr4) (hg4.imp id fun h => ⟨g4, rfl, by rw [World.size_alloc]; exact h⟩) hF4)
            clear hr4 hg4 hF4 HROW HLN
            go_wp2
            go_roundw
            case rel => exact ⟨j + 1, by omega, by go_num, hidp (by
              have h3 := HO4.out
              have e3 : rnd (j + 1) t.1 (t.2.1.map (dAll n)) = (rnd j t.1 (t.2.1.map (dAll n))) ++ [x] := by
                rw [rnd_step]
                have h3 : True := trivial
                rw [HKN.out, HJX.out]
                simp
              rw [e3]; exact h3)⟩
            case measure => simp [intOf]; omega
        · obtain rfl : j = t.1.length := by omega
          have jge : ¬ (t.1.length : Int) < (t.1.length : Int) := by omega
          clear hr hg hbl
          go_wp2
          go_ret
          obtain ⟨h1, h2, h3⟩ := HRR.out
          exact ⟨_, rfl, g, h1, fun b hb => by have := h2 b hb; omega, HB1.out.trans (h3.mono (by omega))⟩
end Go.Proofs.Ytehnobbiiokcgaa.Bt.ND
