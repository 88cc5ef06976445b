/- The reference: an item put into a sorted list. -/
import Derived.Test.YtehnobbiiokcgaaBtNy
namespace Go.Proofs.Ytehnobbiiokcgaa.Bt.ND
set_option linter.unusedVariables false
set_option linter.unusedSimpArgs false
open Go Go.RowKit Go.Proofs.Ytehnobbiiokcgaa.Bt
open Go.Proofs.Ytehnobbiiokcgaa.Bt.Last (Y Z)
open _root_.List (setIfInBounds_toArray set_cons_zero set_cons_succ)

section
variable {P : Program} {ops : Array Oper} {o : Oper} {a : Act} {w : World} {Q : Exit → Act → World → Prop}
/-- append of a slice, which may be empty, to a row that has an array, as a step of a region that draws its order. -/
theorem step_rows {K : Act → World → Prop} {F : Prop} (hg : o.guard = none) (s x : Operand) (t : TypeId) (hop : o.op = Op.call { callee := Callee.builtin Builtin.append, args := #[s, x], argTypes := #[t, t] })
    (e : TypeId) (i : TypeInfo) (z : Value) (size bytes : Nat) (h1 : P.underlying t = some (.slice e)) (h2 : P.info? e = some i) (h3 : i.zero = some z) (h4 : i.size = size) (h5 : i.bytes = bytes) (h6 : z.cells.size = size) (h7 : 0 < size)
    (v : Value) (n : Nat) (xs : List Value) (b : Nat) (hs : a.eval s = v) (hrow : Row size w v n xs (some b))
    (A : Addr) (m c : Nat) (news : List Value) (hx : ∃ sa, a.eval x = .slice sa m c ∧ (0 < m → sa = some A)) (hn : news.length = m * size) (hc : ∀ j u, news[j]? = some u → w.cell? (A.add j) = some u) (h1c : ∀ u ∈ news, u.oneCell' = true)
    (b1 : n + m ≤ maxLen) (b2 : (n + m) * bytes ≤ 140737488355328)
    (hK : ∀ v' w' g', Row size w' v' (n + m) (xs ++ news) (some g') → (g' = b ∨ w.heap.size ≤ g') → Fr (fun k => k = b) w w' → K (a.put o.dst v') w') :
    if Region.wanted o (yielded ops a.tmps) = true then Oper.wp P o a w K Q else F := by
  obtain ⟨sa, hx, hsa⟩ := hx
  rcases Nat.eq_zero_or_pos m with rfl | hm
  · have hw : Region.wanted o (yielded ops a.tmps) = true := by simp [Region.wanted, hg]
    rw [if_pos hw]
    obtain rfl : news = [] := List.eq_nil_of_length_eq_zero (by simpa using hn)
    have hrow0 := hrow
    obtain ⟨hl, hr⟩ := hrow
    rcases hr with ⟨_, _, h⟩ | ⟨b', cap, hb, rfl, hcn, hcm, _, hok⟩
    · cases h
    · obtain rfl := Option.some.inj hb
      have hrun : (Builtin.append_ #[t, t] o.type #[.slice (some ⟨b, 0, none⟩) n cap, .slice sa 0 c]).run P w = .ok (.slice (some ⟨b, 0, none⟩) n cap) w := by
        subst h4
        have hl : ∀ x : Addr, (loadCells x 0).run P w = .ok #[] w := fun x => run_loadCells_list (P := P) w x [] (by simp)
        have hst : ∀ x : Addr, (storeCells x []).run P w = .ok () w := fun x => rfl
        cases sa <;> simp [Builtin.append_, run_underlying h1, Builtin.lenOf, Builtin.firstCells, sizeOf, typeInfo, h2, hl, hst, hcn]
      unfold Oper.wp
      simp [execOp, hop, resolve, invoke, builtin, hs, hx, hrun, Result.andThen]
      exact hK _ _ b (by simpa using hrow0) (.inl rfl) (Fr.refl _ _)
  · rw [hsa hm] at hx
    exact step_row hg s x t hop e i z size bytes h1 h2 h3 h4 h5 h6 h7 v n xs (some b) hs hrow A m c news hx hm hn hc h1c b1 b2 (fun v' w' g' hr hg' hF => hK v' w' g' hr (hg'.imp (fun h => (Option.some.inj h).symm) id) (hF.mono fun k hk => (Option.some.inj hk).symm))
end

/-- A list of items, cell by cell. -/
theorem Its.flat {w : World} {v : Value} {l : List Im} (h : Its w v l) : ∃ a cap, v = .slice a l.length cap ∧ l.length ≤ cap ∧ (0 < l.length → ∃ b off, a = some ⟨b, off, none⟩ ∧ b < w.heap.size ∧ ∀ j u, (itemCells EI l)[j]? = some u → w.cell? ⟨b, off + j, none⟩ = some u) := by
  obtain ⟨a, cap, rfl, hc, hi⟩ := h
  refine ⟨a, cap, rfl, hc, fun h0 => ?_⟩
  obtain ⟨x0, hx0⟩ : ∃ x, l[0]? = some x := ⟨l[0], List.getElem?_eq_getElem h0⟩
  obtain ⟨b, off, rfl, f1, _⟩ := hi 0 x0 hx0
  refine ⟨b, off, rfl, World.block_lt_of_cell? w _ f1, fun j u hu => ?_⟩
  obtain ⟨x, hx, hv⟩ := itemCells_at (E := EI) hu
  obtain ⟨b', off', e, g1, g2⟩ := hi _ x hx
  injection e with e
  injection e with e1 e2 _
  subst e1; subst e2
  have hj := Nat.div_add_mod j 2
  have hm : j % 2 = 0 ∨ j % 2 = 1 := by omega
  have hv' : [Value.int .i64 x.1, Value.int .i64 x.2][j % 2]? = some u := hv
  have hd : j / EI.sz = j / 2 := rfl
  rw [hd] at g1 g2
  rcases hm with hm | hm
  · rw [hm] at hv'
    obtain rfl := Option.some.inj hv'
    rw [show off + j = off + j / 2 * 2 by omega]; exact g1
  · rw [hm] at hv'
    obtain rfl := Option.some.inj hv'
    rw [show off + j = off + j / 2 * 2 + 1 by omega]; exact g2

/-- What was there. -/
def ff : Option Im → Value
  | some y => .agg #[.int .i64 y.1, .int .i64 y.2, .bool true]
  | none => .agg #[.int .i64 0, .int .i64 0, .bool false]

set_option maxHeartbeats 4000000 in
set_option maxRecDepth 100000 in
/-- 'spec.Put' by the order of the numbers. -/
theorem put_is {w : World} {u : Value} {l : List Im} (h : Its w u l) (hl : l.length ≤ 10000000) (x : Im) :
    Calls Try.prog 28 #[.slice none 0 0, u, .agg #[.int .i64 x.1, .int .i64 x.2]] w (fun e w' => ∃ v, e = .returned (.tuple #[v, ff (look II.lt l x)]) ∧ Own w.heap.size w w' v (put II.lt l x)) := by
  obtain ⟨a, cap, rfl, hlc, hfl⟩ := h.flat
  obtain ⟨i0, hi0, hz0, hz1, hz2⟩ := info_parts infoM
  have HI0 := hidp hi0
  have HZ0 := hidp hz0
  have HZ1 := hidp hz1
  have HZ2 := hidp hz2
  obtain ⟨w1, hw1⟩ : ∃ w1, w1 = (w.alloc (.cells #[.int .i64 x.1, .int .i64 x.2] 35)).alloc (.cells #[.int .i64 0, .int .i64 0, .bool false] 37) := ⟨_, rfl⟩
  have hsz1 : w1.heap.size = w.heap.size + 2 := by rw [hw1]; simp
  have hB1 : Below w.heap.size w w1 := by rw [hw1]; exact ((Below.refl _ _).alloc (Nat.le_refl _) _).alloc (by rw [World.size_alloc]; omega) _
  have hx0 : Bx w1 w.heap.size [.int .i64 x.1, .int .i64 x.2] := by rw [hw1]; exact (Bx.new w [.int .i64 x.1, .int .i64 x.2] 35).alloc _
  have hx1 : Bx w1 (w.heap.size + 1) [.int .i64 0, .int .i64 0, .bool false] := by
    rw [hw1]
    have h := Bx.new (w.alloc (.cells #[.int .i64 x.1, .int .i64 x.2] 35)) [.int .i64 0, .int .i64 0, .bool false] 37
    rw [World.size_alloc] at h
    exact h
  have HPL := hidp (place_nil (h.below hB1) (by omega) x)
  have HX0 := hidp hx0
  have HX1 := hidp hx1
  have HB1 := hidp hB1
  have HW1 := hidp hw1
  have HSZ := hidp hsz1
  have HFL := hidp hfl
  have x0 := hx0.cell 0 rfl
  have x1 := hx0.cell 1 rfl
  have hp0 := pos_le (lt := II.lt) l x
  obtain ⟨p, hp⟩ : ∃ p, pos II.lt l x = p := ⟨_, rfl⟩
  obtain ⟨fd, hfd⟩ : ∃ fd, fnd II.lt l x = fd := ⟨_, rfl⟩
  rw [hp, hfd] at HPL
  rw [hp] at hp0
  have HPF := hidp (And.intro hp hfd)
  have hput : put II.lt l x = (l.take p ++ [x]) ++ l.drop (p + if fd then 1 else 0) := by unfold put; rw [hp, hfd]; simp
  rw [hput]
  have HIO : Hid (0 ≤ (p : Int) ∧ (p : Int) ≤ (l.length : Int) ∧ (p : Int) ≤ (cap : Int)) := hidp ⟨by omega, by omega, by omega⟩
  have hpi1 : (p : Int) ≤ (l.length : Int) := by omega
  have hpi2 : (p : Int) ≤ (cap : Int) := by omega
  clear hi0 hz0 hz1 hz2 h hB1 hx0 hx1 hsz1 hput
  by_cases h0 : l.length = 0
  · obtain rfl : l = [] := List.eq_nil_of_length_eq_zero h0
    obtain rfl : p = 0 := by simpa using hp0
    obtain rfl : fd = false := by rw [← hfd]; simp [fnd]
    have hlk : look II.lt [] x = none := by simp [look]
    rw [hlk]
    clear hlk hfl hp hfd h0 hp0 HFL
    cases a with
    | none =>
      go_enter Try.func28, Try.ntmps28
      go_wp2_with fail
      rw [← hw1]
      clear hw1
      refine HPL.out.mono ?_
      rintro e w2 ⟨rfl, hb2⟩
      have HX0b := hidp (Bx.below HX0.out hb2 (by have := HSZ.out; omega))
      have HX1b := hidp (Bx.below HX1.out hb2 (by have := HSZ.out; omega))
      have HB2 := hidp (HB1.out.trans (hb2.mono (by have := HSZ.out; omega)))
      have HSB := hidp hb2
      clear hb2 x0 x1 HPL
      go_wp2_with (at_builtin; go_must (refine wpList_rows rfl (.tmp 18) (.tmp 21) _ rfl 35 i0 _ 2 16 Try.underlying22 HI0.out HZ0.out HZ1.out HZ2.out rfl (by decide) (.slice (some ⟨w2.heap.size, 0, none⟩) 0 0) (0) [] w2.heap.size rfl (Row.empty 2 w2 #[] 35) ⟨0, 0, none⟩ (0) (cap) (itemCells EI []) ⟨_, rfl, fun hm => by first | rfl | (exfalso; omega)⟩ rfl (fun q u hq => by simp [itemCells] at hq) (itemCells_one _) (by unfold maxLen; omega) (by omega) ?_))
      intro v3 w3 g3 hr3 hg3 hF3
      have hg3' : w2.heap.size ≤ g3 := by rcases hg3 with h | h <;> (first | omega | (rw [World.size_alloc] at h; omega))
      have HF3 := hidp ((((Fr.refl (fun _ => False) w2).alloc (.cells #[] 35)).mono (fun _ h => h.elim)).trans hF3 (fun i hi => .inl hi))
      have HX0c := hidp (HX0b.out.keep HF3.out (by have := HX0b.out.1; show ¬ _ = _; omega))
      have HX1c := hidp (HX1b.out.keep HF3.out (by have := HX1b.out.1; show ¬ _ = _; omega))
      have HB3 := hidp (HB2.out.trans (HF3.out.below (B := w.heap.size) (by have := HX0b.out.1; omega) (fun i hi => by have := HX0b.out.1; have h2 : i = w2.heap.size := hi; omega)))
      have HR3 := hidp (hr3.alloc (.cells #[.int .i64 x.1, .int .i64 x.2] 35))
      have HG3 := hidp hg3'
      obtain ⟨a3, c3, hv3⟩ := hr3.len
      subst hv3
      have x2 := HX0c.out.cell 0 rfl
      have x3 := HX0c.out.cell 1 rfl
      clear hr3 hg3 hF3 hg3'
      go_wp2_with (at_builtin; go_must (refine wpList_row rfl (.tmp 23) (.tmp 25) _ rfl 35 i0 _ 2 16 Try.underlying22 HI0.out HZ0.out HZ1.out HZ2.out rfl (by decide) (.slice a3 (0 + 0) c3) (0 + 0) ([] ++ itemCells EI []) (some g3) rfl HR3.out ⟨w3.heap.size, 0, none⟩ 1 1 [.int .i64 x.1, .int .i64 x.2] rfl (by decide) rfl (fun q u hq => by rw [Addr.add_lit, Nat.zero_add]; exact (Bx.new w3 [.int .i64 x.1, .int .i64 x.2] 35).cell q hq) (by simp [Value.oneCell']) (by unfold maxLen; omega) (by omega) ?_))
      intro v4 w4 g4 hr4 hg4 hF4
      have hg4' : w.heap.size + 1 < g4 ∧ w2.heap.size ≤ g4 := by
        have h1 := HG3.out
        have h2 := HX1b.out.1
        have h3 := HF3.out.size
        rcases hg4 with h | h
        · have h5 : g3 = g4 := by first | exact h | exact Option.some.inj h
          omega
        · first | omega | (rw [World.size_alloc] at h; omega)
      have HF4 := hidp ((((Fr.refl (fun _ => False) w3).alloc (.cells #[.int .i64 x.1, .int .i64 x.2] 35)).mono (fun _ h => h.elim)).trans hF4 (fun i hi => .inl hi))
      have HX1d := hidp (HX1c.out.keep HF4.out (fun h => by have h5 : g3 = w.heap.size + 1 := (by first | exact h | exact Option.some.inj h); have := HG3.out; have := HX1b.out.1; omega))
      have HB4 := hidp (HB3.out.trans (HF4.out.below (B := w.heap.size) HB3.out.size (fun i hi => by have h5 : g3 = i := (by first | exact hi | exact Option.some.inj hi); have := HG3.out; have := HX1b.out.1; omega)))
      have HR4 := hidp hr4
      have HG4 := hidp hg4'
      obtain ⟨a4, c4, hv4⟩ := hr4.len
      subst hv4
      clear hr4 hg4 hF4 hg4' x2 x3
      go_wp2_with (at_builtin; go_must (refine wpList_rows rfl (.tmp 39) (.tmp 42) _ rfl 35 i0 _ 2 16 Try.underlying22 HI0.out HZ0.out HZ1.out HZ2.out rfl (by decide) (.slice a4 (0 + 0 + 1) c4) (0 + 0 + 1) (([] ++ itemCells EI []) ++ [.int .i64 x.1, .int .i64 x.2]) g4 rfl HR4.out ⟨0, 0, none⟩ (0) (cap) (itemCells EI []) ⟨_, rfl, fun hm => by first | rfl | (exfalso; omega)⟩ rfl (fun q u hq => by simp [itemCells] at hq) (itemCells_one _) (by unfold maxLen; omega) (by omega) ?_))
      intro v5 w5 g5 hr5 hg5 hF5
      have hx5 := HX1d.out.keep hF5 (by have := HG4.out.1; show ¬ _ = _; omega)
      have k0 := hx5.cell 0 rfl
      have k1 := hx5.cell 1 rfl
      have k2 := hx5.cell 2 rfl
      have f0 := hx5.froz 0 (v := .int .i64 0) rfl
      have f1 := hx5.froz 1 (v := .int .i64 0) rfl
      have f2 := hx5.froz 2 (v := .bool false) rfl
      have hl5 := hx5.1
      have hg5' : w.heap.size + 1 < g5 := by
        have h1 := HG4.out.1
        rcases hg5 with h | h
        · omega
        · have := HX1d.out.1; omega
      have HU := hidp (Bx.upd3 hx5 (.int .i64 0) (.int .i64 0) (.bool false))
      have HB5 := hidp (HB4.out.trans (hF5.below (B := w.heap.size) HB4.out.size (fun i hi => by have := HG4.out.1; have h2 : i = g4 := hi; omega)))
      have HR5 := hidp hr5
      have HG5 := hidp hg5'
      obtain ⟨a5, c5, hv5⟩ := hr5.len
      subst hv5
      clear hr5 hg5 hF5 hx5 hg5'
      go_wp2
      refine bodyPost_ret (v := .tuple #[.slice a5 (0 + 0 + 1 + (0)) c5, ff none]) (by simp [results, Try.results28, go_sem, ff, k0, k1, k2, f0, f1, f2]) rfl ?_
      have hfin := HR5.out.keep HU.out.fr (fun b hb h => by obtain rfl := Option.some.inj hb; have := HG5.out; have h2 : _ = w.heap.size + 1 := h; omega)
      refine ⟨_, rfl, some g5, ?_, fun b hb => by obtain rfl := Option.some.inj hb; have := HG5.out; omega, ((HB5.out.setCell (by show w.heap.size ≤ w.heap.size + 1; omega) _).setCell (by show w.heap.size ≤ w.heap.size + 1; omega) _).setCell (by show w.heap.size ≤ w.heap.size + 1; omega) _⟩
      simpa [itemCells, EI] using hfin
    | some ad =>
      go_enter Try.func28, Try.ntmps28
      go_wp2_with fail
      rw [← hw1]
      clear hw1
      refine HPL.out.mono ?_
      rintro e w2 ⟨rfl, hb2⟩
      have HX0b := hidp (Bx.below HX0.out hb2 (by have := HSZ.out; omega))
      have HX1b := hidp (Bx.below HX1.out hb2 (by have := HSZ.out; omega))
      have HB2 := hidp (HB1.out.trans (hb2.mono (by have := HSZ.out; omega)))
      have HSB := hidp hb2
      clear hb2 x0 x1 HPL
      go_wp2_with (at_builtin; go_must (refine wpList_rows rfl (.tmp 18) (.tmp 21) _ rfl 35 i0 _ 2 16 Try.underlying22 HI0.out HZ0.out HZ1.out HZ2.out rfl (by decide) (.slice (some ⟨w2.heap.size, 0, none⟩) 0 0) (0) [] w2.heap.size rfl (Row.empty 2 w2 #[] 35) ⟨0, 0, none⟩ (0) (cap) (itemCells EI []) ⟨_, rfl, fun hm => by first | rfl | (exfalso; omega)⟩ rfl (fun q u hq => by simp [itemCells] at hq) (itemCells_one _) (by unfold maxLen; omega) (by omega) ?_))
      intro v3 w3 g3 hr3 hg3 hF3
      have hg3' : w2.heap.size ≤ g3 := by rcases hg3 with h | h <;> (first | omega | (rw [World.size_alloc] at h; omega))
      have HF3 := hidp ((((Fr.refl (fun _ => False) w2).alloc (.cells #[] 35)).mono (fun _ h => h.elim)).trans hF3 (fun i hi => .inl hi))
      have HX0c := hidp (HX0b.out.keep HF3.out (by have := HX0b.out.1; show ¬ _ = _; omega))
      have HX1c := hidp (HX1b.out.keep HF3.out (by have := HX1b.out.1; show ¬ _ = _; omega))
      have HB3 := hidp (HB2.out.trans (HF3.out.below (B := w.heap.size) (by have := HX0b.out.1; omega) (fun i hi => by have := HX0b.out.1; have h2 : i = w2.heap.size := hi; omega)))
      have HR3 := hidp (hr3.alloc (.cells #[.int .i64 x.1, .int .i64 x.2] 35))
      have HG3 := hidp hg3'
      obtain ⟨a3, c3, hv3⟩ := hr3.len
      subst hv3
      have x2 := HX0c.out.cell 0 rfl
      have x3 := HX0c.out.cell 1 rfl
      clear hr3 hg3 hF3 hg3'
      go_wp2_with (at_builtin; go_must (refine wpList_row rfl (.tmp 23) (.tmp 25) _ rfl 35 i0 _ 2 16 Try.underlying22 HI0.out HZ0.out HZ1.out HZ2.out rfl (by decide) (.slice a3 (0 + 0) c3) (0 + 0) ([] ++ itemCells EI []) (some g3) rfl HR3.out ⟨w3.heap.size, 0, none⟩ 1 1 [.int .i64 x.1, .int .i64 x.2] rfl (by decide) rfl (fun q u hq => by rw [Addr.add_lit, Nat.zero_add]; exact (Bx.new w3 [.int .i64 x.1, .int .i64 x.2] 35).cell q hq) (by simp [Value.oneCell']) (by unfold maxLen; omega) (by omega) ?_))
      intro v4 w4 g4 hr4 hg4 hF4
      have hg4' : w.heap.size + 1 < g4 ∧ w2.heap.size ≤ g4 := by
        have h1 := HG3.out
        have h2 := HX1b.out.1
        have h3 := HF3.out.size
        rcases hg4 with h | h
        · have h5 : g3 = g4 := by first | exact h | exact Option.some.inj h
          omega
        · first | omega | (rw [World.size_alloc] at h; omega)
      have HF4 := hidp ((((Fr.refl (fun _ => False) w3).alloc (.cells #[.int .i64 x.1, .int .i64 x.2] 35)).mono (fun _ h => h.elim)).trans hF4 (fun i hi => .inl hi))
      have HX1d := hidp (HX1c.out.keep HF4.out (fun h => by have h5 : g3 = w.heap.size + 1 := (by first | exact h | exact Option.some.inj h); have := HG3.out; have := HX1b.out.1; omega))
      have HB4 := hidp (HB3.out.trans (HF4.out.below (B := w.heap.size) HB3.out.size (fun i hi => by have h5 : g3 = i := (by first | exact hi | exact Option.some.inj hi); have := HG3.out; have := HX1b.out.1; omega)))
      have HR4 := hidp hr4
      have HG4 := hidp hg4'
      obtain ⟨a4, c4, hv4⟩ := hr4.len
      subst hv4
      clear hr4 hg4 hF4 hg4' x2 x3
      go_wp2_with (at_builtin; go_must (refine wpList_rows rfl (.tmp 39) (.tmp 42) _ rfl 35 i0 _ 2 16 Try.underlying22 HI0.out HZ0.out HZ1.out HZ2.out rfl (by decide) (.slice a4 (0 + 0 + 1) c4) (0 + 0 + 1) (([] ++ itemCells EI []) ++ [.int .i64 x.1, .int .i64 x.2]) g4 rfl HR4.out ⟨0, 0, none⟩ (0) (cap) (itemCells EI []) ⟨_, rfl, fun hm => by first | rfl | (exfalso; omega)⟩ rfl (fun q u hq => by simp [itemCells] at hq) (itemCells_one _) (by unfold maxLen; omega) (by omega) ?_))
      intro v5 w5 g5 hr5 hg5 hF5
      have hx5 := HX1d.out.keep hF5 (by have := HG4.out.1; show ¬ _ = _; omega)
      have k0 := hx5.cell 0 rfl
      have k1 := hx5.cell 1 rfl
      have k2 := hx5.cell 2 rfl
      have f0 := hx5.froz 0 (v := .int .i64 0) rfl
      have f1 := hx5.froz 1 (v := .int .i64 0) rfl
      have f2 := hx5.froz 2 (v := .bool false) rfl
      have hl5 := hx5.1
      have hg5' : w.heap.size + 1 < g5 := by
        have h1 := HG4.out.1
        rcases hg5 with h | h
        · omega
        · have := HX1d.out.1; omega
      have HU := hidp (Bx.upd3 hx5 (.int .i64 0) (.int .i64 0) (.bool false))
      have HB5 := hidp (HB4.out.trans (hF5.below (B := w.heap.size) HB4.out.size (fun i hi => by have := HG4.out.1; have h2 : i = g4 := hi; omega)))
      have HR5 := hidp hr5
      have HG5 := hidp hg5'
      obtain ⟨a5, c5, hv5⟩ := hr5.len
      subst hv5
      clear hr5 hg5 hF5 hx5 hg5'
      go_wp2
      refine bodyPost_ret (v := .tuple #[.slice a5 (0 + 0 + 1 + (0)) c5, ff none]) (by simp [results, Try.results28, go_sem, ff, k0, k1, k2, f0, f1, f2]) rfl ?_
      have hfin := HR5.out.keep HU.out.fr (fun b hb h => by obtain rfl := Option.some.inj hb; have := HG5.out; have h2 : _ = w.heap.size + 1 := h; omega)
      refine ⟨_, rfl, some g5, ?_, fun b hb => by obtain rfl := Option.some.inj hb; have := HG5.out; omega, ((HB5.out.setCell (by show w.heap.size ≤ w.heap.size + 1; omega) _).setCell (by show w.heap.size ≤ w.heap.size + 1; omega) _).setCell (by show w.heap.size ≤ w.heap.size + 1; omega) _⟩
      simpa [itemCells, EI] using hfin
  · obtain ⟨b, off, rfl, hbl, hcell⟩ := hfl (by omega)
    have HC := hidp hcell
    clear hfl hcell hp hfd HFL
    cases fd with
    | false =>
      have hlk : look II.lt l x = none := look_of_fnd HPF.out.2
      rw [hlk]
      clear hlk
      go_enter Try.func28, Try.ntmps28
      go_wp2_with fail
      rw [← hw1]
      clear hw1
      refine HPL.out.mono ?_
      rintro e w2 ⟨rfl, hb2⟩
      have HX0b := hidp (Bx.below HX0.out hb2 (by have := HSZ.out; omega))
      have HX1b := hidp (Bx.below HX1.out hb2 (by have := HSZ.out; omega))
      have HB2 := hidp (HB1.out.trans (hb2.mono (by have := HSZ.out; omega)))
      have HSB := hidp hb2
      clear hb2 x0 x1 HPL
      have HFL3 : Hid (∀ j u, (itemCells EI l)[j]? = some u → w2.cell? ⟨b, off + j, none⟩ = some u) := hidp fun j u hu => (HSB.out.cell (p := ⟨b, off + j, none⟩) (by show b < w1.heap.size; have := HSZ.out; omega)).trans ((HB1.out.cell (p := ⟨b, off + j, none⟩) hbl).trans (HC.out j u hu))
      have hb2 : b < w2.heap.size := by have h1 := HSB.out.size; have := HSZ.out; omega
      go_wp2_with (at_builtin; go_must (refine wpList_rows rfl (.tmp 18) (.tmp 21) _ rfl 35 i0 _ 2 16 Try.underlying22 HI0.out HZ0.out HZ1.out HZ2.out rfl (by decide) (.slice (some ⟨w2.heap.size, 0, none⟩) 0 0) (0) [] w2.heap.size rfl (Row.empty 2 w2 #[] 35) ⟨b, off, none⟩ (p) (cap) (itemCells EI (l.take p)) ⟨_, rfl, fun hm => by first | rfl | simp⟩ (by rw [itemCells_length, List.length_take, Nat.min_eq_left hp0]; rfl) (fun q u hq => by rw [Addr.add_lit]; exact (World.cell?_alloc_lt _ _ _ hb2).trans (HFL3.out q u (by rw [← itemCells_take (E := EI)] at hq; rw [List.getElem?_take] at hq; split at hq; exact hq; cases hq))) (itemCells_one _) (by unfold maxLen; omega) (by omega) ?_))
      intro v3 w3 g3 hr3 hg3 hF3
      have hg3' : w2.heap.size ≤ g3 := by rcases hg3 with h | h <;> (first | omega | (rw [World.size_alloc] at h; omega))
      have HF3 := hidp ((((Fr.refl (fun _ => False) w2).alloc (.cells #[] 35)).mono (fun _ h => h.elim)).trans hF3 (fun i hi => .inl hi))
      have HX0c := hidp (HX0b.out.keep HF3.out (by have := HX0b.out.1; show ¬ _ = _; omega))
      have HX1c := hidp (HX1b.out.keep HF3.out (by have := HX1b.out.1; show ¬ _ = _; omega))
      have HB3 := hidp (HB2.out.trans (HF3.out.below (B := w.heap.size) (by have := HX0b.out.1; omega) (fun i hi => by have := HX0b.out.1; have h2 : i = w2.heap.size := hi; omega)))
      have HR3 := hidp (hr3.alloc (.cells #[.int .i64 x.1, .int .i64 x.2] 35))
      have HG3 := hidp hg3'
      obtain ⟨a3, c3, hv3⟩ := hr3.len
      subst hv3
      have x2 := HX0c.out.cell 0 rfl
      have x3 := HX0c.out.cell 1 rfl
      clear hr3 hg3 hF3 hg3'
      go_wp2_with (at_builtin; go_must (refine wpList_row rfl (.tmp 23) (.tmp 25) _ rfl 35 i0 _ 2 16 Try.underlying22 HI0.out HZ0.out HZ1.out HZ2.out rfl (by decide) (.slice a3 (p) c3) (p) (itemCells EI (l.take p)) (some g3) rfl HR3.out ⟨w3.heap.size, 0, none⟩ 1 1 [.int .i64 x.1, .int .i64 x.2] rfl (by decide) rfl (fun q u hq => by rw [Addr.add_lit, Nat.zero_add]; exact (Bx.new w3 [.int .i64 x.1, .int .i64 x.2] 35).cell q hq) (by simp [Value.oneCell']) (by unfold maxLen; omega) (by omega) ?_))
      intro v4 w4 g4 hr4 hg4 hF4
      have hg4' : w.heap.size + 1 < g4 ∧ w2.heap.size ≤ g4 := by
        have h1 := HG3.out
        have h2 := HX1b.out.1
        have h3 := HF3.out.size
        rcases hg4 with h | h
        · have h5 : g3 = g4 := by first | exact h | exact Option.some.inj h
          omega
        · first | omega | (rw [World.size_alloc] at h; omega)
      have HF4 := hidp ((((Fr.refl (fun _ => False) w3).alloc (.cells #[.int .i64 x.1, .int .i64 x.2] 35)).mono (fun _ h => h.elim)).trans hF4 (fun i hi => .inl hi))
      have HX1d := hidp (HX1c.out.keep HF4.out (fun h => by have h5 : g3 = w.heap.size + 1 := (by first | exact h | exact Option.some.inj h); have := HG3.out; have := HX1b.out.1; omega))
      have HB4 := hidp (HB3.out.trans (HF4.out.below (B := w.heap.size) HB3.out.size (fun i hi => by have h5 : g3 = i := (by first | exact hi | exact Option.some.inj hi); have := HG3.out; have := HX1b.out.1; omega)))
      have HR4 := hidp hr4
      have HG4 := hidp hg4'
      obtain ⟨a4, c4, hv4⟩ := hr4.len
      subst hv4
      clear hr4 hg4 hF4 hg4' x2 x3
      have HFL4 : Hid (∀ j u, (itemCells EI l)[j]? = some u → w4.cell? ⟨b, off + j, none⟩ = some u) := hidp fun j u hu => (HF4.out.cell (x := ⟨b, off + j, none⟩) (by show b < w3.heap.size; have h1 := HF3.out.size; omega) (fun h => by have h4 := HG3.out; have h5 : g3 = b := (by first | exact h | exact Option.some.inj h); omega)).trans ((HF3.out.cell (x := ⟨b, off + j, none⟩) hb2 (by show ¬ b = w2.heap.size; omega)).trans (HFL3.out j u hu))
      by_cases hcp : cap = p
      · go_wp2_with (at_builtin; go_must (refine wpList_rows rfl (.tmp 39) (.tmp 42) _ rfl 35 i0 _ 2 16 Try.underlying22 HI0.out HZ0.out HZ1.out HZ2.out rfl (by decide) (.slice a4 (p + 1) c4) (p + 1) (itemCells EI (l.take p) ++ [.int .i64 x.1, .int .i64 x.2]) g4 rfl HR4.out ⟨b, off + p * 2, none⟩ (l.length - p) (0) (itemCells EI (l.drop p)) ⟨_, rfl, fun hm => by exfalso; omega⟩ (by rw [itemCells_length, List.length_drop]; rfl) (fun q u hq => by rw [Addr.add_lit, Nat.add_assoc]; refine HFL4.out (p * 2 + q) u ?_; rw [← itemCells_drop (E := EI), List.getElem?_drop] at hq; exact hq) (itemCells_one _) (by unfold maxLen; omega) (by omega) ?_))
        intro v5 w5 g5 hr5 hg5 hF5
        have hx5 := HX1d.out.keep hF5 (by have := HG4.out.1; show ¬ _ = _; omega)
        have k0 := hx5.cell 0 rfl
        have k1 := hx5.cell 1 rfl
        have k2 := hx5.cell 2 rfl
        have f0 := hx5.froz 0 (v := .int .i64 0) rfl
        have f1 := hx5.froz 1 (v := .int .i64 0) rfl
        have f2 := hx5.froz 2 (v := .bool false) rfl
        have hl5 := hx5.1
        have hg5' : w.heap.size + 1 < g5 := by
          have h1 := HG4.out.1
          rcases hg5 with h | h
          · omega
          · have := HX1d.out.1; omega
        have HU := hidp (Bx.upd3 hx5 (.int .i64 0) (.int .i64 0) (.bool false))
        have HB5 := hidp (HB4.out.trans (hF5.below (B := w.heap.size) HB4.out.size (fun i hi => by have := HG4.out.1; have h2 : i = g4 := hi; omega)))
        have HR5 := hidp hr5
        have HG5 := hidp hg5'
        obtain ⟨a5, c5, hv5⟩ := hr5.len
        subst hv5
        clear hr5 hg5 hF5 hx5 hg5'
        go_wp2
        refine bodyPost_ret (v := .tuple #[.slice a5 (p + 1 + (l.length - p)) c5, ff none]) (by simp [results, Try.results28, go_sem, ff, k0, k1, k2, f0, f1, f2]) rfl ?_
        have hfin := HR5.out.keep HU.out.fr (fun b hb h => by obtain rfl := Option.some.inj hb; have := HG5.out; have h2 : _ = w.heap.size + 1 := h; omega)
        refine ⟨_, rfl, some g5, ?_, fun b hb => by obtain rfl := Option.some.inj hb; have := HG5.out; omega, ((HB5.out.setCell (by show w.heap.size ≤ w.heap.size + 1; omega) _).setCell (by show w.heap.size ≤ w.heap.size + 1; omega) _).setCell (by show w.heap.size ≤ w.heap.size + 1; omega) _⟩
        have hlen : ((l.take p ++ [x]) ++ l.drop p).length = p + 1 + (l.length - p) := by simp; omega
        rw [show l.take p ++ x :: l.drop p = (l.take p ++ [x]) ++ l.drop p by simp]
        have e1 : itemCells EI [x] = [Value.int .i64 x.1, Value.int .i64 x.2] := rfl
        rw [hlen, itemCells_append, itemCells_append, e1, List.append_assoc]
        exact hfin
      · go_wp2_with (at_builtin; go_must (refine wpList_rows rfl (.tmp 39) (.tmp 42) _ rfl 35 i0 _ 2 16 Try.underlying22 HI0.out HZ0.out HZ1.out HZ2.out rfl (by decide) (.slice a4 (p + 1) c4) (p + 1) (itemCells EI (l.take p) ++ [.int .i64 x.1, .int .i64 x.2]) g4 rfl HR4.out ⟨b, off + p * 2, none⟩ (l.length - p) (cap - p) (itemCells EI (l.drop p)) ⟨_, rfl, fun hm => by first | rfl | (rw [if_neg hcp]; rfl) | simp [hcp]⟩ (by rw [itemCells_length, List.length_drop]; rfl) (fun q u hq => by rw [Addr.add_lit, Nat.add_assoc]; refine HFL4.out (p * 2 + q) u ?_; rw [← itemCells_drop (E := EI), List.getElem?_drop] at hq; exact hq) (itemCells_one _) (by unfold maxLen; omega) (by omega) ?_))
        intro v5 w5 g5 hr5 hg5 hF5
        have hx5 := HX1d.out.keep hF5 (by have := HG4.out.1; show ¬ _ = _; omega)
        have k0 := hx5.cell 0 rfl
        have k1 := hx5.cell 1 rfl
        have k2 := hx5.cell 2 rfl
        have f0 := hx5.froz 0 (v := .int .i64 0) rfl
        have f1 := hx5.froz 1 (v := .int .i64 0) rfl
        have f2 := hx5.froz 2 (v := .bool false) rfl
        have hl5 := hx5.1
        have hg5' : w.heap.size + 1 < g5 := by
          have h1 := HG4.out.1
          rcases hg5 with h | h
          · omega
          · have := HX1d.out.1; omega
        have HU := hidp (Bx.upd3 hx5 (.int .i64 0) (.int .i64 0) (.bool false))
        have HB5 := hidp (HB4.out.trans (hF5.below (B := w.heap.size) HB4.out.size (fun i hi => by have := HG4.out.1; have h2 : i = g4 := hi; omega)))
        have HR5 := hidp hr5
        have HG5 := hidp hg5'
        obtain ⟨a5, c5, hv5⟩ := hr5.len
        subst hv5
        clear hr5 hg5 hF5 hx5 hg5'
        go_wp2
        refine bodyPost_ret (v := .tuple #[.slice a5 (p + 1 + (l.length - p)) c5, ff none]) (by simp [results, Try.results28, go_sem, ff, k0, k1, k2, f0, f1, f2]) rfl ?_
        have hfin := HR5.out.keep HU.out.fr (fun b hb h => by obtain rfl := Option.some.inj hb; have := HG5.out; have h2 : _ = w.heap.size + 1 := h; omega)
        refine ⟨_, rfl, some g5, ?_, fun b hb => by obtain rfl := Option.some.inj hb; have := HG5.out; omega, ((HB5.out.setCell (by show w.heap.size ≤ w.heap.size + 1; omega) _).setCell (by show w.heap.size ≤ w.heap.size + 1; omega) _).setCell (by show w.heap.size ≤ w.heap.size + 1; omega) _⟩
        have hlen : ((l.take p ++ [x]) ++ l.drop p).length = p + 1 + (l.length - p) := by simp; omega
        rw [show l.take p ++ x :: l.drop p = (l.take p ++ [x]) ++ l.drop p by simp]
        have e1 : itemCells EI [x] = [Value.int .i64 x.1, Value.int .i64 x.2] := rfl
        rw [hlen, itemCells_append, itemCells_append, e1, List.append_assoc]
        exact hfin
    | true =>
      obtain ⟨y, hlk⟩ : ∃ y, look II.lt l x = some y := by
        have h1 := HPF.out.2
        rw [fnd_look] at h1
        exact Option.isSome_iff_exists.1 h1
      rw [hlk]
      obtain ⟨hy, _, hpl⟩ := look_some hlk
      rw [HPF.out.1] at hy hpl
      clear hlk
      go_enter Try.func28, Try.ntmps28
      go_wp2_with fail
      rw [← hw1]
      clear hw1
      refine HPL.out.mono ?_
      rintro e w2 ⟨rfl, hb2⟩
      have HX0b := hidp (Bx.below HX0.out hb2 (by have := HSZ.out; omega))
      have HX1b := hidp (Bx.below HX1.out hb2 (by have := HSZ.out; omega))
      have HB2 := hidp (HB1.out.trans (hb2.mono (by have := HSZ.out; omega)))
      have HSB := hidp hb2
      clear hb2 x0 x1 HPL
      have HFL3 : Hid (∀ j u, (itemCells EI l)[j]? = some u → w2.cell? ⟨b, off + j, none⟩ = some u) := hidp fun j u hu => (HSB.out.cell (p := ⟨b, off + j, none⟩) (by show b < w1.heap.size; have := HSZ.out; omega)).trans ((HB1.out.cell (p := ⟨b, off + j, none⟩) hbl).trans (HC.out j u hu))
      have hb2 : b < w2.heap.size := by have h1 := HSB.out.size; have := HSZ.out; omega
      go_wp2_with (at_builtin; go_must (refine wpList_rows rfl (.tmp 18) (.tmp 21) _ rfl 35 i0 _ 2 16 Try.underlying22 HI0.out HZ0.out HZ1.out HZ2.out rfl (by decide) (.slice (some ⟨w2.heap.size, 0, none⟩) 0 0) (0) [] w2.heap.size rfl (Row.empty 2 w2 #[] 35) ⟨b, off, none⟩ (p) (cap) (itemCells EI (l.take p)) ⟨_, rfl, fun hm => by first | rfl | simp⟩ (by rw [itemCells_length, List.length_take, Nat.min_eq_left hp0]; rfl) (fun q u hq => by rw [Addr.add_lit]; exact (World.cell?_alloc_lt _ _ _ hb2).trans (HFL3.out q u (by rw [← itemCells_take (E := EI)] at hq; rw [List.getElem?_take] at hq; split at hq; exact hq; cases hq))) (itemCells_one _) (by unfold maxLen; omega) (by omega) ?_))
      intro v3 w3 g3 hr3 hg3 hF3
      have hg3' : w2.heap.size ≤ g3 := by rcases hg3 with h | h <;> (first | omega | (rw [World.size_alloc] at h; omega))
      have HF3 := hidp ((((Fr.refl (fun _ => False) w2).alloc (.cells #[] 35)).mono (fun _ h => h.elim)).trans hF3 (fun i hi => .inl hi))
      have HX0c := hidp (HX0b.out.keep HF3.out (by have := HX0b.out.1; show ¬ _ = _; omega))
      have HX1c := hidp (HX1b.out.keep HF3.out (by have := HX1b.out.1; show ¬ _ = _; omega))
      have HB3 := hidp (HB2.out.trans (HF3.out.below (B := w.heap.size) (by have := HX0b.out.1; omega) (fun i hi => by have := HX0b.out.1; have h2 : i = w2.heap.size := hi; omega)))
      have HR3 := hidp (hr3.alloc (.cells #[.int .i64 x.1, .int .i64 x.2] 35))
      have HG3 := hidp hg3'
      obtain ⟨a3, c3, hv3⟩ := hr3.len
      subst hv3
      have x2 := HX0c.out.cell 0 rfl
      have x3 := HX0c.out.cell 1 rfl
      clear hr3 hg3 hF3 hg3'
      go_wp2_with (at_builtin; go_must (refine wpList_row rfl (.tmp 23) (.tmp 25) _ rfl 35 i0 _ 2 16 Try.underlying22 HI0.out HZ0.out HZ1.out HZ2.out rfl (by decide) (.slice a3 (p) c3) (p) (itemCells EI (l.take p)) (some g3) rfl HR3.out ⟨w3.heap.size, 0, none⟩ 1 1 [.int .i64 x.1, .int .i64 x.2] rfl (by decide) rfl (fun q u hq => by rw [Addr.add_lit, Nat.zero_add]; exact (Bx.new w3 [.int .i64 x.1, .int .i64 x.2] 35).cell q hq) (by simp [Value.oneCell']) (by unfold maxLen; omega) (by omega) ?_))
      intro v4 w4 g4 hr4 hg4 hF4
      have hg4' : w.heap.size + 1 < g4 ∧ w2.heap.size ≤ g4 := by
        have h1 := HG3.out
        have h2 := HX1b.out.1
        have h3 := HF3.out.size
        rcases hg4 with h | h
        · have h5 : g3 = g4 := by first | exact h | exact Option.some.inj h
          omega
        · first | omega | (rw [World.size_alloc] at h; omega)
      have HF4 := hidp ((((Fr.refl (fun _ => False) w3).alloc (.cells #[.int .i64 x.1, .int .i64 x.2] 35)).mono (fun _ h => h.elim)).trans hF4 (fun i hi => .inl hi))
      have HX1d := hidp (HX1c.out.keep HF4.out (fun h => by have h5 : g3 = w.heap.size + 1 := (by first | exact h | exact Option.some.inj h); have := HG3.out; have := HX1b.out.1; omega))
      have HB4 := hidp (HB3.out.trans (HF4.out.below (B := w.heap.size) HB3.out.size (fun i hi => by have h5 : g3 = i := (by first | exact hi | exact Option.some.inj hi); have := HG3.out; have := HX1b.out.1; omega)))
      have HR4 := hidp hr4
      have HG4 := hidp hg4'
      obtain ⟨a4, c4, hv4⟩ := hr4.len
      subst hv4
      clear hr4 hg4 hF4 hg4' x2 x3
      have HFL4 : Hid (∀ j u, (itemCells EI l)[j]? = some u → w4.cell? ⟨b, off + j, none⟩ = some u) := hidp fun j u hu => (HF4.out.cell (x := ⟨b, off + j, none⟩) (by show b < w3.heap.size; have h1 := HF3.out.size; omega) (fun h => by have h4 := HG3.out; have h5 : g3 = b := (by first | exact h | exact Option.some.inj h); omega)).trans ((HF3.out.cell (x := ⟨b, off + j, none⟩) hb2 (by show ¬ b = w2.heap.size; omega)).trans (HFL3.out j u hu))
      have y1 : w4.cell? ⟨b, off + p * 2, none⟩ = some (.int .i64 y.1) := HFL4.out (p * 2) _ (by have h2 := itemCells_get (E := EI) l p y hy 0 (by decide); simpa [EI] using h2)
      have y2 : w4.cell? ⟨b, off + p * 2 + 1, none⟩ = some (.int .i64 y.2) := by
        rw [Nat.add_assoc]
        exact HFL4.out (p * 2 + 1) _ (by have h2 := itemCells_get (E := EI) l p y hy 1 (by decide); simpa [EI] using h2)
      have hb4 : b < w4.heap.size := by have h1 := HF3.out.size; have h2 := HF4.out.size; omega
      have hbg : ¬ b = g4 := by have := HG4.out.2; omega
      have hpi3 : (p : Int) < (l.length : Int) := by omega
      have hpi4 : (p : Int) + 1 ≤ (l.length : Int) := by omega
      have hpi5 : (0 : Int) ≤ (p : Int) + 1 := by omega
      have hw1p : IntKind.i64.wrap ((p : Int) + 1) = ((p + 1 : Nat) : Int) := by rw [Last.i64_w, IntWalk.wrap64_in _ ⟨by omega, by omega⟩]; omega
      by_cases hcp : cap = p + 1
      · go_wp2_with fail
        refine Last.start_ (S := fun w' => w'.cell? ⟨b, off + p * 2, none⟩ = some (.int .i64 y.1) ∧ w'.cell? ⟨b, off + p * 2 + 1, none⟩ = some (.int .i64 y.2)) (ds := [12]) #[Z,Z,Z,Z,Z,Z,Z,Z,Z,Z,Z,Z,Z] (by rfl) (by rfl) (by rfl) ?_ (fun hHeld => ?_)
        · go_keep
        refine Last.take_ (i := 0) (N := some 28) (v := ?_) #[Y,Z,Z,Z,Z,Z,Z,Z,Z,Z,Z,Z,Z] rfl rfl (by kernel_rfl) (fun _ _ _ h => h) (Or.inl ⟨by rfl, ?_⟩) hHeld rfl ?_
        rotate_left
        · (intro w hSw; (try dsimp only at hSw); go_simp; try with_reducible rfl)
        try simp only [Act.put, setIfInBounds_toArray, set_cons_zero, set_cons_succ]
        refine Last.take_ (i := 1) (N := some 29) (v := ?_) #[Y,Y,Z,Z,Z,Z,Z,Z,Z,Z,Z,Z,Z] rfl rfl (by kernel_rfl) (fun _ _ _ h => h) (Or.inl ⟨by rfl, ?_⟩) hHeld rfl ?_
        rotate_left
        · (intro w hSw; (try dsimp only at hSw); go_simp; try with_reducible rfl)
        try simp only [Act.put, setIfInBounds_toArray, set_cons_zero, set_cons_succ]
        refine Last.take_ (i := 2) (N := some 30) (v := ?_) #[Y,Y,Y,Z,Z,Z,Z,Z,Z,Z,Z,Z,Z] rfl rfl (by kernel_rfl) (fun _ _ _ h => h) (Or.inl ⟨by rfl, ?_⟩) hHeld rfl ?_
        rotate_left
        · (intro w hSw; (try dsimp only at hSw); go_simp; try with_reducible rfl)
        try simp only [Act.put, setIfInBounds_toArray, set_cons_zero, set_cons_succ]
        refine Last.take_ (i := 3) (N := some 31) (v := ?_) #[Y,Y,Y,Y,Z,Z,Z,Z,Z,Z,Z,Z,Z] rfl rfl (by kernel_rfl) (fun _ _ _ h => h) (Or.inl ⟨by rfl, ?_⟩) hHeld rfl ?_
        rotate_left
        · (intro w hSw; (try dsimp only at hSw); go_simp; try with_reducible rfl)
        try simp only [Act.put, setIfInBounds_toArray, set_cons_zero, set_cons_succ]
        refine Last.take_ (i := 4) (N := some 32) (v := ?_) #[Y,Y,Y,Y,Y,Z,Z,Z,Z,Z,Z,Z,Z] rfl rfl (by kernel_rfl) (fun _ _ _ h => h) (Or.inl ⟨by rfl, ?_⟩) hHeld rfl ?_
        rotate_left
        · (intro w hSw; (try dsimp only at hSw); go_simp; try with_reducible rfl)
        try simp only [Act.put, setIfInBounds_toArray, set_cons_zero, set_cons_succ]
        refine Last.take_ (i := 6) (N := some 34) (v := ?_) #[Y,Y,Y,Y,Y,Z,Y,Z,Z,Z,Z,Z,Z] rfl rfl (by kernel_rfl) (fun _ _ _ h => h) (Or.inl ⟨by rfl, ?_⟩) hHeld rfl ?_
        rotate_left
        · (intro w hSw; (try dsimp only at hSw); go_simp; try with_reducible rfl)
        try simp only [Act.put, setIfInBounds_toArray, set_cons_zero, set_cons_succ]
        refine Last.take_ (i := 7) (N := some 35) (v := ?_) #[Y,Y,Y,Y,Y,Z,Y,Y,Z,Z,Z,Z,Z] rfl rfl (by kernel_rfl) (fun _ _ _ h => h) (Or.inl ⟨by rfl, ?_⟩) hHeld rfl ?_
        rotate_left
        · (intro w hSw; (try dsimp only at hSw); go_simp; try with_reducible rfl)
        try simp only [Act.put, setIfInBounds_toArray, set_cons_zero, set_cons_succ]
        refine Last.take_ (i := 8) (N := some 36) (v := ?_) #[Y,Y,Y,Y,Y,Z,Y,Y,Y,Z,Z,Z,Z] rfl rfl (by kernel_rfl) (fun _ _ _ h => h) (Or.inl ⟨by rfl, ?_⟩) hHeld rfl ?_
        rotate_left
        · (intro w hSw; (try dsimp only at hSw); go_simp; try with_reducible rfl)
        try simp only [Act.put, setIfInBounds_toArray, set_cons_zero, set_cons_succ]
        refine Last.take_ (i := 9) (N := some 37) (v := ?_) #[Y,Y,Y,Y,Y,Z,Y,Y,Y,Y,Z,Z,Z] rfl rfl (by kernel_rfl) (fun _ _ _ h => h) (Or.inl ⟨by rfl, ?_⟩) hHeld rfl ?_
        rotate_left
        · (intro w hSw; (try dsimp only at hSw); go_simp; try with_reducible rfl)
        try simp only [Act.put, setIfInBounds_toArray, set_cons_zero, set_cons_succ]
        refine Last.take_ (i := 10) (N := some 38) (v := ?_) #[Y,Y,Y,Y,Y,Z,Y,Y,Y,Y,Y,Z,Z] rfl rfl (by kernel_rfl) (fun _ _ _ h => h) (Or.inl ⟨by rfl, ?_⟩) hHeld rfl ?_
        rotate_left
        · (intro w hSw; (try dsimp only at hSw); go_simp; try with_reducible rfl)
        try simp only [Act.put, setIfInBounds_toArray, set_cons_zero, set_cons_succ]
        refine Last.one_ (i := 5) (N := some 33) #[Y,Y,Y,Y,Y,Y,Y,Y,Y,Y,Y,Z,Z] rfl rfl (by kernel_rfl) (by decide) (fun K hK => ?_)
        refine step_rows (by rfl) _ _ _ (by rfl) 35 i0 _ 2 16 Try.underlying22 HI0.out HZ0.out HZ1.out HZ2.out (by rfl) (by decide) (.slice a4 (p + 1) c4) (p + 1) (itemCells EI (l.take p) ++ [.int .i64 x.1, .int .i64 x.2]) g4 (by rfl) HR4.out.drew ⟨b, off + (p + 1) * 2, none⟩ (l.length - (p + 1)) (0) (itemCells EI (l.drop (p + 1))) ⟨_, rfl, fun hm => by exfalso; omega⟩ (by rw [itemCells_length, List.length_drop]; rfl) (fun q u hq => by rw [Addr.add_lit, Nat.add_assoc]; refine HFL4.out ((p + 1) * 2 + q) u ?_; rw [← itemCells_drop (E := EI), List.getElem?_drop] at hq; exact hq) (itemCells_one _) (by unfold maxLen; omega) (by omega) ?_
        intro v5 w5 g5 hr5 hg5 hF5
        have y1 := (hF5.cell (x := ⟨b, off + p * 2, none⟩) (by show b < w4.heap.size; omega) hbg).trans y1
        have y2 := (hF5.cell (x := ⟨b, off + p * 2 + 1, none⟩) (by show b < w4.heap.size; omega) hbg).trans y2
        have hx5 := HX1d.out.drew.keep hF5 (by have := HG4.out.1; show ¬ _ = _; omega)
        have k0 := hx5.cell 0 rfl
        have k1 := hx5.cell 1 rfl
        have k2 := hx5.cell 2 rfl
        have f0 := hx5.froz 0 (v := .int .i64 0) rfl
        have f1 := hx5.froz 1 (v := .int .i64 0) rfl
        have f2 := hx5.froz 2 (v := .bool false) rfl
        have hl5 := hx5.1
        have hg5' : w.heap.size + 1 < g5 := by
          have h1 := HG4.out.1
          rcases hg5 with h | h
          · omega
          · have h2 : w.heap.size + 1 < w4.heap.size := HX1d.out.1
            have h3 : w4.heap.size ≤ g5 := h
            omega
        have HU := hidp (Bx.upd3 hx5 (.int .i64 y.1) (.int .i64 y.2) (.bool true))
        have HB5 := hidp (HB4.out.drew.trans (hF5.below (B := w.heap.size) HB4.out.size (fun i hi => by have := HG4.out.1; have h2 : i = g4 := hi; omega)))
        have HR5 := hidp hr5
        have HG5 := hidp hg5'
        obtain ⟨a5, c5, hv5⟩ := hr5.len
        subst hv5
        clear hr5 hg5 hF5 hx5 hg5'
        refine hK.out _ _ ?_ (fun hHeld => ?_)
        · (try dsimp only); go_keep
        clear hK K
        try simp only [Act.put, setIfInBounds_toArray, set_cons_zero, set_cons_succ]
        refine Last.take_ (i := 11) (N := some 6) (v := ?_) #[Y,Y,Y,Y,Y,Y,Y,Y,Y,Y,Y,Y,Z] rfl rfl (by kernel_rfl) (fun _ _ _ h => h) (Or.inl ⟨by rfl, ?_⟩) hHeld rfl ?_
        rotate_left
        · (intro w hSw; (try dsimp only at hSw); go_simp; try with_reducible rfl)
        try simp only [Act.put, setIfInBounds_toArray, set_cons_zero, set_cons_succ]
        refine Last.last_ (i := 12) (N := none) #[Y,Y,Y,Y,Y,Y,Y,Y,Y,Y,Y,Y,Y] rfl rfl (by kernel_rfl) (by decide) (fun K hK => ?_)
        go_simp
        refine hK.out _ _ ?_
        clear hK K
        try simp only [Act.put, setIfInBounds_toArray, set_cons_zero, set_cons_succ]
        refine Last.done_ (by kernel_rfl) ?_
        go_wp2
        refine bodyPost_ret (v := .tuple #[.slice a5 (p + 1 + (l.length - (p + 1))) c5, ff (some y)]) (by simp [results, Try.results28, go_sem, ff, k0, k1, k2, f0, f1, f2]) rfl ?_
        have hfin := HR5.out.keep HU.out.fr (fun b hb h => by obtain rfl := Option.some.inj hb; have := HG5.out; have h2 : _ = w.heap.size + 1 := h; omega)
        refine ⟨_, rfl, some g5, ?_, fun b hb => by obtain rfl := Option.some.inj hb; have := HG5.out; omega, ((HB5.out.setCell (by show w.heap.size ≤ w.heap.size + 1; omega) _).setCell (by show w.heap.size ≤ w.heap.size + 1; omega) _).setCell (by show w.heap.size ≤ w.heap.size + 1; omega) _⟩
        have hlen : ((l.take p ++ [x]) ++ l.drop (p + 1)).length = p + 1 + (l.length - (p + 1)) := by simp; omega
        rw [show l.take p ++ x :: l.drop (p + 1) = (l.take p ++ [x]) ++ l.drop (p + 1) by simp]
        have e1 : itemCells EI [x] = [Value.int .i64 x.1, Value.int .i64 x.2] := rfl
        rw [hlen, itemCells_append, itemCells_append, e1, List.append_assoc]
        first | exact hfin | (rw [List.append_assoc] at hfin; exact hfin)
      · go_wp2_with fail
        refine Last.start_ (S := fun w' => w'.cell? ⟨b, off + p * 2, none⟩ = some (.int .i64 y.1) ∧ w'.cell? ⟨b, off + p * 2 + 1, none⟩ = some (.int .i64 y.2)) (ds := [12]) #[Z,Z,Z,Z,Z,Z,Z,Z,Z,Z,Z,Z,Z] (by rfl) (by rfl) (by rfl) ?_ (fun hHeld => ?_)
        · go_keep
        refine Last.take_ (i := 0) (N := some 28) (v := ?_) #[Y,Z,Z,Z,Z,Z,Z,Z,Z,Z,Z,Z,Z] rfl rfl (by kernel_rfl) (fun _ _ _ h => h) (Or.inl ⟨by rfl, ?_⟩) hHeld rfl ?_
        rotate_left
        · (intro w hSw; (try dsimp only at hSw); go_simp; try with_reducible rfl)
        try simp only [Act.put, setIfInBounds_toArray, set_cons_zero, set_cons_succ]
        refine Last.take_ (i := 1) (N := some 29) (v := ?_) #[Y,Y,Z,Z,Z,Z,Z,Z,Z,Z,Z,Z,Z] rfl rfl (by kernel_rfl) (fun _ _ _ h => h) (Or.inl ⟨by rfl, ?_⟩) hHeld rfl ?_
        rotate_left
        · (intro w hSw; (try dsimp only at hSw); go_simp; try with_reducible rfl)
        try simp only [Act.put, setIfInBounds_toArray, set_cons_zero, set_cons_succ]
        refine Last.take_ (i := 2) (N := some 30) (v := ?_) #[Y,Y,Y,Z,Z,Z,Z,Z,Z,Z,Z,Z,Z] rfl rfl (by kernel_rfl) (fun _ _ _ h => h) (Or.inl ⟨by rfl, ?_⟩) hHeld rfl ?_
        rotate_left
        · (intro w hSw; (try dsimp only at hSw); go_simp; try with_reducible rfl)
        try simp only [Act.put, setIfInBounds_toArray, set_cons_zero, set_cons_succ]
        refine Last.take_ (i := 3) (N := some 31) (v := ?_) #[Y,Y,Y,Y,Z,Z,Z,Z,Z,Z,Z,Z,Z] rfl rfl (by kernel_rfl) (fun _ _ _ h => h) (Or.inl ⟨by rfl, ?_⟩) hHeld rfl ?_
        rotate_left
        · (intro w hSw; (try dsimp only at hSw); go_simp; try with_reducible rfl)
        try simp only [Act.put, setIfInBounds_toArray, set_cons_zero, set_cons_succ]
        refine Last.take_ (i := 4) (N := some 32) (v := ?_) #[Y,Y,Y,Y,Y,Z,Z,Z,Z,Z,Z,Z,Z] rfl rfl (by kernel_rfl) (fun _ _ _ h => h) (Or.inl ⟨by rfl, ?_⟩) hHeld rfl ?_
        rotate_left
        · (intro w hSw; (try dsimp only at hSw); go_simp; try with_reducible rfl)
        try simp only [Act.put, setIfInBounds_toArray, set_cons_zero, set_cons_succ]
        refine Last.take_ (i := 6) (N := some 34) (v := ?_) #[Y,Y,Y,Y,Y,Z,Y,Z,Z,Z,Z,Z,Z] rfl rfl (by kernel_rfl) (fun _ _ _ h => h) (Or.inl ⟨by rfl, ?_⟩) hHeld rfl ?_
        rotate_left
        · (intro w hSw; (try dsimp only at hSw); go_simp; try with_reducible rfl)
        try simp only [Act.put, setIfInBounds_toArray, set_cons_zero, set_cons_succ]
        refine Last.take_ (i := 7) (N := some 35) (v := ?_) #[Y,Y,Y,Y,Y,Z,Y,Y,Z,Z,Z,Z,Z] rfl rfl (by kernel_rfl) (fun _ _ _ h => h) (Or.inl ⟨by rfl, ?_⟩) hHeld rfl ?_
        rotate_left
        · (intro w hSw; (try dsimp only at hSw); go_simp; try with_reducible rfl)
        try simp only [Act.put, setIfInBounds_toArray, set_cons_zero, set_cons_succ]
        refine Last.take_ (i := 8) (N := some 36) (v := ?_) #[Y,Y,Y,Y,Y,Z,Y,Y,Y,Z,Z,Z,Z] rfl rfl (by kernel_rfl) (fun _ _ _ h => h) (Or.inl ⟨by rfl, ?_⟩) hHeld rfl ?_
        rotate_left
        · (intro w hSw; (try dsimp only at hSw); go_simp; try with_reducible rfl)
        try simp only [Act.put, setIfInBounds_toArray, set_cons_zero, set_cons_succ]
        refine Last.take_ (i := 9) (N := some 37) (v := ?_) #[Y,Y,Y,Y,Y,Z,Y,Y,Y,Y,Z,Z,Z] rfl rfl (by kernel_rfl) (fun _ _ _ h => h) (Or.inl ⟨by rfl, ?_⟩) hHeld rfl ?_
        rotate_left
        · (intro w hSw; (try dsimp only at hSw); go_simp; try with_reducible rfl)
        try simp only [Act.put, setIfInBounds_toArray, set_cons_zero, set_cons_succ]
        refine Last.take_ (i := 10) (N := some 38) (v := ?_) #[Y,Y,Y,Y,Y,Z,Y,Y,Y,Y,Y,Z,Z] rfl rfl (by kernel_rfl) (fun _ _ _ h => h) (Or.inl ⟨by rfl, ?_⟩) hHeld rfl ?_
        rotate_left
        · (intro w hSw; (try dsimp only at hSw); go_simp; try with_reducible rfl)
        try simp only [Act.put, setIfInBounds_toArray, set_cons_zero, set_cons_succ]
        refine Last.one_ (i := 5) (N := some 33) #[Y,Y,Y,Y,Y,Y,Y,Y,Y,Y,Y,Z,Z] rfl rfl (by kernel_rfl) (by decide) (fun K hK => ?_)
        refine step_rows (by rfl) _ _ _ (by rfl) 35 i0 _ 2 16 Try.underlying22 HI0.out HZ0.out HZ1.out HZ2.out (by rfl) (by decide) (.slice a4 (p + 1) c4) (p + 1) (itemCells EI (l.take p) ++ [.int .i64 x.1, .int .i64 x.2]) g4 (by rfl) HR4.out.drew ⟨b, off + (p + 1) * 2, none⟩ (l.length - (p + 1)) (cap - (p + 1)) (itemCells EI (l.drop (p + 1))) ⟨_, rfl, fun hm => by first | rfl | (rw [if_neg hcp]; rfl) | simp [hcp]⟩ (by rw [itemCells_length, List.length_drop]; rfl) (fun q u hq => by rw [Addr.add_lit, Nat.add_assoc]; refine HFL4.out ((p + 1) * 2 + q) u ?_; rw [← itemCells_drop (E := EI), List.getElem?_drop] at hq; exact hq) (itemCells_one _) (by unfold maxLen; omega) (by omega) ?_
        intro v5 w5 g5 hr5 hg5 hF5
        have y1 := (hF5.cell (x := ⟨b, off + p * 2, none⟩) (by show b < w4.heap.size; omega) hbg).trans y1
        have y2 := (hF5.cell (x := ⟨b, off + p * 2 + 1, none⟩) (by show b < w4.heap.size; omega) hbg).trans y2
        have hx5 := HX1d.out.drew.keep hF5 (by have := HG4.out.1; show ¬ _ = _; omega)
        have k0 := hx5.cell 0 rfl
        have k1 := hx5.cell 1 rfl
        have k2 := hx5.cell 2 rfl
        have f0 := hx5.froz 0 (v := .int .i64 0) rfl
        have f1 := hx5.froz 1 (v := .int .i64 0) rfl
        have f2 := hx5.froz 2 (v := .bool false) rfl
        have hl5 := hx5.1
        have hg5' : w.heap.size + 1 < g5 := by
          have h1 := HG4.out.1
          rcases hg5 with h | h
          · omega
          · have h2 : w.heap.size + 1 < w4.heap.size := HX1d.out.1
            have h3 : w4.heap.size ≤ g5 := h
            omega
        have HU := hidp (Bx.upd3 hx5 (.int .i64 y.1) (.int .i64 y.2) (.bool true))
        have HB5 := hidp (HB4.out.drew.trans (hF5.below (B := w.heap.size) HB4.out.size (fun i hi => by have := HG4.out.1; have h2 : i = g4 := hi; omega)))
        have HR5 := hidp hr5
        have HG5 := hidp hg5'
        obtain ⟨a5, c5, hv5⟩ := hr5.len
        subst hv5
        clear hr5 hg5 hF5 hx5 hg5'
        refine hK.out _ _ ?_ (fun hHeld => ?_)
        · (try dsimp only); go_keep
        clear hK K
        try simp only [Act.put, setIfInBounds_toArray, set_cons_zero, set_cons_succ]
        refine Last.take_ (i := 11) (N := some 6) (v := ?_) #[Y,Y,Y,Y,Y,Y,Y,Y,Y,Y,Y,Y,Z] rfl rfl (by kernel_rfl) (fun _ _ _ h => h) (Or.inl ⟨by rfl, ?_⟩) hHeld rfl ?_
        rotate_left
        · (intro w hSw; (try dsimp only at hSw); go_simp; try with_reducible rfl)
        try simp only [Act.put, setIfInBounds_toArray, set_cons_zero, set_cons_succ]
        refine Last.last_ (i := 12) (N := none) #[Y,Y,Y,Y,Y,Y,Y,Y,Y,Y,Y,Y,Y] rfl rfl (by kernel_rfl) (by decide) (fun K hK => ?_)
        go_simp
        refine hK.out _ _ ?_
        clear hK K
        try simp only [Act.put, setIfInBounds_toArray, set_cons_zero, set_cons_succ]
        refine Last.done_ (by kernel_rfl) ?_
        go_wp2
        refine bodyPost_ret (v := .tuple #[.slice a5 (p + 1 + (l.length - (p + 1))) c5, ff (some y)]) (by simp [results, Try.results28, go_sem, ff, k0, k1, k2, f0, f1, f2]) rfl ?_
        have hfin := HR5.out.keep HU.out.fr (fun b hb h => by obtain rfl := Option.some.inj hb; have := HG5.out; have h2 : _ = w.heap.size + 1 := h; omega)
        refine ⟨_, rfl, some g5, ?_, fun b hb => by obtain rfl := Option.some.inj hb; have := HG5.out; omega, ((HB5.out.setCell (by show w.heap.size ≤ w.heap.size + 1; omega) _).setCell (by show w.heap.size ≤ w.heap.size + 1; omega) _).setCell (by show w.heap.size ≤ w.heap.size + 1; omega) _⟩
        have hlen : ((l.take p ++ [x]) ++ l.drop (p + 1)).length = p + 1 + (l.length - (p + 1)) := by simp; omega
        rw [show l.take p ++ x :: l.drop (p + 1) = (l.take p ++ [x]) ++ l.drop (p + 1) by simp]
        have e1 : itemCells EI [x] = [Value.int .i64 x.1, Value.int .i64 x.2] := rfl
        rw [hlen, itemCells_append, itemCells_append, e1, List.append_assoc]
        first | exact hfin | (rw [List.append_assoc] at hfin; exact hfin)
end Go.Proofs.Ytehnobbiiokcgaa.Bt.ND
