/- Nodes as data: a tree of a map lifted whole; fellMap. Nodes as data: DoorRoot, fellMap. -/
import Derived.Test.YtehnobbiiokcgaaBtNv
namespace Go.Proofs.Ytehnobbiiokcgaa.Bt.ND
set_option linter.unusedVariables false
set_option linter.unusedSimpArgs false
open Go Go.RowKit Go.Proofs.Ytehnobbiiokcgaa.Bt

theorem Bx.upd3 {w : World} {b : Nat} {a0 a1 a2 : Value} (h : Bx w b [a0, a1, a2]) (v0 v1 v2 : Value) : Upd w (((w.setCell ⟨b, 0, none⟩ v0).setCell ⟨b, 1, none⟩ v1).setCell ⟨b, 2, none⟩ v2) b 0 [v0, v1, v2] :=
  (Upd.two w (b := b) (o := 0) v0 v1 (by rw [h.2 0 _ rfl]; rfl) (by show (M w b 1).isSome = true; rw [h.2 1 _ rfl]; rfl)).snoc v2 rfl (by show (M w b 2).isSome = true; rw [h.2 2 _ rfl]; rfl)

/-! ### what a tree is as data -/
theorem fold_lev {n H : Nat} : ∀ ks : List (DT n), (∀ k ∈ ks, lev n k = (H, true)) → ks.foldl (fun is k' => is && (lev n k').2 && decide ((lev n k').1 = H)) true = true
  | [], _ => rfl
  | k :: ks, h => by
    rw [List.foldl_cons, h k (by simp)]
    simpa using fold_lev ks (fun k' hk' => h k' (by simp [hk']))
theorem lev_kids {n : Nat} {xs : List Im} {k : DT n} {ks : List (DT n)} {c : Int} (hl : (k :: ks).length = xs.length + 1) : lev (n + 1) (xs, k :: ks, c) = ((lev n k).1 + 1, ks.foldl (fun is k' => is && (lev n k').2 && decide ((lev n k').1 = (lev n k).1)) (lev n k).2) := by
  simp only [lev]
  rw [if_pos hl]
theorem ofBT_lev {mn mx : Nat} : ∀ (h lo : Nat) (t : BT Im h), BT.ok mn mx lo h t → lev (h + 1) (ofBT h t) = (h + 1, true)
  | 0, _, _, _ => rfl
  | h + 1, lo, t, hok => by
    obtain ⟨h1, h2, h3, h4⟩ := hok
    have hall : ∀ k ∈ t.2.map (ofBT h), lev (h + 1) k = (h + 1, true) := fun k hk => by
      obtain ⟨q, hq, rfl⟩ := List.mem_map.1 hk
      exact ofBT_lev h mn q (h4 q hq)
    have hl : (t.2.map (ofBT h)).length = t.1.length + 1 := by rw [List.length_map]; exact h3
    show lev (h + 1 + 1) (t.1, t.2.map (ofBT h), _) = _
    generalize t.2.map (ofBT h) = ks at hall hl
    cases ks with
    | nil => simp at hl
    | cons k ks =>
      rw [lev_kids hl, hall k (by simp), fold_lev ks (fun k' hk' => hall k' (by simp [hk']))]
theorem ofBT_filled {D : Nat} : ∀ (h lo : Nat) (t : BT Im h), BT.ok (D - 1) (2 * D - 1) lo h t → filled D lo (h + 1) (ofBT h t) = true
  | 0, lo, t, hok => by
    show (decide (lo ≤ List.length t) && decide (List.length t ≤ 2 * D - 1) && [].all _) = true
    have h1 : lo ≤ List.length t := hok.1
    have h2 : List.length t ≤ 2 * D - 1 := hok.2
    simp [h1, h2]
  | h + 1, lo, t, hok => by
    obtain ⟨h1, h2, h3, h4⟩ := hok
    show (decide (lo ≤ t.1.length) && decide (t.1.length ≤ 2 * D - 1) && (t.2.map (ofBT h)).all (filled D (D - 1) (h + 1))) = true
    have h5 : (t.2.map (ofBT h)).all (filled D (D - 1) (h + 1)) = true := by
      rw [List.all_eq_true]
      intro k hk
      obtain ⟨q, hq, rfl⟩ := List.mem_map.1 hk
      exact ofBT_filled h (D - 1) q (h4 q hq)
    rw [h5]
    have h1' : lo ≤ t.1.length := h1
    have h2' : t.1.length ≤ 2 * D - 1 := h2
    simp [h1', h2']
theorem sum_map_le {α : Type} {f g : α → Nat} : ∀ l : List α, (∀ x ∈ l, f x ≤ 2 * g x) → (l.map f).sum ≤ 2 * (l.map g).sum
  | [], _ => by simp
  | x :: l, h => by
    have h1 := h x (by simp)
    have h2 := sum_map_le l (fun y hy => h y (by simp [hy]))
    simp only [List.map_cons, List.sum_cons]; omega
theorem ofBT_bulk {mn mx : Nat} (hmn : 1 ≤ mn) : ∀ (h lo : Nat) (t : BT Im h), 1 ≤ lo → BT.ok mn mx lo h t → bulk (h + 1) (ofBT h t) ≤ 2 * (BT.all h t).length
  | 0, lo, t, hlo, hok => by
    have h1 : lo ≤ List.length t := hok.1
    show 1 + List.length t + 0 ≤ 2 * List.length t
    omega
  | h + 1, lo, t, hlo, hok => by
    obtain ⟨h1, h2, h3, h4⟩ := hok
    have h1' : lo ≤ t.1.length := h1
    have h5 := sum_map_le (f := fun q => bulk (h + 1) (ofBT h q)) (g := fun q => (BT.all h q).length) t.2 (fun q hq => ofBT_bulk hmn h mn q hmn (h4 q hq))
    show 1 + t.1.length + ((t.2.map (ofBT h)).map (bulk (h + 1))).sum ≤ 2 * (weave t.1 (t.2.map (BT.all h))).length
    rw [weave_len, List.map_map, List.map_map]
    have e1 : (t.2.map (bulk (h + 1) ∘ ofBT h)) = t.2.map (fun q => bulk (h + 1) (ofBT h q)) := rfl
    have e2 : (t.2.map (List.length ∘ BT.all h)) = t.2.map (fun q => (BT.all h q).length) := rfl
    rw [e1, e2]
    omega
/-- Are the counts right? -/
def rc : (n : Nat) → DT n → Bool
  | 0, _ => false
  | n + 1, t => t.2.1.all (rc n) && decide (t.2.2 = ((dAll (n + 1) t).length : Nat))
theorem ofBT_rc : ∀ (h : Nat) (t : BT Im h), rc (h + 1) (ofBT h t) = true
  | 0, t => by
    show (decide ((ofBT 0 t).2.2 = (((dAll 1 (ofBT 0 t)).length : Nat) : Int))) = true
    rw [ofBT_all 0 t]
    simp [ofBT, BT.all]
  | h + 1, t => by
    show ((t.2.map (ofBT h)).all (rc (h + 1)) && decide ((ofBT (h + 1) t).2.2 = (((dAll (h + 2) (ofBT (h + 1) t)).length : Nat) : Int))) = true
    have h5 : (t.2.map (ofBT h)).all (rc (h + 1)) = true := by
      rw [List.all_eq_true]
      intro k hk
      obtain ⟨q, hq, rfl⟩ := List.mem_map.1 hk
      exact ofBT_rc h q
    rw [h5, ofBT_all (h + 1) t]
    simp [ofBT]
theorem ofBT_valid {D h : Nat} {t : BT Im h} (hok : BT.ok (D - 1) (2 * D - 1) 1 h t) (hs : Srt II.lt (BT.all h t)) : validB D (h + 1) (ofBT h t) = true := by
  show ((ofBT h t).1.isEmpty && (ofBT h t).2.1.isEmpty || ((lev (h + 1) (ofBT h t)).2 && filled D 1 (h + 1) (ofBT h t) && decide (rising (dAll (h + 1) (ofBT h t))))) = true
  rw [ofBT_lev h 1 t hok, ofBT_filled h 1 t hok, ofBT_all h t]
  have hr : rising (BT.all h t) := hs.imp fun h => by simpa [II.lt] using h
  simp [hr]

variable {S : Nat → Prop} {s : Sto II.It}
/-- 'liftedMap' of a tree. -/
theorem lifted_is {mn mx : Nat} (hmx : mx ≤ 1000) : ∀ (h : Nat) {w : World} {m lo : Nat} {t : BT Im h} {ids : List Nat} (_ : RepS II.E S w s) {iso : Int} (_ : Tr s.nd iso h m t ids) (_ : BT.ok mn mx lo h t),
    Calls Try.prog 59 #[II.dv m] w (Lifted (ofBT h t) w)
  | 0, w, m, lo, t, ids, R, iso, T, hok => by
    obtain ⟨_, r, h1, _, h3, h4, h5⟩ := T
    have h2 : List.length t ≤ mx := hok.2
    have h := lift_node (n := 0) R h1 (by rw [h3]; omega) (ks := []) (by simp) (.inl ⟨h4, rfl⟩)
    rw [h3, h5] at h
    exact h
  | h + 1, w, m, lo, t, ids, R, iso, T, hok => by
    obtain ⟨r, k, ps, idss, h1, h2, h3, h4, h5, h6, h7, h8, h9, h10⟩ := T
    have hkl : t.2.length = t.1.length + 1 := hok.2.2.1
    have hhi : t.1.length ≤ mx := hok.2.1
    have hh := lift_node (n := h + 1) R h1 (by rw [h3]; omega) (ks := t.2.map (ofBT h)) (by rw [List.length_map]; omega) (.inr ⟨k, ps, h4, h5, by rw [List.length_map]; exact h7, fun j p q hp hq w' R' => by
      rw [List.getElem?_map] at hq
      obtain ⟨c, hc, rfl⟩ := Option.map_eq_some_iff.1 hq
      obtain ⟨is, his⟩ := get_of_len h8.symm hc
      exact lifted_is hmx h R' (h10 j p c is hp hc his) (hok.2.2.2 c (List.mem_of_getElem? hc))⟩)
    rw [h3, h6] at hh
    exact hh
end Go.Proofs.Ytehnobbiiokcgaa.Bt.ND

namespace Go.Proofs.Ytehnobbiiokcgaa.Bt.ND
set_option linter.unusedVariables false
set_option linter.unusedSimpArgs false
open Go Go.RowKit Go.Proofs.Ytehnobbiiokcgaa.Bt

variable {S : Nat → Prop} {w : World} {s : Sto II.It}

set_option maxHeartbeats 1000000 in
set_option maxRecDepth 100000 in
theorem doorRoot_some (R : RepS II.E S w s) {m : Nat} (hr : s.mp.root = some m) : Calls Try.prog 99 #[.pointer (some ⟨s.m, 0, none⟩)] w (fun e w' => e = .returned (.tuple #[.agg #[.pointer (some ⟨m, 0, none⟩)], .bool true]) ∧ Below w.heap.size w w') := by
  have hB : Below w.heap.size w (w.alloc (.cells #[.pointer none] 96)) := (Below.refl _ _).alloc (Nat.le_refl _) _
  have hx := Bx.new w [.pointer none] 96
  obtain ⟨w1, hw1⟩ : ∃ w1, w1 = w.alloc (.cells #[.pointer none] 96) := ⟨_, rfl⟩
  have R1 : RepS II.E S w1 s := by rw [hw1]; exact R.alloc _
  rw [← hw1] at hB hx
  have m2 := (II.mcell R1).2.2.2.1
  rw [hr] at m2
  have m2' : w1.cell? ⟨s.m, 2, none⟩ = some (.pointer (some ⟨m, 0, none⟩)) := m2
  have hm : s.m < w.heap.size := (II.mcell R).1
  have hne : s.m ≠ w.heap.size := by omega
  have c0 := hx.cell 0 rfl
  have f0 := hx.froz 0 (v := .pointer none) rfl
  have hl := hx.1
  have HB := hidp hB
  have HW := hidp hw1
  clear R R1 m2 hr hB hx hw1
  go_enter Try.func99, Try.ntmps99
  go_wp2_with fail
  rw [← HW.out]
  go_region
  all_goals go_wp2
  all_goals refine bodyPost_ret (v := .tuple #[.agg #[.pointer (some ⟨m, 0, none⟩)], .bool true]) (by simp [results, Try.results99, go_sem, c0, f0]) rfl ?_
  all_goals exact ⟨rfl, by first | exact HB.out.drew.setCell (Nat.le_refl _) _ | exact (HB.out.setCell (Nat.le_refl _) _).drew⟩
set_option maxHeartbeats 1000000 in
set_option maxRecDepth 100000 in
theorem doorRoot_none (R : RepS II.E S w s) (hr : s.mp.root = none) : Calls Try.prog 99 #[.pointer (some ⟨s.m, 0, none⟩)] w (fun e w' => e = .returned (.tuple #[.agg #[.pointer none], .bool false]) ∧ Below w.heap.size w w') := by
  have hB : Below w.heap.size w (w.alloc (.cells #[.pointer none] 96)) := (Below.refl _ _).alloc (Nat.le_refl _) _
  have hx := Bx.new w [.pointer none] 96
  obtain ⟨w1, hw1⟩ : ∃ w1, w1 = w.alloc (.cells #[.pointer none] 96) := ⟨_, rfl⟩
  have R1 : RepS II.E S w1 s := by rw [hw1]; exact R.alloc _
  rw [← hw1] at hB hx
  have m2 := (II.mcell R1).2.2.2.1
  rw [hr] at m2
  have m2' : w1.cell? ⟨s.m, 2, none⟩ = some (.pointer none) := m2
  have hm : s.m < w.heap.size := (II.mcell R).1
  have hne : s.m ≠ w.heap.size := by omega
  have c0 := hx.cell 0 rfl
  have f0 := hx.froz 0 (v := .pointer none) rfl
  have hl := hx.1
  have HB := hidp hB
  have HW := hidp hw1
  clear R R1 m2 hr hB hx hw1
  go_enter Try.func99, Try.ntmps99
  go_wp2_with fail
  rw [← HW.out]
  go_region
  all_goals go_wp2
  all_goals refine bodyPost_ret (v := .tuple #[.agg #[.pointer none], .bool false]) (by simp [results, Try.results99, go_sem, c0, f0]) rfl ?_
  all_goals exact ⟨rfl, by first | exact HB.out.drew.setCell (Nat.le_refl _) _ | exact (HB.out.setCell (Nat.le_refl _) _).drew⟩

/-- The zero node. -/
theorem zeroQ (Q : Nat → Prop) (w : World) : NodeQ Q w 1 (([], [], 0) : DT 1) (.slice none 0 0) (.slice none 0 0) 0 :=
  ⟨rfl, ⟨none, 0, rfl, Nat.le_refl _, fun j x hx => by simp at hx⟩, none, 0, rfl, Nat.le_refl _, fun j k hk => by simp at hk⟩

set_option maxHeartbeats 2000000 in
set_option maxRecDepth 100000 in
/-- 'fellMap' -/
theorem fell_tr {mn mx h m lo : Nat} {t : BT Im h} {ids : List Nat} {iso : Int} (hmx : mx ≤ 1000) (R : RepS II.E S w s) (hr : s.mp.root = some m) (T : Tr s.nd iso h m t ids) (hok : BT.ok mn mx lo h t) :
    Calls Try.prog 63 #[.pointer (some ⟨s.m, 0, none⟩)] w (Lifted (ofBT h t) w) := by
  have hB : Below w.heap.size w (w.alloc (.cells #[.slice none 0 0, .slice none 0 0, .int .i64 0] 25)) := (Below.refl _ _).alloc (Nat.le_refl _) _
  have hx := Bx.new w [.slice none 0 0, .slice none 0 0, .int .i64 0] 25
  have HR := hidp R
  have HRT := hidp hr
  have HT := hidp (And.intro T hok)
  have HB := hidp hB
  have HX := hidp hx
  have HD := hidp (doorRoot_some (RepS.below R hB) hr)
  clear R hr T hok hB hx
  go_enter Try.func63, Try.ntmps63
  go_wp2_with fail
  refine HD.out.mono ?_
  rintro e w2 ⟨rfl, hb2⟩
  have hx2 := Bx.below HX.out hb2 HX.out.1
  have HX2 := hidp (hx2.alloc (.cells #[.pointer (some ⟨m, 0, none⟩)] 96))
  have HB2 := hidp ((HB.out.trans (hb2.mono HB.out.size)).alloc (by have := (HB.out.trans (hb2.mono HB.out.size)).size; exact this) (.cells #[.pointer (some ⟨m, 0, none⟩)] 96))
  have d0 := (Bx.new w2 [.pointer (some ⟨m, 0, none⟩)] 96).cell 0 rfl
  clear hb2 hx2 HD HX
  have HL := hidp (lifted_is hmx h (RepS.below HR.out HB2.out) HT.out.1 HT.out.2)
  go_wp2_with fail
  refine HL.out.mono ?_
  rintro e w3 ⟨vi, vk, c, rfl, hq, hb3⟩
  obtain ⟨⟨i1, i2, i3, rfl⟩, q1, q2, q3, rfl⟩ := hq.vals
  have hx3 := Bx.below HX2.out hb3 HX2.out.1
  have k0 := hx3.cell 0 rfl
  have k1 := hx3.cell 1 rfl
  have k2 := hx3.cell 2 rfl
  have f0 := hx3.froz 0 (v := .slice none 0 0) rfl
  have f1 := hx3.froz 1 (v := .slice none 0 0) rfl
  have f2 := hx3.froz 2 (v := .int .i64 0) rfl
  have hl := hx3.1
  have hlt := HX2.out.1
  have HU := hidp ((Upd.two w3 (b := w.heap.size) (o := 0) (.slice i1 i2 i3) (.slice q1 q2 q3) (by rw [M_of k0 f0]; rfl) (by rw [M_of k1 f1]; rfl)).snoc (.int .i64 c) rfl (by show (M w3 w.heap.size 2).isSome = true; rw [M_of k2 f2]; rfl))
  have HQ := hidp hq
  have HB3 := hidp (HB2.out.trans (hb3.mono HB2.out.size))
  clear hq hb3 hx3 HL d0
  go_wp2
  refine bodyPost_ret (v := .agg #[.slice i1 i2 i3, .slice q1 q2 q3, .int .i64 c]) (by simp [results, Try.results63, go_sem, k0, k1, k2, f0, f1, f2]) rfl ?_
  have hsz := HU.out.size
  have hsB := HB3.out.size
  exact ⟨_, _, c, rfl, HQ.out.keep HU.out.fr (fun b hb => ⟨fun (h : b = w.heap.size) => by have := hb.1; omega, by have := hb.1; omega, by have h2 := hb.2; have h3 := HU.out.size; exact Nat.lt_of_lt_of_eq h2 h3.symm⟩), ((HB3.out.setCell (Nat.le_refl _) _).setCell (Nat.le_refl _) _).setCell (Nat.le_refl _) _⟩

set_option maxHeartbeats 2000000 in
set_option maxRecDepth 100000 in
/-- 'fellMap' of an empty map. -/
theorem fell_nil (R : RepS II.E S w s) (hr : s.mp.root = none) :
    Calls Try.prog 63 #[.pointer (some ⟨s.m, 0, none⟩)] w (Lifted (n := 1) ([], [], 0) w) := by
  have hB : Below w.heap.size w (w.alloc (.cells #[.slice none 0 0, .slice none 0 0, .int .i64 0] 25)) := (Below.refl _ _).alloc (Nat.le_refl _) _
  have hx := Bx.new w [.slice none 0 0, .slice none 0 0, .int .i64 0] 25
  have HB := hidp hB
  have HX := hidp hx
  have HD := hidp (doorRoot_none (RepS.below R hB) hr)
  clear R hr hB hx
  go_enter Try.func63, Try.ntmps63
  go_wp2_with fail
  refine HD.out.mono ?_
  rintro e w2 ⟨rfl, hb2⟩
  have hx2 := Bx.below HX.out hb2 HX.out.1
  have hx3 := hx2.alloc (.cells #[.pointer none] 96)
  have HB2 := hidp ((HB.out.trans (hb2.mono HB.out.size)).alloc (by have := (HB.out.trans (hb2.mono HB.out.size)).size; exact this) (.cells #[.pointer none] 96))
  have k0 := hx3.cell 0 rfl
  have k1 := hx3.cell 1 rfl
  have k2 := hx3.cell 2 rfl
  have f0 := hx3.froz 0 (v := .slice none 0 0) rfl
  have f1 := hx3.froz 1 (v := .slice none 0 0) rfl
  have f2 := hx3.froz 2 (v := .int .i64 0) rfl
  have hl := hx3.1
  clear hb2 hx2 HD HX hx3
  go_wp2
  refine bodyPost_ret (v := .agg #[.slice none 0 0, .slice none 0 0, .int .i64 0]) (by simp [results, Try.results63, go_sem, k0, k1, k2, f0, f1, f2]) rfl ?_
  exact ⟨_, _, 0, rfl, zeroQ _ _, ((HB2.out.setCell (Nat.le_refl _) _).setCell (Nat.le_refl _) _).setCell (Nat.le_refl _) _⟩

section
variable {P : Program} {ops : Array Oper} {o : Oper} {a : Act} {w : World} {Q : Exit → Act → World → Prop}
/-- append of a slice, which may be empty, to a row that has an array, as a step of a region that draws its order. -/
theorem step_rows {K : Act → World → Prop} {F : Prop} (hg : o.guard = none) (s x : Operand) (t : TypeId) (hop : o.op = Op.call { callee := Callee.builtin Builtin.append, args := #[s, x], argTypes := #[t, t] })
    (e : TypeId) (i : TypeInfo) (z : Value) (size bytes : Nat) (h1 : P.underlying t = some (.slice e)) (h2 : P.info? e = some i) (h3 : i.zero = some z) (h4 : i.size = size) (h5 : i.bytes = bytes) (h6 : z.cells.size = size) (h7 : 0 < size)
    (v : Value) (n : Nat) (xs : List Value) (b : Nat) (hs : a.eval s = v) (hrow : Row size w v n xs (some b))
    (A : Addr) (m c : Nat) (news : List Value) (hx : ∃ sa, a.eval x = .slice sa m c ∧ (0 < m → sa = some A)) (hn : news.length = m * size) (hc : ∀ j u, news[j]? = some u → w.cell? (A.add j) = some u) (h1c : ∀ u ∈ news, u.oneCell' = true)
    (b1 : n + m ≤ maxLen) (b2 : (n + m) * bytes ≤ 140737488355328)
    (hK : ∀ v' w' g', Row size w' v' (n + m) (xs ++ news) (some g') → (g' = b ∨ w.heap.size ≤ g') → Fr (fun k => k = b) w w' → K (a.put o.dst v') w') :
    if Region.wanted o (yielded ops a.tmps) = true then Oper.wp P o a w K Q else F := by
  obtain ⟨sa, hx, hsa⟩ := hx
  rcases Nat.eq_zero_or_pos m with rfl | hm
  · have hw : Region.wanted o (yielded ops a.tmps) = true := by simp [Region.wanted, hg]
    rw [if_pos hw]
    obtain rfl : news = [] := List.eq_nil_of_length_eq_zero (by simpa using hn)
    have hrow0 := hrow
    obtain ⟨hl, hr⟩ := hrow
    rcases hr with ⟨_, _, h⟩ | ⟨b', cap, hb, rfl, hcn, hcm, _, hok⟩
    · cases h
    · obtain rfl := Option.some.inj hb
      have hrun : (Builtin.append_ #[t, t] o.type #[.slice (some ⟨b, 0, none⟩) n cap, .slice sa 0 c]).run P w = .ok (.slice (some ⟨b, 0, none⟩) n cap) w := by
        subst h4
        have hl : ∀ x : Addr, (loadCells x 0).run P w = .ok #[] w := fun x => run_loadCells_list (P := P) w x [] (by simp)
        have hst : ∀ x : Addr, (storeCells x []).run P w = .ok () w := fun x => rfl
        cases sa <;> simp [Builtin.append_, run_underlying h1, Builtin.lenOf, Builtin.firstCells, sizeOf, typeInfo, h2, hl, hst, hcn]
      unfold Oper.wp
      simp [execOp, hop, resolve, invoke, builtin, hs, hx, hrun, Result.andThen]
      exact hK _ _ b (by simpa using hrow0) (.inl rfl) (Fr.refl _ _)
  · rw [hsa hm] at hx
    exact step_row hg s x t hop e i z size bytes h1 h2 h3 h4 h5 h6 h7 v n xs (some b) hs hrow A m c news hx hm hn hc h1c b1 b2 (fun v' w' g' hr hg' hF => hK v' w' g' hr (hg'.imp (fun h => (Option.some.inj h).symm) id) (hF.mono fun k hk => (Option.some.inj hk).symm))
end

/-- A list of items, cell by cell. -/
theorem Its.flat {w : World} {v : Value} {l : List Im} (h : Its w v l) : ∃ a cap, v = .slice a l.length cap ∧ l.length ≤ cap ∧ (0 < l.length → ∃ b off, a = some ⟨b, off, none⟩ ∧ b < w.heap.size ∧ ∀ j u, (itemCells EI l)[j]? = some u → w.cell? ⟨b, off + j, none⟩ = some u) := by
  obtain ⟨a, cap, rfl, hc, hi⟩ := h
  refine ⟨a, cap, rfl, hc, fun h0 => ?_⟩
  obtain ⟨x0, hx0⟩ : ∃ x, l[0]? = some x := ⟨l[0], List.getElem?_eq_getElem h0⟩
  obtain ⟨b, off, rfl, f1, _⟩ := hi 0 x0 hx0
  refine ⟨b, off, rfl, World.block_lt_of_cell? w _ f1, fun j u hu => ?_⟩
  obtain ⟨x, hx, hv⟩ := itemCells_at (E := EI) hu
  obtain ⟨b', off', e, g1, g2⟩ := hi _ x hx
  injection e with e
  injection e with e1 e2 _
  subst e1; subst e2
  have hj := Nat.div_add_mod j 2
  have hm : j % 2 = 0 ∨ j % 2 = 1 := by omega
  have hv' : [Value.int .i64 x.1, Value.int .i64 x.2][j % 2]? = some u := hv
  have hd : j / EI.sz = j / 2 := rfl
  rw [hd] at g1 g2
  rcases hm with hm | hm
  · rw [hm] at hv'
    obtain rfl := Option.some.inj hv'
    rw [show off + j = off + j / 2 * 2 by omega]; exact g1
  · rw [hm] at hv'
    obtain rfl := Option.some.inj hv'
    rw [show off + j = off + j / 2 * 2 + 1 by omega]; exact g2

/-- What was there. -/
def ff : Option Im → Value
  | some y => .agg #[.int .i64 y.1, .int .i64 y.2, .bool true]
  | none => .agg #[.int .i64 0, .int .i64 0, .bool false]
end Go.Proofs.Ytehnobbiiokcgaa.Bt.ND
