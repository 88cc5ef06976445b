/- The reference: Cut. -/
import Derived.Test.YtehnobbiiokcgaaBtNx
import Derived.Deep.DeepCutAuto
namespace Go.Proofs.Ytehnobbiiokcgaa.Bt.ND
set_option linter.unusedVariables false
set_option linter.unusedSimpArgs false
open Go Go.RowKit Go.Proofs.Ytehnobbiiokcgaa.Bt
open Go.Proofs.Ytehnobbiiokcgaa.Bt.Last (Y Z)
open _root_.List (setIfInBounds_toArray set_cons_zero set_cons_succ)

set_option maxHeartbeats 2000000 in
set_option maxRecDepth 100000 in
/-- 'Cut' at an index that is none. -/
theorem cut_none {w : World} {u : Value} {l : List Im} (h : Its w u l) (hl : l.length ≤ 10000000) {i : Int} (hi : i < 0 ∨ (l.length : Int) ≤ i) :
    Calls Try.prog 30 #[u, .int .i64 i] w (fun e w' => e = .returned (.tuple #[u, ff none]) ∧ Below w.heap.size w w') := by
  obtain ⟨a, cap, rfl, hlc, hfl⟩ := h
  obtain ⟨w1, hw1⟩ : ∃ w1, w1 = w.alloc (.cells #[.int .i64 0, .int .i64 0, .bool false] 37) := ⟨_, rfl⟩
  have hx1 : Bx w1 w.heap.size [.int .i64 0, .int .i64 0, .bool false] := by rw [hw1]; exact Bx.new w [.int .i64 0, .int .i64 0, .bool false] 37
  have hB1 : Below w.heap.size w w1 := by rw [hw1]; exact (Below.refl _ _).alloc (Nat.le_refl _) _
  have HB1 := hidp hB1
  have k0 := hx1.cell 0 rfl
  have k1 := hx1.cell 1 rfl
  have k2 := hx1.cell 2 rfl
  have f0 := hx1.froz 0 (v := .int .i64 0) rfl
  have f1 := hx1.froz 1 (v := .int .i64 0) rfl
  have f2 := hx1.froz 2 (v := .bool false) rfl
  have hl1 := hx1.1
  clear hfl hx1 hB1
  subst hw1
  by_cases h0 : i < 0
  · go_enter Try.func30, Try.ntmps30
    go_wp2
    refine bodyPost_ret (v := .tuple #[.slice a l.length cap, ff none]) (by simp [results, Try.results30, go_sem, ff, k0, k1, k2, f0, f1, f2]) rfl ?_
    exact ⟨rfl, HB1.out⟩
  · have h1 : (l.length : Int) ≤ i := by omega
    go_enter Try.func30, Try.ntmps30
    go_wp2
    refine bodyPost_ret (v := .tuple #[.slice a l.length cap, ff none]) (by simp [results, Try.results30, go_sem, ff, k0, k1, k2, f0, f1, f2]) rfl ?_
    exact ⟨rfl, HB1.out⟩

set_option maxHeartbeats 4000000 in
set_option maxRecDepth 100000 in
/-- 'Cut' at the index of an item. -/
theorem cut_at {w : World} {u : Value} {l : List Im} (h : Its w u l) (hl : l.length ≤ 10000000) {p : Nat} {y : Im} (hy : l[p]? = some y) :
    Calls Try.prog 30 #[u, .int .i64 p] w (fun e w' => ∃ v, e = .returned (.tuple #[v, ff (some y)]) ∧ Own w.heap.size w w' v (l.take p ++ l.drop (p + 1))) := by
  have hpl := (List.getElem?_eq_some_iff.1 hy).1
  obtain ⟨a, cap, rfl, hlc, hfl⟩ := h.flat
  obtain ⟨b, off, rfl, hbl, hcell⟩ := hfl (by omega)
  obtain ⟨i0, hi0, hz0, hz1, hz2⟩ := info_parts infoM
  have HI0 := hidp hi0
  have HZ0 := hidp hz0
  have HZ1 := hidp hz1
  have HZ2 := hidp hz2
  obtain ⟨w1, hw1⟩ : ∃ w1, w1 = w.alloc (.cells #[.int .i64 0, .int .i64 0, .bool false] 37) := ⟨_, rfl⟩
  have hx1 : Bx w1 w.heap.size [.int .i64 0, .int .i64 0, .bool false] := by rw [hw1]; exact Bx.new w [.int .i64 0, .int .i64 0, .bool false] 37
  have hB1 : Below w.heap.size w w1 := by rw [hw1]; exact (Below.refl _ _).alloc (Nat.le_refl _) _
  have HX1 := hidp hx1
  have HB1 := hidp hB1
  have HFL1 : Hid (∀ j u, (itemCells EI l)[j]? = some u → w1.cell? ⟨b, off + j, none⟩ = some u) := hidp fun j u hu => (hB1.cell (p := ⟨b, off + j, none⟩) hbl).trans (hcell j u hu)
  have hbl1 : b < w1.heap.size := by have := hx1.1; omega
  have HY1 : Hid ((itemCells EI l)[p * 2]? = some (.int .i64 y.1)) := hidp (by have h2 := itemCells_get (E := EI) l p y hy 0 (by decide); simpa [EI] using h2)
  have HY2 : Hid ((itemCells EI l)[p * 2 + 1]? = some (.int .i64 y.2)) := hidp (by have h2 := itemCells_get (E := EI) l p y hy 1 (by decide); simpa [EI] using h2)
  have y1 := HFL1.out (p * 2) _ HY1.out
  have y2 : w1.cell? ⟨b, off + p * 2 + 1, none⟩ = some (.int .i64 y.2) := by
    rw [Nat.add_assoc]
    exact HFL1.out (p * 2 + 1) _ HY2.out
  have hp0 : p ≤ l.length := by omega
  have hpi0 : ¬ (p : Int) < 0 := by omega
  have hpi1 : (p : Int) < (l.length : Int) := by omega
  have hpi1' : ¬ (l.length : Int) ≤ (p : Int) := by omega
  have hpi2 : (p : Int) ≤ (cap : Int) := by omega
  have hpi3 : (p : Int) ≤ (l.length : Int) := by omega
  have hpi4 : (p : Int) + 1 ≤ (l.length : Int) := by omega
  have hpi5 : (0 : Int) ≤ (p : Int) + 1 := by omega
  have hpi6 : (p : Int) ≤ (p : Int) + 1 := by omega
  have hw1p : IntKind.i64.wrap ((p : Int) + 1) = ((p + 1 : Nat) : Int) := by rw [Last.i64_w, IntWalk.wrap64_in _ ⟨by omega, by omega⟩]; omega
  clear hfl hcell hi0 hz0 hz1 hz2 h hy hx1 hB1
  go_enter Try.func30, Try.ntmps30
  by_cases hcp : cap = p + 1
  · go_upto_region 3 with (fail)
    rw [← hw1]
    clear hw1
    go_wp2_with fail
    refine Last.start_ (S := fun w' => w'.cell? ⟨b, off + p * 2, none⟩ = some (.int .i64 y.1) ∧ w'.cell? ⟨b, off + p * 2 + 1, none⟩ = some (.int .i64 y.2)) (ds := [16]) #[Z,Z,Z,Z,Z,Z,Z,Z,Z,Z,Z,Z,Z,Z,Z,Z,Z] (by rfl) (by rfl) (by rfl) ?_ (fun hHeld => ?_)
    · go_keep
    refine Last.tk 1 17 #[Z,Y,Z,Z,Z,Z,Z,Z,Z,Z,Z,Z,Z,Z,Z,Z,Z] rfl rfl hHeld ?_
    refine Last.tk 2 18 #[Z,Y,Y,Z,Z,Z,Z,Z,Z,Z,Z,Z,Z,Z,Z,Z,Z] rfl rfl hHeld ?_
    refine Last.tk 3 19 #[Z,Y,Y,Y,Z,Z,Z,Z,Z,Z,Z,Z,Z,Z,Z,Z,Z] rfl rfl hHeld ?_
    refine Last.tk 5 21 #[Z,Y,Y,Y,Z,Y,Z,Z,Z,Z,Z,Z,Z,Z,Z,Z,Z] rfl rfl hHeld ?_
    refine Last.tk 6 22 #[Z,Y,Y,Y,Z,Y,Y,Z,Z,Z,Z,Z,Z,Z,Z,Z,Z] rfl rfl hHeld ?_
    refine Last.tk 7 23 #[Z,Y,Y,Y,Z,Y,Y,Y,Z,Z,Z,Z,Z,Z,Z,Z,Z] rfl rfl hHeld ?_
    refine Last.tk 8 24 #[Z,Y,Y,Y,Z,Y,Y,Y,Y,Z,Z,Z,Z,Z,Z,Z,Z] rfl rfl hHeld ?_
    refine Last.tk 10 26 #[Z,Y,Y,Y,Z,Y,Y,Y,Y,Z,Y,Z,Z,Z,Z,Z,Z] rfl rfl hHeld ?_
    refine Last.tk 11 27 #[Z,Y,Y,Y,Z,Y,Y,Y,Y,Z,Y,Y,Z,Z,Z,Z,Z] rfl rfl hHeld ?_
    refine Last.tk 12 28 #[Z,Y,Y,Y,Z,Y,Y,Y,Y,Z,Y,Y,Y,Z,Z,Z,Z] rfl rfl hHeld ?_
    refine Last.tk 13 29 #[Z,Y,Y,Y,Z,Y,Y,Y,Y,Z,Y,Y,Y,Y,Z,Z,Z] rfl rfl hHeld ?_
    refine Last.tk 14 30 #[Z,Y,Y,Y,Z,Y,Y,Y,Y,Z,Y,Y,Y,Y,Y,Z,Z] rfl rfl hHeld ?_
    refine Last.one_ (i := 0) (N := some 16) #[Y,Y,Y,Y,Z,Y,Y,Y,Y,Z,Y,Y,Y,Y,Y,Z,Z] rfl rfl (by kernel_rfl) (by decide) (fun K hK => ?_)
    go_simp
    have y1 : (w1.drew.alloc (.cells #[] 35)).cell? ⟨b, off + p * 2, none⟩ = some (.int .i64 y.1) := (World.cell?_alloc_lt _ _ _ hbl1).trans y1
    have y2 : (w1.drew.alloc (.cells #[] 35)).cell? ⟨b, off + p * 2 + 1, none⟩ = some (.int .i64 y.2) := (World.cell?_alloc_lt _ _ _ hbl1).trans y2
    refine hK.out _ _ ?_ (fun hHeld => ?_)
    · (try dsimp only); go_keep
    clear hK K
    try simp only [Act.put, setIfInBounds_toArray, set_cons_zero, set_cons_succ]
    refine Last.one_ (i := 4) (N := some 20) #[Y,Y,Y,Y,Y,Y,Y,Y,Y,Z,Y,Y,Y,Y,Y,Z,Z] rfl rfl (by kernel_rfl) (by decide) (fun K hK => ?_)
    first
    | (refine step_rows (by rfl) _ _ _ (by rfl) 35 i0 _ 2 16 Try.underlying22 HI0.out HZ0.out HZ1.out HZ2.out (by rfl) (by decide) (.slice a3 p c3) p (itemCells EI (l.take p)) g3 (by rfl) HR3.out ⟨b, off + (p + 1) * 2, none⟩ (l.length - (p + 1)) (0) (itemCells EI (l.drop (p + 1))) ⟨_, rfl, fun hm => by exfalso; omega⟩ (by rw [itemCells_length, List.length_drop]; rfl) (fun q u hq => by rw [Addr.add_lit, Nat.add_assoc]; refine HFL3.out ((p + 1) * 2 + q) u ?_; rw [← itemCells_drop (E := EI), List.getElem?_drop] at hq; exact hq) (itemCells_one _) (by unfold maxLen; omega) (by omega) ?_
       intro v5 w5 g5 hr5 hg5 hF5
       have y1 := (hF5.cell (x := ⟨b, off + p * 2, none⟩) hbl3 hbg).trans y1
       have y2 := (hF5.cell (x := ⟨b, off + p * 2 + 1, none⟩) hbl3 hbg).trans y2
       have hx5 := HX3.out.keep hF5 (by have := HG3.out; show ¬ _ = _; omega)
       have k0 := hx5.cell 0 rfl
       have k1 := hx5.cell 1 rfl
       have k2 := hx5.cell 2 rfl
       have f0 := hx5.froz 0 (v := .int .i64 0) rfl
       have f1 := hx5.froz 1 (v := .int .i64 0) rfl
       have f2 := hx5.froz 2 (v := .bool false) rfl
       have hl5 := hx5.1
       have hg5' : w.heap.size < g5 := by
         have h1 := HG3.out
         rcases hg5 with h | h
         · omega
         · have h2 := HX3.out.1
           omega
       have HU := hidp (Bx.upd3 hx5 (.int .i64 y.1) (.int .i64 y.2) (.bool true))
       have HB5 := hidp (HB3.out.trans (hF5.below (B := w.heap.size) HB3.out.size (fun i hi => by have := HG3.out; have h2 : i = g3 := hi; omega)))
       have HR5 := hidp hr5
       have HG5 := hidp hg5'
       obtain ⟨a5, c5, hv5⟩ := hr5.len
       subst hv5
       clear hr5 hg5 hF5 hx5 hg5')
    | (refine step_rows (by rfl) _ _ _ (by rfl) 35 i0 _ 2 16 Try.underlying22 HI0.out HZ0.out HZ1.out HZ2.out (by rfl) (by decide) (.slice (some ⟨w1.heap.size, 0, none⟩) 0 0) 0 [] (w1.heap.size) (by rfl) (Row.empty 2 w1.drew #[] 35) ⟨b, off, none⟩ p _ (itemCells EI (l.take p)) ⟨_, rfl, fun hm => by first | rfl | simp⟩ (by rw [itemCells_length, List.length_take, Nat.min_eq_left hp0]; rfl) (fun q u hq => by rw [Addr.add_lit]; exact (World.cell?_alloc_lt _ _ _ hbl1).trans (HFL1.out q u (by rw [← itemCells_take (E := EI)] at hq; rw [List.getElem?_take] at hq; split at hq; exact hq; cases hq))) (itemCells_one _) (by unfold maxLen; omega) (by omega) ?_
       intro v3 w3 g3 hr3 hg3 hF3
       have hF3' : Fr (fun k => k = w1.heap.size) (w1.drew.alloc (.cells #[] 35)) w3 := hF3
       have hWs : (w1.drew.alloc (.cells #[] 35)).heap.size = w1.heap.size + 1 := by simp only [World.size_alloc]; rfl
       have hs1 : w.heap.size < w1.heap.size := HX1.out.1
       have hg3' : w1.heap.size ≤ g3 := by
         have hg4 : g3 = w1.heap.size ∨ (w1.drew.alloc (.cells #[] 35)).heap.size ≤ g3 := hg3
         rcases hg4 with h | h <;> omega
       have hsz3 := hF3'.size
       have hBW : Below w1.heap.size w1 (w1.drew.alloc (.cells #[] 35)) := (Below.refl _ _).drew.alloc (Nat.le_refl _) _
       have HX3 := hidp ((Bx.below HX1.out hBW HX1.out.1).keep hF3' (by show ¬ _ = _; omega))
       have HB3 := hidp (HB1.out.trans ((hBW.mono (by omega)).trans (hF3'.below (B := w.heap.size) (by omega) (fun i hi => by have h2 : i = w1.heap.size := hi; omega))))
       have HR3 : Hid (Row 2 w3 v3 p (itemCells EI (l.take p)) (some g3)) := hidp (by simpa using hr3)
       have HG3 : Hid (w.heap.size < g3) := hidp (by omega)
       have HFL3 : Hid (∀ j u, (itemCells EI l)[j]? = some u → w3.cell? ⟨b, off + j, none⟩ = some u) := hidp fun j u hu => (hF3'.cell (x := ⟨b, off + j, none⟩) (by show b < (w1.drew.alloc (.cells #[] 35)).heap.size; omega) (by show ¬ b = w1.heap.size; omega)).trans ((World.cell?_alloc_lt _ _ _ hbl1).trans (HFL1.out j u hu))
       have hbl3 : b < w3.heap.size := by omega
       have hbg : ¬ b = g3 := by omega
       obtain ⟨a3, c3, hv3⟩ := HR3.out.len
       subst hv3
       have y1 := HFL3.out (p * 2) _ HY1.out
       have y2 : w3.cell? ⟨b, off + p * 2 + 1, none⟩ = some (.int .i64 y.2) := by
         rw [Nat.add_assoc]
         exact HFL3.out (p * 2 + 1) _ HY2.out
       clear hr3 hg3 hF3 hF3' hWs hBW hg3' hsz3)
    refine hK.out _ _ ?_ (fun hHeld => ?_)
    · (try dsimp only); go_keep
    clear hK K
    try simp only [Act.put, setIfInBounds_toArray, set_cons_zero, set_cons_succ]
    refine Last.one_ (i := 9) (N := some 25) #[Y,Y,Y,Y,Y,Y,Y,Y,Y,Y,Y,Y,Y,Y,Y,Z,Z] rfl rfl (by kernel_rfl) (by decide) (fun K hK => ?_)
    first
    | (refine step_rows (by rfl) _ _ _ (by rfl) 35 i0 _ 2 16 Try.underlying22 HI0.out HZ0.out HZ1.out HZ2.out (by rfl) (by decide) (.slice a3 p c3) p (itemCells EI (l.take p)) g3 (by rfl) HR3.out ⟨b, off + (p + 1) * 2, none⟩ (l.length - (p + 1)) (0) (itemCells EI (l.drop (p + 1))) ⟨_, rfl, fun hm => by exfalso; omega⟩ (by rw [itemCells_length, List.length_drop]; rfl) (fun q u hq => by rw [Addr.add_lit, Nat.add_assoc]; refine HFL3.out ((p + 1) * 2 + q) u ?_; rw [← itemCells_drop (E := EI), List.getElem?_drop] at hq; exact hq) (itemCells_one _) (by unfold maxLen; omega) (by omega) ?_
       intro v5 w5 g5 hr5 hg5 hF5
       have y1 := (hF5.cell (x := ⟨b, off + p * 2, none⟩) hbl3 hbg).trans y1
       have y2 := (hF5.cell (x := ⟨b, off + p * 2 + 1, none⟩) hbl3 hbg).trans y2
       have hx5 := HX3.out.keep hF5 (by have := HG3.out; show ¬ _ = _; omega)
       have k0 := hx5.cell 0 rfl
       have k1 := hx5.cell 1 rfl
       have k2 := hx5.cell 2 rfl
       have f0 := hx5.froz 0 (v := .int .i64 0) rfl
       have f1 := hx5.froz 1 (v := .int .i64 0) rfl
       have f2 := hx5.froz 2 (v := .bool false) rfl
       have hl5 := hx5.1
       have hg5' : w.heap.size < g5 := by
         have h1 := HG3.out
         rcases hg5 with h | h
         · omega
         · have h2 := HX3.out.1
           omega
       have HU := hidp (Bx.upd3 hx5 (.int .i64 y.1) (.int .i64 y.2) (.bool true))
       have HB5 := hidp (HB3.out.trans (hF5.below (B := w.heap.size) HB3.out.size (fun i hi => by have := HG3.out; have h2 : i = g3 := hi; omega)))
       have HR5 := hidp hr5
       have HG5 := hidp hg5'
       obtain ⟨a5, c5, hv5⟩ := hr5.len
       subst hv5
       clear hr5 hg5 hF5 hx5 hg5')
    | (refine step_rows (by rfl) _ _ _ (by rfl) 35 i0 _ 2 16 Try.underlying22 HI0.out HZ0.out HZ1.out HZ2.out (by rfl) (by decide) (.slice (some ⟨w1.heap.size, 0, none⟩) 0 0) 0 [] (w1.heap.size) (by rfl) (Row.empty 2 w1.drew #[] 35) ⟨b, off, none⟩ p _ (itemCells EI (l.take p)) ⟨_, rfl, fun hm => by first | rfl | simp⟩ (by rw [itemCells_length, List.length_take, Nat.min_eq_left hp0]; rfl) (fun q u hq => by rw [Addr.add_lit]; exact (World.cell?_alloc_lt _ _ _ hbl1).trans (HFL1.out q u (by rw [← itemCells_take (E := EI)] at hq; rw [List.getElem?_take] at hq; split at hq; exact hq; cases hq))) (itemCells_one _) (by unfold maxLen; omega) (by omega) ?_
       intro v3 w3 g3 hr3 hg3 hF3
       have hF3' : Fr (fun k => k = w1.heap.size) (w1.drew.alloc (.cells #[] 35)) w3 := hF3
       have hWs : (w1.drew.alloc (.cells #[] 35)).heap.size = w1.heap.size + 1 := by simp only [World.size_alloc]; rfl
       have hs1 : w.heap.size < w1.heap.size := HX1.out.1
       have hg3' : w1.heap.size ≤ g3 := by
         have hg4 : g3 = w1.heap.size ∨ (w1.drew.alloc (.cells #[] 35)).heap.size ≤ g3 := hg3
         rcases hg4 with h | h <;> omega
       have hsz3 := hF3'.size
       have hBW : Below w1.heap.size w1 (w1.drew.alloc (.cells #[] 35)) := (Below.refl _ _).drew.alloc (Nat.le_refl _) _
       have HX3 := hidp ((Bx.below HX1.out hBW HX1.out.1).keep hF3' (by show ¬ _ = _; omega))
       have HB3 := hidp (HB1.out.trans ((hBW.mono (by omega)).trans (hF3'.below (B := w.heap.size) (by omega) (fun i hi => by have h2 : i = w1.heap.size := hi; omega))))
       have HR3 : Hid (Row 2 w3 v3 p (itemCells EI (l.take p)) (some g3)) := hidp (by simpa using hr3)
       have HG3 : Hid (w.heap.size < g3) := hidp (by omega)
       have HFL3 : Hid (∀ j u, (itemCells EI l)[j]? = some u → w3.cell? ⟨b, off + j, none⟩ = some u) := hidp fun j u hu => (hF3'.cell (x := ⟨b, off + j, none⟩) (by show b < (w1.drew.alloc (.cells #[] 35)).heap.size; omega) (by show ¬ b = w1.heap.size; omega)).trans ((World.cell?_alloc_lt _ _ _ hbl1).trans (HFL1.out j u hu))
       have hbl3 : b < w3.heap.size := by omega
       have hbg : ¬ b = g3 := by omega
       obtain ⟨a3, c3, hv3⟩ := HR3.out.len
       subst hv3
       have y1 := HFL3.out (p * 2) _ HY1.out
       have y2 : w3.cell? ⟨b, off + p * 2 + 1, none⟩ = some (.int .i64 y.2) := by
         rw [Nat.add_assoc]
         exact HFL3.out (p * 2 + 1) _ HY2.out
       clear hr3 hg3 hF3 hF3' hWs hBW hg3' hsz3)
    refine hK.out _ _ ?_ (fun hHeld => ?_)
    · (try dsimp only); go_keep
    clear hK K
    try simp only [Act.put, setIfInBounds_toArray, set_cons_zero, set_cons_succ]
    refine Last.tk 15 4 #[Y,Y,Y,Y,Y,Y,Y,Y,Y,Y,Y,Y,Y,Y,Y,Y,Z] rfl rfl hHeld ?_
    refine Last.last_ (i := 16) (N := none) #[Y,Y,Y,Y,Y,Y,Y,Y,Y,Y,Y,Y,Y,Y,Y,Y,Y] rfl rfl (by kernel_rfl) (by decide) (fun K hK => ?_)
    go_simp
    refine hK.out _ _ ?_
    clear hK K
    try simp only [Act.put, setIfInBounds_toArray, set_cons_zero, set_cons_succ]
    refine Last.done_ (by kernel_rfl) ?_
    go_wp2
    refine bodyPost_ret (v := .tuple #[.slice a5 (p + (l.length - (p + 1))) c5, ff (some y)]) (by simp [results, Try.results30, go_sem, ff, k0, k1, k2, f0, f1, f2]) rfl ?_
    have hfin := HR5.out.keep HU.out.fr (fun b hb h => by obtain rfl := Option.some.inj hb; have := HG5.out; have h2 : _ = w.heap.size := h; omega)
    refine ⟨_, rfl, some g5, ?_, fun b hb => by obtain rfl := Option.some.inj hb; have := HG5.out; omega, ((HB5.out.setCell (by show w.heap.size ≤ w.heap.size; omega) _).setCell (by show w.heap.size ≤ w.heap.size; omega) _).setCell (by show w.heap.size ≤ w.heap.size; omega) _⟩
    have hlen : (l.take p ++ l.drop (p + 1)).length = p + (l.length - (p + 1)) := by simp; omega
    rw [hlen, itemCells_append]
    exact hfin
  · go_upto_region 3 with (fail)
    rw [← hw1]
    clear hw1
    go_wp2_with fail
    refine Last.start_ (S := fun w' => w'.cell? ⟨b, off + p * 2, none⟩ = some (.int .i64 y.1) ∧ w'.cell? ⟨b, off + p * 2 + 1, none⟩ = some (.int .i64 y.2)) (ds := [16]) #[Z,Z,Z,Z,Z,Z,Z,Z,Z,Z,Z,Z,Z,Z,Z,Z,Z] (by rfl) (by rfl) (by rfl) ?_ (fun hHeld => ?_)
    · go_keep
    refine Last.tk 1 17 #[Z,Y,Z,Z,Z,Z,Z,Z,Z,Z,Z,Z,Z,Z,Z,Z,Z] rfl rfl hHeld ?_
    refine Last.tk 2 18 #[Z,Y,Y,Z,Z,Z,Z,Z,Z,Z,Z,Z,Z,Z,Z,Z,Z] rfl rfl hHeld ?_
    refine Last.tk 3 19 #[Z,Y,Y,Y,Z,Z,Z,Z,Z,Z,Z,Z,Z,Z,Z,Z,Z] rfl rfl hHeld ?_
    refine Last.tk 5 21 #[Z,Y,Y,Y,Z,Y,Z,Z,Z,Z,Z,Z,Z,Z,Z,Z,Z] rfl rfl hHeld ?_
    refine Last.tk 6 22 #[Z,Y,Y,Y,Z,Y,Y,Z,Z,Z,Z,Z,Z,Z,Z,Z,Z] rfl rfl hHeld ?_
    refine Last.tk 7 23 #[Z,Y,Y,Y,Z,Y,Y,Y,Z,Z,Z,Z,Z,Z,Z,Z,Z] rfl rfl hHeld ?_
    refine Last.tk 8 24 #[Z,Y,Y,Y,Z,Y,Y,Y,Y,Z,Z,Z,Z,Z,Z,Z,Z] rfl rfl hHeld ?_
    refine Last.tk 10 26 #[Z,Y,Y,Y,Z,Y,Y,Y,Y,Z,Y,Z,Z,Z,Z,Z,Z] rfl rfl hHeld ?_
    refine Last.tk 11 27 #[Z,Y,Y,Y,Z,Y,Y,Y,Y,Z,Y,Y,Z,Z,Z,Z,Z] rfl rfl hHeld ?_
    refine Last.tk 12 28 #[Z,Y,Y,Y,Z,Y,Y,Y,Y,Z,Y,Y,Y,Z,Z,Z,Z] rfl rfl hHeld ?_
    refine Last.tk 13 29 #[Z,Y,Y,Y,Z,Y,Y,Y,Y,Z,Y,Y,Y,Y,Z,Z,Z] rfl rfl hHeld ?_
    refine Last.tk 14 30 #[Z,Y,Y,Y,Z,Y,Y,Y,Y,Z,Y,Y,Y,Y,Y,Z,Z] rfl rfl hHeld ?_
    refine Last.one_ (i := 0) (N := some 16) #[Y,Y,Y,Y,Z,Y,Y,Y,Y,Z,Y,Y,Y,Y,Y,Z,Z] rfl rfl (by kernel_rfl) (by decide) (fun K hK => ?_)
    go_simp
    have y1 : (w1.drew.alloc (.cells #[] 35)).cell? ⟨b, off + p * 2, none⟩ = some (.int .i64 y.1) := (World.cell?_alloc_lt _ _ _ hbl1).trans y1
    have y2 : (w1.drew.alloc (.cells #[] 35)).cell? ⟨b, off + p * 2 + 1, none⟩ = some (.int .i64 y.2) := (World.cell?_alloc_lt _ _ _ hbl1).trans y2
    refine hK.out _ _ ?_ (fun hHeld => ?_)
    · (try dsimp only); go_keep
    clear hK K
    try simp only [Act.put, setIfInBounds_toArray, set_cons_zero, set_cons_succ]
    refine Last.one_ (i := 4) (N := some 20) #[Y,Y,Y,Y,Y,Y,Y,Y,Y,Z,Y,Y,Y,Y,Y,Z,Z] rfl rfl (by kernel_rfl) (by decide) (fun K hK => ?_)
    first
    | (refine step_rows (by rfl) _ _ _ (by rfl) 35 i0 _ 2 16 Try.underlying22 HI0.out HZ0.out HZ1.out HZ2.out (by rfl) (by decide) (.slice a3 p c3) p (itemCells EI (l.take p)) g3 (by rfl) HR3.out ⟨b, off + (p + 1) * 2, none⟩ (l.length - (p + 1)) (cap - (p + 1)) (itemCells EI (l.drop (p + 1))) ⟨_, rfl, fun hm => by first | rfl | (rw [if_neg hcp]; rfl) | simp [hcp]⟩ (by rw [itemCells_length, List.length_drop]; rfl) (fun q u hq => by rw [Addr.add_lit, Nat.add_assoc]; refine HFL3.out ((p + 1) * 2 + q) u ?_; rw [← itemCells_drop (E := EI), List.getElem?_drop] at hq; exact hq) (itemCells_one _) (by unfold maxLen; omega) (by omega) ?_
       intro v5 w5 g5 hr5 hg5 hF5
       have y1 := (hF5.cell (x := ⟨b, off + p * 2, none⟩) hbl3 hbg).trans y1
       have y2 := (hF5.cell (x := ⟨b, off + p * 2 + 1, none⟩) hbl3 hbg).trans y2
       have hx5 := HX3.out.keep hF5 (by have := HG3.out; show ¬ _ = _; omega)
       have k0 := hx5.cell 0 rfl
       have k1 := hx5.cell 1 rfl
       have k2 := hx5.cell 2 rfl
       have f0 := hx5.froz 0 (v := .int .i64 0) rfl
       have f1 := hx5.froz 1 (v := .int .i64 0) rfl
       have f2 := hx5.froz 2 (v := .bool false) rfl
       have hl5 := hx5.1
       have hg5' : w.heap.size < g5 := by
         have h1 := HG3.out
         rcases hg5 with h | h
         · omega
         · have h2 := HX3.out.1
           omega
       have HU := hidp (Bx.upd3 hx5 (.int .i64 y.1) (.int .i64 y.2) (.bool true))
       have HB5 := hidp (HB3.out.trans (hF5.below (B := w.heap.size) HB3.out.size (fun i hi => by have := HG3.out; have h2 : i = g3 := hi; omega)))
       have HR5 := hidp hr5
       have HG5 := hidp hg5'
       obtain ⟨a5, c5, hv5⟩ := hr5.len
       subst hv5
       clear hr5 hg5 hF5 hx5 hg5')
    | (refine step_rows (by rfl) _ _ _ (by rfl) 35 i0 _ 2 16 Try.underlying22 HI0.out HZ0.out HZ1.out HZ2.out (by rfl) (by decide) (.slice (some ⟨w1.heap.size, 0, none⟩) 0 0) 0 [] (w1.heap.size) (by rfl) (Row.empty 2 w1.drew #[] 35) ⟨b, off, none⟩ p _ (itemCells EI (l.take p)) ⟨_, rfl, fun hm => by first | rfl | simp⟩ (by rw [itemCells_length, List.length_take, Nat.min_eq_left hp0]; rfl) (fun q u hq => by rw [Addr.add_lit]; exact (World.cell?_alloc_lt _ _ _ hbl1).trans (HFL1.out q u (by rw [← itemCells_take (E := EI)] at hq; rw [List.getElem?_take] at hq; split at hq; exact hq; cases hq))) (itemCells_one _) (by unfold maxLen; omega) (by omega) ?_
       intro v3 w3 g3 hr3 hg3 hF3
       have hF3' : Fr (fun k => k = w1.heap.size) (w1.drew.alloc (.cells #[] 35)) w3 := hF3
       have hWs : (w1.drew.alloc (.cells #[] 35)).heap.size = w1.heap.size + 1 := by simp only [World.size_alloc]; rfl
       have hs1 : w.heap.size < w1.heap.size := HX1.out.1
       have hg3' : w1.heap.size ≤ g3 := by
         have hg4 : g3 = w1.heap.size ∨ (w1.drew.alloc (.cells #[] 35)).heap.size ≤ g3 := hg3
         rcases hg4 with h | h <;> omega
       have hsz3 := hF3'.size
       have hBW : Below w1.heap.size w1 (w1.drew.alloc (.cells #[] 35)) := (Below.refl _ _).drew.alloc (Nat.le_refl _) _
       have HX3 := hidp ((Bx.below HX1.out hBW HX1.out.1).keep hF3' (by show ¬ _ = _; omega))
       have HB3 := hidp (HB1.out.trans ((hBW.mono (by omega)).trans (hF3'.below (B := w.heap.size) (by omega) (fun i hi => by have h2 : i = w1.heap.size := hi; omega))))
       have HR3 : Hid (Row 2 w3 v3 p (itemCells EI (l.take p)) (some g3)) := hidp (by simpa using hr3)
       have HG3 : Hid (w.heap.size < g3) := hidp (by omega)
       have HFL3 : Hid (∀ j u, (itemCells EI l)[j]? = some u → w3.cell? ⟨b, off + j, none⟩ = some u) := hidp fun j u hu => (hF3'.cell (x := ⟨b, off + j, none⟩) (by show b < (w1.drew.alloc (.cells #[] 35)).heap.size; omega) (by show ¬ b = w1.heap.size; omega)).trans ((World.cell?_alloc_lt _ _ _ hbl1).trans (HFL1.out j u hu))
       have hbl3 : b < w3.heap.size := by omega
       have hbg : ¬ b = g3 := by omega
       obtain ⟨a3, c3, hv3⟩ := HR3.out.len
       subst hv3
       have y1 := HFL3.out (p * 2) _ HY1.out
       have y2 : w3.cell? ⟨b, off + p * 2 + 1, none⟩ = some (.int .i64 y.2) := by
         rw [Nat.add_assoc]
         exact HFL3.out (p * 2 + 1) _ HY2.out
       clear hr3 hg3 hF3 hF3' hWs hBW hg3' hsz3)
    refine hK.out _ _ ?_ (fun hHeld => ?_)
    · (try dsimp only); go_keep
    clear hK K
    try simp only [Act.put, setIfInBounds_toArray, set_cons_zero, set_cons_succ]
    refine Last.one_ (i := 9) (N := some 25) #[Y,Y,Y,Y,Y,Y,Y,Y,Y,Y,Y,Y,Y,Y,Y,Z,Z] rfl rfl (by kernel_rfl) (by decide) (fun K hK => ?_)
    first
    | (refine step_rows (by rfl) _ _ _ (by rfl) 35 i0 _ 2 16 Try.underlying22 HI0.out HZ0.out HZ1.out HZ2.out (by rfl) (by decide) (.slice a3 p c3) p (itemCells EI (l.take p)) g3 (by rfl) HR3.out ⟨b, off + (p + 1) * 2, none⟩ (l.length - (p + 1)) (cap - (p + 1)) (itemCells EI (l.drop (p + 1))) ⟨_, rfl, fun hm => by first | rfl | (rw [if_neg hcp]; rfl) | simp [hcp]⟩ (by rw [itemCells_length, List.length_drop]; rfl) (fun q u hq => by rw [Addr.add_lit, Nat.add_assoc]; refine HFL3.out ((p + 1) * 2 + q) u ?_; rw [← itemCells_drop (E := EI), List.getElem?_drop] at hq; exact hq) (itemCells_one _) (by unfold maxLen; omega) (by omega) ?_
       intro v5 w5 g5 hr5 hg5 hF5
       have y1 := (hF5.cell (x := ⟨b, off + p * 2, none⟩) hbl3 hbg).trans y1
       have y2 := (hF5.cell (x := ⟨b, off + p * 2 + 1, none⟩) hbl3 hbg).trans y2
       have hx5 := HX3.out.keep hF5 (by have := HG3.out; show ¬ _ = _; omega)
       have k0 := hx5.cell 0 rfl
       have k1 := hx5.cell 1 rfl
       have k2 := hx5.cell 2 rfl
       have f0 := hx5.froz 0 (v := .int .i64 0) rfl
       have f1 := hx5.froz 1 (v := .int .i64 0) rfl
       have f2 := hx5.froz 2 (v := .bool false) rfl
       have hl5 := hx5.1
       have hg5' : w.heap.size < g5 := by
         have h1 := HG3.out
         rcases hg5 with h | h
         · omega
         · have h2 := HX3.out.1
           omega
       have HU := hidp (Bx.upd3 hx5 (.int .i64 y.1) (.int .i64 y.2) (.bool true))
       have HB5 := hidp (HB3.out.trans (hF5.below (B := w.heap.size) HB3.out.size (fun i hi => by have := HG3.out; have h2 : i = g3 := hi; omega)))
       have HR5 := hidp hr5
       have HG5 := hidp hg5'
       obtain ⟨a5, c5, hv5⟩ := hr5.len
       subst hv5
       clear hr5 hg5 hF5 hx5 hg5')
    | (refine step_rows (by rfl) _ _ _ (by rfl) 35 i0 _ 2 16 Try.underlying22 HI0.out HZ0.out HZ1.out HZ2.out (by rfl) (by decide) (.slice (some ⟨w1.heap.size, 0, none⟩) 0 0) 0 [] (w1.heap.size) (by rfl) (Row.empty 2 w1.drew #[] 35) ⟨b, off, none⟩ p _ (itemCells EI (l.take p)) ⟨_, rfl, fun hm => by first | rfl | simp⟩ (by rw [itemCells_length, List.length_take, Nat.min_eq_left hp0]; rfl) (fun q u hq => by rw [Addr.add_lit]; exact (World.cell?_alloc_lt _ _ _ hbl1).trans (HFL1.out q u (by rw [← itemCells_take (E := EI)] at hq; rw [List.getElem?_take] at hq; split at hq; exact hq; cases hq))) (itemCells_one _) (by unfold maxLen; omega) (by omega) ?_
       intro v3 w3 g3 hr3 hg3 hF3
       have hF3' : Fr (fun k => k = w1.heap.size) (w1.drew.alloc (.cells #[] 35)) w3 := hF3
       have hWs : (w1.drew.alloc (.cells #[] 35)).heap.size = w1.heap.size + 1 := by simp only [World.size_alloc]; rfl
       have hs1 : w.heap.size < w1.heap.size := HX1.out.1
       have hg3' : w1.heap.size ≤ g3 := by
         have hg4 : g3 = w1.heap.size ∨ (w1.drew.alloc (.cells #[] 35)).heap.size ≤ g3 := hg3
         rcases hg4 with h | h <;> omega
       have hsz3 := hF3'.size
       have hBW : Below w1.heap.size w1 (w1.drew.alloc (.cells #[] 35)) := (Below.refl _ _).drew.alloc (Nat.le_refl _) _
       have HX3 := hidp ((Bx.below HX1.out hBW HX1.out.1).keep hF3' (by show ¬ _ = _; omega))
       have HB3 := hidp (HB1.out.trans ((hBW.mono (by omega)).trans (hF3'.below (B := w.heap.size) (by omega) (fun i hi => by have h2 : i = w1.heap.size := hi; omega))))
       have HR3 : Hid (Row 2 w3 v3 p (itemCells EI (l.take p)) (some g3)) := hidp (by simpa using hr3)
       have HG3 : Hid (w.heap.size < g3) := hidp (by omega)
       have HFL3 : Hid (∀ j u, (itemCells EI l)[j]? = some u → w3.cell? ⟨b, off + j, none⟩ = some u) := hidp fun j u hu => (hF3'.cell (x := ⟨b, off + j, none⟩) (by show b < (w1.drew.alloc (.cells #[] 35)).heap.size; omega) (by show ¬ b = w1.heap.size; omega)).trans ((World.cell?_alloc_lt _ _ _ hbl1).trans (HFL1.out j u hu))
       have hbl3 : b < w3.heap.size := by omega
       have hbg : ¬ b = g3 := by omega
       obtain ⟨a3, c3, hv3⟩ := HR3.out.len
       subst hv3
       have y1 := HFL3.out (p * 2) _ HY1.out
       have y2 : w3.cell? ⟨b, off + p * 2 + 1, none⟩ = some (.int .i64 y.2) := by
         rw [Nat.add_assoc]
         exact HFL3.out (p * 2 + 1) _ HY2.out
       clear hr3 hg3 hF3 hF3' hWs hBW hg3' hsz3)
    refine hK.out _ _ ?_ (fun hHeld => ?_)
    · (try dsimp only); go_keep
    clear hK K
    try simp only [Act.put, setIfInBounds_toArray, set_cons_zero, set_cons_succ]
    refine Last.tk 15 4 #[Y,Y,Y,Y,Y,Y,Y,Y,Y,Y,Y,Y,Y,Y,Y,Y,Z] rfl rfl hHeld ?_
    refine Last.last_ (i := 16) (N := none) #[Y,Y,Y,Y,Y,Y,Y,Y,Y,Y,Y,Y,Y,Y,Y,Y,Y] rfl rfl (by kernel_rfl) (by decide) (fun K hK => ?_)
    go_simp
    refine hK.out _ _ ?_
    clear hK K
    try simp only [Act.put, setIfInBounds_toArray, set_cons_zero, set_cons_succ]
    refine Last.done_ (by kernel_rfl) ?_
    go_wp2
    refine bodyPost_ret (v := .tuple #[.slice a5 (p + (l.length - (p + 1))) c5, ff (some y)]) (by simp [results, Try.results30, go_sem, ff, k0, k1, k2, f0, f1, f2]) rfl ?_
    have hfin := HR5.out.keep HU.out.fr (fun b hb h => by obtain rfl := Option.some.inj hb; have := HG5.out; have h2 : _ = w.heap.size := h; omega)
    refine ⟨_, rfl, some g5, ?_, fun b hb => by obtain rfl := Option.some.inj hb; have := HG5.out; omega, ((HB5.out.setCell (by show w.heap.size ≤ w.heap.size; omega) _).setCell (by show w.heap.size ≤ w.heap.size; omega) _).setCell (by show w.heap.size ≤ w.heap.size; omega) _⟩
    have hlen : (l.take p ++ l.drop (p + 1)).length = p + (l.length - (p + 1)) := by simp; omega
    rw [hlen, itemCells_append]
    exact hfin
end Go.Proofs.Ytehnobbiiokcgaa.Bt.ND
