/- Nodes as data: the levels of a node behind two of its children were balanced (no program). -/
import Derived.Test.YtehnobbiiokcgaaBtLb
namespace Go.Proofs.Ytehnobbiiokcgaa.Bt.ND
set_option linter.unusedVariables false
set_option linter.unusedSimpArgs false
open Go Go.RowKit Go.Proofs.Ytehnobbiiokcgaa.Bt

/-- A node whose children all have h levels has one more. -/
theorem lev_of {h n : Nat} {t : DT (n + 1)} (hl : t.2.1.length = t.1.length + 1) (hk : ∀ k ∈ t.2.1, lev n k = (h + 1, true)) : lev (n + 1) t = (h + 2, true) := by
  cases he : t.2.1 with
  | nil => rw [he] at hl; simp at hl
  | cons k ks =>
    rw [lev_cons he, if_pos (by rw [← he]; exact hl)]
    have h1 := hk k (by rw [he]; simp)
    have h2 : (k :: ks).all (fun k' => (lev n k').2 && decide ((lev n k').1 = (lev n k).1)) = true := List.all_eq_true.2 fun k' hk' => by
      have h3 := hk k' (by rw [he]; exact hk')
      rw [h3, h1]; simp
    rw [h2, h1]
theorem lev_leaf {n : Nat} {t : DT (n + 1)} (h : t.2.1 = []) : lev (n + 1) t = (1, true) := by
  unfold lev; rw [h]
/-- The two children, put together or cut elsewhere, have as many levels as before. -/
theorem lev_joinD {h n : Nat} {a b : DT (n + 1)} {m : Im} (ha : lev (n + 1) a = (h + 1, true)) (hb : lev (n + 1) b = (h + 1, true)) : lev (n + 1) (joinD a m b) = (h + 1, true) := by
  cases h with
  | zero =>
    refine lev_leaf ?_
    show a.2.1 ++ b.2.1 = []
    rw [lev_one ha, lev_one hb]; rfl
  | succ h =>
    obtain ⟨la, ka⟩ := lev_two ha
    obtain ⟨lb, kb⟩ := lev_two hb
    refine lev_of ?_ fun k hk => ?_
    · show (a.2.1 ++ b.2.1).length = (a.1 ++ m :: b.1).length + 1
      rw [List.length_append, List.length_append, List.length_cons, la, lb]; omega
    · rcases List.mem_append.1 hk with h1 | h1
      · exact ka k h1
      · exact kb k h1
theorem lev_leftD {h n : Nat} {a b : DT (n + 1)} {m : Im} {p : Nat} (ha : lev (n + 1) a = (h + 1, true)) (hb : lev (n + 1) b = (h + 1, true)) (hp : p ≤ a.1.length + 1 + b.1.length) : lev (n + 1) (leftD a m b p) = (h + 1, true) := by
  cases h with
  | zero =>
    refine lev_leaf ?_
    show (a.2.1 ++ b.2.1).take (p + 1) = []
    rw [lev_one ha, lev_one hb]; rfl
  | succ h =>
    obtain ⟨la, ka⟩ := lev_two ha
    obtain ⟨lb, kb⟩ := lev_two hb
    refine lev_of ?_ fun k hk => ?_
    · show ((a.2.1 ++ b.2.1).take (p + 1)).length = ((a.1 ++ m :: b.1).take p).length + 1
      rw [List.length_take, List.length_take, List.length_append, List.length_append, List.length_cons, la, lb]; omega
    · have hk2 : k ∈ a.2.1 ++ b.2.1 := List.mem_of_mem_take hk
      rcases List.mem_append.1 hk2 with h1 | h1
      · exact ka k h1
      · exact kb k h1
theorem lev_rightD {h n : Nat} {a b : DT (n + 1)} {m : Im} {p : Nat} (ha : lev (n + 1) a = (h + 1, true)) (hb : lev (n + 1) b = (h + 1, true)) (hp : p + 1 ≤ a.1.length + 1 + b.1.length) : lev (n + 1) (rightD a m b p) = (h + 1, true) := by
  cases h with
  | zero =>
    refine lev_leaf ?_
    show (a.2.1 ++ b.2.1).drop (p + 1) = []
    rw [lev_one ha, lev_one hb]; rfl
  | succ h =>
    obtain ⟨la, ka⟩ := lev_two ha
    obtain ⟨lb, kb⟩ := lev_two hb
    refine lev_of ?_ fun k hk => ?_
    · show ((a.2.1 ++ b.2.1).drop (p + 1)).length = ((a.1 ++ m :: b.1).drop (p + 1)).length + 1
      rw [List.length_drop, List.length_drop, List.length_append, List.length_append, List.length_cons, la, lb]; omega
    · have hk2 : k ∈ a.2.1 ++ b.2.1 := List.mem_of_mem_drop hk
      rcases List.mem_append.1 hk2 with h1 | h1
      · exact ka k h1
      · exact kb k h1
/-- The whole node has as many levels as before. -/
theorem lev_rebD {D h n : Nat} (hD : 2 ≤ D) {t : DT (n + 2)} (hl : lev (n + 2) t = (h + 2, true)) {j : Nat} {a b : DT (n + 1)} {m : Im} (hm : t.1[j]? = some m) (ha : t.2.1[j]? = some a) (hb : t.2.1[j + 1]? = some b) : lev (n + 2) (rebD D t j a b m) = (h + 2, true) := by
  have hj := (List.getElem?_eq_some_iff.1 hm).1
  obtain ⟨hkl, hk⟩ := lev_two hl
  have la := hk a (List.mem_of_getElem? ha)
  have lb := hk b (List.mem_of_getElem? hb)
  unfold rebD
  split
  · refine lev_of ?_ fun k hkm => ?_
    · show (t.2.1.take j ++ joinD a m b :: t.2.1.drop (j + 2)).length = (t.1.take j ++ t.1.drop (j + 1)).length + 1
      rw [List.length_append, List.length_append, List.length_cons, List.length_take, List.length_take, List.length_drop, List.length_drop, hkl]; omega
    · rcases List.mem_append.1 hkm with h1 | h1
      · exact hk k (List.mem_of_mem_take h1)
      · rcases List.mem_cons.1 h1 with rfl | h1
        · exact lev_joinD la lb
        · exact hk k (List.mem_of_mem_drop h1)
  · rename_i hs
    have hp : atD a.1.length b.1.length + 1 ≤ a.1.length + 1 + b.1.length := by unfold atD; split <;> omega
    obtain ⟨y, hy⟩ : ∃ y, (a.1 ++ m :: b.1)[atD a.1.length b.1.length]? = some y := ⟨_, List.getElem?_eq_getElem (by rw [List.length_append, List.length_cons]; omega)⟩
    rw [hy]
    refine lev_of ?_ fun k hkm => ?_
    · show (t.2.1.take j ++ leftD a m b _ :: rightD a m b _ :: t.2.1.drop (j + 2)).length = (t.1.take j ++ [y] ++ t.1.drop (j + 1)).length + 1
      rw [List.length_append, List.length_append, List.length_append, List.length_cons, List.length_cons, List.length_singleton, List.length_take, List.length_take, List.length_drop, List.length_drop, hkl]; omega
    · rcases List.mem_append.1 hkm with h1 | h1
      · exact hk k (List.mem_of_mem_take h1)
      · rcases List.mem_cons.1 h1 with rfl | h1
        · exact lev_leftD la lb (by omega)
        · rcases List.mem_cons.1 h1 with rfl | h1
          · exact lev_rightD la lb hp
          · exact hk k (List.mem_of_mem_drop h1)
end Go.Proofs.Ytehnobbiiokcgaa.Bt.ND
