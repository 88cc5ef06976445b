/- Nodes as data: a node behind two of its children were balanced (no program). -/
import Derived.Test.YtehnobbiiokcgaaBtNx
import Derived.Test.YtehnobbiiokcgaaBtDel
namespace Go.Proofs.Ytehnobbiiokcgaa.Bt.ND
set_option linter.unusedVariables false
set_option linter.unusedSimpArgs false
open Go Go.RowKit Go.Proofs.Ytehnobbiiokcgaa.Bt

/-- The items of a node. -/
def dIts : (n : Nat) → DT n → List Im
  | 0, _ => []
  | _ + 1, t => t.1
/-- What 'Lacks' says where it says yes. -/
structure LackP (D : Nat) {n : Nat} (t : DT (n + 1)) (i : Int) (p : Nat) : Prop where
  ix : i = (p : Int)
  lt : p < t.2.1.length
  lo : 1 ≤ t.1.length
  hi : t.1.length ≤ 2 * D - 1
  kid : ∀ k, t.2.1[p]? = some k → (dIts n k).length = D - 2
  fil : ∀ j k, t.2.1[j]? = some k → filled D (if j = p then D - 2 else D - 1) n k = true
  lev : (lev (n + 1) t).2 = true
  ris : rising (dAll (n + 1) t)

theorem its_toBT : ∀ (h n : Nat) (k : DT (n + 1)), BT.its (toBT h (n + 1) k) = k.1
  | 0, _, _ => rfl
  | _ + 1, _, _ => rfl
theorem lev_two {h n : Nat} {t : DT (n + 1)} (hl : lev (n + 1) t = (h + 2, true)) : t.2.1.length = t.1.length + 1 ∧ ∀ k ∈ t.2.1, lev n k = (h + 1, true) := by
  cases hk : t.2.1 with
  | nil =>
    unfold lev at hl; rw [hk] at hl
    simp at hl
  | cons k ks =>
    rw [lev_cons hk] at hl
    split at hl
    · rename_i hn
      simp only [Prod.mk.injEq] at hl
      refine ⟨hn, fun k' hk' => ?_⟩
      have h3 := List.all_eq_true.1 hl.2 k' hk'
      rw [Bool.and_eq_true, decide_eq_true_eq] at h3
      exact Prod.ext (by rw [h3.2]; show (lev n k).1 = h + 1; omega) h3.1
    · cases hl
theorem lev_one {n : Nat} {t : DT (n + 1)} (hl : lev (n + 1) t = (1, true)) : t.2.1 = [] := by
  cases hk : t.2.1 with
  | nil => rfl
  | cons k ks =>
    rw [lev_cons hk] at hl
    split at hl
    · simp only [Prod.mk.injEq] at hl
      have h2 := hl.2
      rw [List.all_cons, Bool.and_eq_true, Bool.and_eq_true] at h2
      have := lev_pos n k h2.1.1
      omega
    · cases hl

/-- Two neighbours and the item between them, made one. -/
def joinD {n : Nat} (a : DT (n + 1)) (m : Im) (b : DT (n + 1)) : DT (n + 1) := (a.1 ++ m :: b.1, a.2.1 ++ b.2.1, 0)
/-- The same cut at the item 'at'. -/
def leftD {n : Nat} (a : DT (n + 1)) (m : Im) (b : DT (n + 1)) (p : Nat) : DT (n + 1) := ((a.1 ++ m :: b.1).take p, (a.2.1 ++ b.2.1).take (p + 1), 0)
def rightD {n : Nat} (a : DT (n + 1)) (m : Im) (b : DT (n + 1)) (p : Nat) : DT (n + 1) := ((a.1 ++ m :: b.1).drop (p + 1), (a.2.1 ++ b.2.1).drop (p + 1), 0)
/-- Where it is cut. -/
def atD (la lb : Nat) : Nat := if lb < la then la - 1 else la + 1
/-- 'spec.Rebalanced', ahead of its counts. -/
def rebD (D : Nat) {n : Nat} (t : DT (n + 2)) (j : Nat) (a b : DT (n + 1)) (m : Im) : DT (n + 2) :=
  if a.1.length + b.1.length < 2 * D - 1 then (t.1.take j ++ t.1.drop (j + 1), t.2.1.take j ++ joinD a m b :: t.2.1.drop (j + 2), 0)
  else (t.1.take j ++ (a.1 ++ m :: b.1)[atD a.1.length b.1.length]?.toList ++ t.1.drop (j + 1), t.2.1.take j ++ leftD a m b (atD a.1.length b.1.length) :: rightD a m b (atD a.1.length b.1.length) :: t.2.1.drop (j + 2), 0)

theorem toBT_join {h n : Nat} (a b : DT (n + 1)) (m : Im) : toBT h (n + 1) (joinD a m b) = joinN h (toBT h (n + 1) a) m (toBT h (n + 1) b) := by
  cases h with
  | zero => rfl
  | succ h => show (_, (a.2.1 ++ b.2.1).map _) = (_, _); rw [List.map_append]; rfl
theorem last_cut {α : Type} {l : List α} (h : 0 < l.length) : ∃ xs y, l = xs ++ [y] ∧ xs.length + 1 = l.length := by
  cases hy : l.getLast? with
  | none => rw [List.getLast?_eq_none_iff.1 hy] at h; simp at h
  | some y =>
    obtain ⟨xs, e⟩ := List.getLast?_eq_some_iff.1 hy
    exact ⟨xs, y, e, by rw [e]; simp⟩
theorem head_cut {α : Type} {l : List α} (h : 0 < l.length) : ∃ y xs, l = y :: xs := by
  cases l with
  | nil => simp at h
  | cons y xs => exact ⟨y, xs, rfl⟩
theorem take_one {α : Type} {a b : List α} {m : α} : (a ++ m :: b).take (a.length + 1) = a ++ [m] := by
  rw [show a ++ m :: b = (a ++ [m]) ++ b by simp, show a.length + 1 = (a ++ [m]).length by simp, List.take_left]
theorem drop_one' {α : Type} {a b : List α} {m : α} : (a ++ m :: b).drop (a.length + 1) = b := by
  rw [show a ++ m :: b = (a ++ [m]) ++ b by simp, show a.length + 1 = (a ++ [m]).length by simp, List.drop_left]
theorem drop_two {α : Type} {a b : List α} {m y : α} : (a ++ m :: y :: b).drop (a.length + 1 + 1) = b := by
  rw [show a ++ m :: y :: b = (a ++ [m, y]) ++ b by simp, show a.length + 1 + 1 = (a ++ [m, y]).length by simp, List.drop_left]
theorem toBT_shR {h n : Nat} {a b : DT (n + 1)} {m : Im} (ha : lev (n + 1) a = (h + 1, true)) (hb : lev (n + 1) b = (h + 1, true)) (hlt : b.1.length < a.1.length) :
    ∃ y, (a.1 ++ m :: b.1)[a.1.length - 1]? = some y ∧ shR h (toBT h (n + 1) a) m (toBT h (n + 1) b) = some (toBT h (n + 1) (leftD a m b (a.1.length - 1)), y, toBT h (n + 1) (rightD a m b (a.1.length - 1))) := by
  obtain ⟨xs, y, e, el⟩ := last_cut (l := a.1) (by omega)
  have e1 : (a.1 ++ m :: b.1)[a.1.length - 1]? = some y := by rw [e]; simp
  have e2 : (a.1 ++ m :: b.1).take (a.1.length - 1) = xs := by rw [e]; simp
  have e3 : (a.1 ++ m :: b.1).drop (a.1.length - 1 + 1) = m :: b.1 := by rw [e]; simp
  refine ⟨y, e1, ?_⟩
  cases h with
  | zero =>
    have g1 : toBT 0 (n + 1) (leftD a m b (a.1.length - 1)) = xs := e2
    have g2 : toBT 0 (n + 1) (rightD a m b (a.1.length - 1)) = m :: b.1 := e3
    have g3 : toBT 0 (n + 1) a = xs ++ [y] := e
    have g4 : toBT 0 (n + 1) b = b.1 := rfl
    rw [g1, g2, g3, g4, shR]
    simp
  | succ h =>
    obtain ⟨hk, _⟩ := lev_two ha
    obtain ⟨ks, k, f, fl⟩ := last_cut (l := a.2.1) (by omega)
    have f2 : (a.2.1 ++ b.2.1).take (a.1.length - 1 + 1) = ks := by rw [show a.1.length - 1 + 1 = ks.length by omega, f, List.append_assoc, List.take_left]
    have f3 : (a.2.1 ++ b.2.1).drop (a.1.length - 1 + 1) = k :: b.2.1 := by rw [show a.1.length - 1 + 1 = ks.length by omega, f, List.append_assoc, List.drop_left]; rfl
    have g1 : toBT (h + 1) (n + 1) (leftD a m b (a.1.length - 1)) = (xs, ks.map (toBT h n)) := by show (_, _) = _; rw [leftD, e2, f2]
    have g2 : toBT (h + 1) (n + 1) (rightD a m b (a.1.length - 1)) = (m :: b.1, (k :: b.2.1).map (toBT h n)) := by show (_, _) = _; rw [rightD, e3, f3]
    have g3 : toBT (h + 1) (n + 1) a = (xs ++ [y], (ks ++ [k]).map (toBT h n)) := by show (_, _) = _; rw [e, f]
    have g4 : toBT (h + 1) (n + 1) b = (b.1, b.2.1.map (toBT h n)) := rfl
    rw [g1, g2, g3, g4, shR]
    simp
theorem toBT_shL {h n : Nat} {a b : DT (n + 1)} {m : Im} (ha : lev (n + 1) a = (h + 1, true)) (hb : lev (n + 1) b = (h + 1, true)) (hb0 : 0 < b.1.length) :
    ∃ y, (a.1 ++ m :: b.1)[a.1.length + 1]? = some y ∧ shL h (toBT h (n + 1) a) m (toBT h (n + 1) b) = some (toBT h (n + 1) (leftD a m b (a.1.length + 1)), y, toBT h (n + 1) (rightD a m b (a.1.length + 1))) := by
  obtain ⟨y, ys, e⟩ := head_cut hb0
  have e1 : (a.1 ++ m :: b.1)[a.1.length + 1]? = some y := by rw [e]; simp
  have e2 : (a.1 ++ m :: b.1).take (a.1.length + 1) = a.1 ++ [m] := take_one
  have e3 : (a.1 ++ m :: b.1).drop (a.1.length + 1 + 1) = ys := by rw [e]; exact drop_two
  refine ⟨y, e1, ?_⟩
  cases h with
  | zero =>
    have g1 : toBT 0 (n + 1) (leftD a m b (a.1.length + 1)) = a.1 ++ [m] := e2
    have g2 : toBT 0 (n + 1) (rightD a m b (a.1.length + 1)) = ys := e3
    have g3 : toBT 0 (n + 1) a = a.1 := rfl
    have g4 : toBT 0 (n + 1) b = y :: ys := e
    rw [g1, g2, g3, g4, shL]
    rfl
  | succ h =>
    obtain ⟨hka, _⟩ := lev_two ha
    obtain ⟨hkb, _⟩ := lev_two hb
    obtain ⟨k, ks, f⟩ := head_cut (l := b.2.1) (by omega)
    have f2 : (a.2.1 ++ b.2.1).take (a.1.length + 1 + 1) = a.2.1 ++ [k] := by rw [show a.1.length + 1 + 1 = a.2.1.length + 1 by omega, f, take_one]
    have f3 : (a.2.1 ++ b.2.1).drop (a.1.length + 1 + 1) = ks := by rw [show a.1.length + 1 + 1 = a.2.1.length + 1 by omega, f, drop_one']
    have g1 : toBT (h + 1) (n + 1) (leftD a m b (a.1.length + 1)) = (a.1 ++ [m], (a.2.1 ++ [k]).map (toBT h n)) := by show (_, _) = _; rw [leftD, e2, f2]
    have g2 : toBT (h + 1) (n + 1) (rightD a m b (a.1.length + 1)) = (ys, ks.map (toBT h n)) := by show (_, _) = _; rw [rightD, e3, f3]
    have g3 : toBT (h + 1) (n + 1) a = (a.1, a.2.1.map (toBT h n)) := rfl
    have g4 : toBT (h + 1) (n + 1) b = (y :: ys, (k :: ks).map (toBT h n)) := by show (_, _) = _; rw [e, f]
    rw [g1, g2, g3, g4, shL]
    simp

/-- What 'Rebalanced' makes of a node is what the tree's rebalancing makes of its tree. -/
theorem toBT_rebD {D h n : Nat} (hD : 2 ≤ D) {t : DT (n + 2)} (hl : lev (n + 2) t = (h + 2, true)) {j : Nat} {a b : DT (n + 1)} {m : Im} (hm : t.1[j]? = some m) (ha : t.2.1[j]? = some a) (hb : t.2.1[j + 1]? = some b) :
    toBT (h + 1) (n + 2) (rebD D t j a b m) = rebAt (2 * D - 1) (toBT (h + 1) (n + 2) t) j := by
  have hj := (List.getElem?_eq_some_iff.1 hm).1
  obtain ⟨_, hk⟩ := lev_two hl
  have la := hk a (List.mem_of_getElem? ha)
  have lb := hk b (List.mem_of_getElem? hb)
  have g1 : (toBT (h + 1) (n + 2) t).1[j]? = some m := hm
  have g2 : (toBT (h + 1) (n + 2) t).2[j]? = some (toBT h (n + 1) a) := by show (t.2.1.map _)[j]? = _; rw [List.getElem?_map, ha]; rfl
  have g3 : (toBT (h + 1) (n + 2) t).2[j + 1]? = some (toBT h (n + 1) b) := by show (t.2.1.map _)[j + 1]? = _; rw [List.getElem?_map, hb]; rfl
  have g4 : (toBT (h + 1) (n + 2) t).1 = t.1 := rfl
  have g5 : (toBT (h + 1) (n + 2) t).2 = t.2.1.map (toBT h (n + 1)) := rfl
  have hset : ∀ y : Im, t.1.set j y = t.1.take j ++ [y] ++ t.1.drop (j + 1) := fun y => by
    rw [List.set_eq_take_append_cons_drop, if_pos hj]; simp
  unfold rebAt rebD
  rw [g1, g2, g3, g4, g5]
  simp only [its_toBT]
  by_cases hlt : a.1.length + b.1.length < 2 * D - 1
  · rw [if_pos hlt, if_pos hlt, ← toBT_join]
    show (_, (t.2.1.take j ++ joinD a m b :: t.2.1.drop (j + 2)).map (toBT h (n + 1))) = _
    rw [List.map_append, List.map_cons, List.map_take, List.map_drop]
  · rw [if_neg hlt, if_neg hlt]
    by_cases hgt : b.1.length < a.1.length
    · obtain ⟨y, e1, e2⟩ := toBT_shR (m := m) la lb hgt
      have e3 : atD a.1.length b.1.length = a.1.length - 1 := if_pos hgt
      rw [if_pos hgt, e2, e3, e1]
      dsimp only
      rw [hset]
      show (_, (t.2.1.take j ++ leftD a m b (a.1.length - 1) :: rightD a m b (a.1.length - 1) :: t.2.1.drop (j + 2)).map (toBT h (n + 1))) = _
      rw [List.map_append, List.map_cons, List.map_cons, List.map_take, List.map_drop]
      rfl
    · obtain ⟨y, e1, e2⟩ := toBT_shL (m := m) la lb (by omega)
      have e3 : atD a.1.length b.1.length = a.1.length + 1 := if_neg hgt
      rw [if_neg hgt, e2, e3, e1]
      dsimp only
      rw [hset]
      show (_, (t.2.1.take j ++ leftD a m b (a.1.length + 1) :: rightD a m b (a.1.length + 1) :: t.2.1.drop (j + 2)).map (toBT h (n + 1))) = _
      rw [List.map_append, List.map_cons, List.map_cons, List.map_take, List.map_drop]
      rfl

/-- Which neighbours are balanced. -/
def jD (len p : Nat) : Nat := if p = len then p - 1 else p
/-- A node that lacks: its tree, and what rebalancing makes of it. -/
theorem lack_tree {D : Nat} (hD : 2 ≤ D) {n : Nat} {t : DT (n + 2)} {i : Int} {p : Nat} (L : LackP D t i p) :
    ∃ h, lev (n + 2) t = (h + 2, true) ∧ (∀ c ∈ t.2.1.map (toBT h (n + 1)), BT.ok (D - 1) (2 * D - 1) 0 h c) ∧ t.2.1.length = t.1.length + 1 ∧
      BT.all (h + 1) (reb (2 * D - 1) (toBT (h + 1) (n + 2) t) p) = BT.all (h + 1) (toBT (h + 1) (n + 2) t) ∧ BT.ok (D - 1) (2 * D - 1) 0 (h + 1) (reb (2 * D - 1) (toBT (h + 1) (n + 2) t) p) ∧
      ∃ a b m, t.1[jD t.1.length p]? = some m ∧ t.2.1[jD t.1.length p]? = some a ∧ t.2.1[jD t.1.length p + 1]? = some b ∧ toBT (h + 1) (n + 2) (rebD D t (jD t.1.length p) a b m) = reb (2 * D - 1) (toBT (h + 1) (n + 2) t) p := by
  obtain ⟨h, hl⟩ : ∃ h, lev (n + 2) t = (h + 2, true) := by
    have h0 := L.lev
    have hlt := L.lt
    cases hk : t.2.1 with
    | nil => rw [hk] at hlt; simp at hlt
    | cons k ks =>
      have h1 := lev_cons hk
      split at h1
      · rw [h1] at h0
        have h2 : ((k :: ks).all fun k' => (lev (n + 1) k').2 && decide ((lev (n + 1) k').1 = (lev (n + 1) k).1)) = true := h0
        have h3 := h2
        rw [List.all_cons, Bool.and_eq_true, Bool.and_eq_true] at h3
        have h4 := lev_pos (n + 1) k h3.1.1
        exact ⟨(lev (n + 1) k).1 - 1, by rw [h1, h2]; exact Prod.ext (by show (lev (n + 1) k).1 + 1 = _; omega) rfl⟩
      · rw [h1] at h0; cases h0
  obtain ⟨hkl, hk⟩ := lev_two hl
  have hplt := L.lt
  have hlo := L.lo
  have hhi := L.hi
  obtain ⟨j, hj⟩ : ∃ j, j = jD t.1.length p := ⟨_, rfl⟩
  have hj' : (p = t.1.length ∧ j + 1 = p) ∨ (p ≠ t.1.length ∧ j = p) := by
    rw [hj]; unfold jD; split
    · left; omega
    · right; omega
  have hjl : j < t.1.length := by omega
  obtain ⟨m, em⟩ : ∃ m, t.1[j]? = some m := ⟨_, List.getElem?_eq_getElem hjl⟩
  obtain ⟨a, ea⟩ : ∃ a, t.2.1[j]? = some a := ⟨_, List.getElem?_eq_getElem (by omega)⟩
  obtain ⟨b, eb⟩ : ∃ b, t.2.1[j + 1]? = some b := ⟨_, List.getElem?_eq_getElem (by omega)⟩
  have hok : ∀ q k, t.2.1[q]? = some k → BT.ok (D - 1) (2 * D - 1) (if q = p then D - 2 else D - 1) h (toBT h (n + 1) k) := fun q k hq => toBT_ok h (n + 1) _ k (hk k (List.mem_of_getElem? hq)) (L.fil q k hq)
  have hreb : reb (2 * D - 1) (toBT (h + 1) (n + 2) t) p = rebAt (2 * D - 1) (toBT (h + 1) (n + 2) t) j := by rw [hj]; rfl
  have g2 : (toBT (h + 1) (n + 2) t).2[j]? = some (toBT h (n + 1) a) := by show (t.2.1.map _)[j]? = _; rw [List.getElem?_map, ea]; rfl
  have g3 : (toBT (h + 1) (n + 2) t).2[j + 1]? = some (toBT h (n + 1) b) := by show (t.2.1.map _)[j + 1]? = _; rw [List.getElem?_map, eb]; rfl
  have hwk : ∀ q k, t.2.1[q]? = some k → BT.ok (D - 1) (2 * D - 1) (D - 1 - 1) h (toBT h (n + 1) k) := fun q k hq => BT.ok_le (hok q k hq) (by split <;> omega)
  have hpk : ∀ k, t.2.1[p]? = some k → (BT.its (toBT h (n + 1) k)).length = D - 2 := fun k hq => by rw [its_toBT]; exact L.kid k hq
  have hne : ∀ q k, t.2.1[q]? = some k → q ≠ p → D - 1 ≤ (BT.its (toBT h (n + 1) k)).length := fun q k hq hqp => by
    have h1 := hok q k hq
    rw [if_neg hqp] at h1
    exact (BT.ok_its h1).1
  have hR := rebAt_ok (mn := D - 1) (mx := 2 * D - 1) (lo := 1) (t := toBT (h + 1) (n + 2) t) (j := j) (by omega) (by omega) (by show (t.2.1.map _).length = t.1.length + 1; rw [List.length_map]; exact hkl) hlo hhi hjl
    (fun q c hq h1 h2 => by
      have hq' : (t.2.1.map (toBT h (n + 1)))[q]? = some c := hq
      rw [List.getElem?_map] at hq'
      cases hk' : t.2.1[q]? with
      | none => rw [hk'] at hq'; cases hq'
      | some k =>
        rw [hk'] at hq'
        obtain rfl := Option.some.inj hq'
        have h3 := hok q k hk'
        rw [if_neg (by omega)] at h3
        exact h3) g2 g3 (hwk j a ea) (hwk (j + 1) b eb)
    (by
      rcases hj' with ⟨h1, h2⟩ | ⟨h1, h2⟩
      · exact .inl (hne j a ea (by omega))
      · exact .inr (hne (j + 1) b eb (by omega)))
    (by
      rcases hj' with ⟨h1, h2⟩ | ⟨h1, h2⟩
      · right
        have h3 := hpk b (by rw [← h2]; exact eb)
        omega
      · left
        have h3 := hpk a (by rw [← h2]; exact ea)
        omega)
  refine ⟨h, hl, fun c hc => ?_, hkl, by rw [hreb]; exact hR.1, by rw [hreb]; exact hR.2, a, b, m, by rw [← hj]; exact em, by rw [← hj]; exact ea, by rw [← hj]; exact eb, ?_⟩
  · obtain ⟨k, hkm, rfl⟩ := List.mem_map.1 hc
    obtain ⟨q, hq⟩ := List.mem_iff_getElem?.1 hkm
    exact BT.ok_le (hok q k hq) (Nat.zero_le _)
  · rw [← hj, hreb]
    exact toBT_rebD hD hl em ea eb
end Go.Proofs.Ytehnobbiiokcgaa.Bt.ND
