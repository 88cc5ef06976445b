/- Trees of items without memory: what deleting an item makes of a tree, and of the list of its items. -/
import Derived.Test.YtbjhnefienjncaaBtTree
namespace Go.Proofs.Ytbjhnefienjncaa.Bt
set_option linter.unusedVariables false
set_option linter.unusedSimpArgs false

section
variable {I : Type}

/-! ### two neighbours and the item between them -/
def joinN : (h : Nat) → BT I h → I → BT I h → BT I h
  | 0, l, m, r => List.append l (m :: r)
  | _ + 1, l, m, r => (l.1 ++ m :: r.1, l.2 ++ r.2)
/-- The last item of the left one goes up, the item between goes to the right one. -/
def shR : (h : Nat) → BT I h → I → BT I h → Option (BT I h × I × BT I h)
  | 0, l, m, r => match List.getLast? l with
    | some y => some (List.dropLast l, y, m :: r)
    | none => none
  | _ + 1, l, m, r => match l.1.getLast?, l.2.getLast? with
    | some y, some k => some ((l.1.dropLast, l.2.dropLast), y, (m :: r.1, k :: r.2))
    | _, _ => none
/-- The first item of the right one goes up, the item between goes to the left one. -/
def shL : (h : Nat) → BT I h → I → BT I h → Option (BT I h × I × BT I h)
  | 0, l, m, r => match List.head? r with
    | some y => some (List.append l [m], y, List.tail r)
    | none => none
  | _ + 1, l, m, r => match r.1.head?, r.2.head? with
    | some y, some k => some ((l.1 ++ [m], l.2 ++ [k]), y, (r.1.tail, r.2.tail))
    | _, _ => none
/-- Two neighbours are made one, or one gives an item to the other. -/
def rebAt (mx : Nat) {h : Nat} (t : BT I (h + 1)) (j : Nat) : BT I (h + 1) := match t.1[j]?, t.2[j]?, t.2[j + 1]? with
  | some m, some l, some r =>
    if (BT.its l).length + (BT.its r).length < mx then (t.1.take j ++ t.1.drop (j + 1), t.2.take j ++ joinN h l m r :: t.2.drop (j + 2))
    else if (BT.its r).length < (BT.its l).length then match shR h l m r with
      | some (l', y, r') => (t.1.set j y, t.2.take j ++ l' :: r' :: t.2.drop (j + 2))
      | none => t
    else match shL h l m r with
      | some (l', y, r') => (t.1.set j y, t.2.take j ++ l' :: r' :: t.2.drop (j + 2))
      | none => t
  | _, _, _ => t
def reb (mx : Nat) {h : Nat} (t : BT I (h + 1)) (i : Nat) : BT I (h + 1) := rebAt mx t (if i = t.1.length then i - 1 else i)
/-- A child has become another one, which may have too few items. -/
def mend (mn mx : Nat) {h : Nat} (t : BT I (h + 1)) (i : Nat) (c : BT I h) : BT I (h + 1) :=
  if (BT.its c).length < mn then reb mx ((t.1, t.2.set i c) : BT I (h + 1)) i else (t.1, t.2.set i c)
def delMax (mn mx : Nat) : (h : Nat) → BT I h → Option (BT I h × I)
  | 0, l => match List.getLast? l with
    | some y => some (List.dropLast l, y)
    | none => none
  | h + 1, t => match t.2[t.1.length]? with
    | none => none
    | some c => match delMax mn mx h c with
      | none => none
      | some (c', y) => some (mend mn mx t t.1.length c', y)
def delN (lt : I → I → Bool) (mn mx : Nat) : (h : Nat) → BT I h → I → Option (BT I h × I)
  | 0, l, x => match look lt l x with
    | some y => some (List.append (List.take (pos lt l x) l) (List.drop (pos lt l x + 1) l), y)
    | none => none
  | h + 1, t, x => match look lt t.1 x with
    | some y => match t.2[pos lt t.1 x]? with
      | none => none
      | some c => match delMax mn mx h c with
        | none => none
        | some (c', m) => some (mend mn mx ((t.1.set (pos lt t.1 x) m, t.2) : BT I (h + 1)) (pos lt t.1 x) c', y)
    | none => match t.2[pos lt t.1 x]? with
      | none => none
      | some c => match delN lt mn mx h c x with
        | none => none
        | some (c', y) => some (mend mn mx t (pos lt t.1 x) c', y)

/-! ### the list of items -/
theorem weave_join : ∀ (xs : List I) (ls : List (List I)) (m : I) (ys : List I) (ms : List (List I)), ls.length = xs.length + 1 → weave (xs ++ m :: ys) (ls ++ ms) = weave xs ls ++ m :: weave ys ms
  | [], [], m, ys, ms, h => by simp at h
  | [], l :: ls, m, ys, ms, h => by
    obtain rfl : ls = [] := List.eq_nil_of_length_eq_zero (by simpa using h)
    simp [weave]
  | x :: xs, [], m, ys, ms, h => by simp at h
  | x :: xs, l :: ls, m, ys, ms, h => by
    have ih := weave_join xs ls m ys ms (by simpa using h)
    simp [weave, ih]
theorem weave_zip : ∀ (xa : List I) (ca : List (List I)) (xs : List I) (ls : List (List I)), ca.length = xa.length → weave (xa ++ xs) (ca ++ ls) = wpre xa.length xa ca ++ weave xs ls
  | [], [], _, _, _ => rfl
  | [], _ :: _, _, _, h => by simp at h
  | _ :: _, [], _, _, h => by simp at h
  | x :: xa, l :: ca, xs, ls, h => by
    have ih := weave_zip xa ca xs ls (by simpa using h)
    simp [weave, wpre, ih]
theorem weave_cons (xs : List I) (l : List I) (ls : List (List I)) : weave xs (l :: ls) = l ++ wpost xs ls := by
  cases xs <;> simp [weave, wpost]

theorem BT.ok_its {mn mx lo h : Nat} {t : BT I h} (hk : BT.ok mn mx lo h t) : lo ≤ (BT.its t).length ∧ (BT.its t).length ≤ mx := by
  cases h with
  | zero => exact hk
  | succ h => exact ⟨hk.1, hk.2.1⟩
theorem BT.ok_of {mn mx lo lo' h : Nat} {t : BT I h} (hk : BT.ok mn mx lo h t) (h' : lo' ≤ (BT.its t).length) : BT.ok mn mx lo' h t := by
  cases h with
  | zero => exact ⟨h', hk.2⟩
  | succ h => exact ⟨h', hk.2⟩

theorem joinN_ok {mn mx a b : Nat} : ∀ {h : Nat} {l r : BT I h} {m : I}, BT.ok mn mx a h l → BT.ok mn mx b h r → (BT.its l).length + (BT.its r).length < mx → mn ≤ (BT.its l).length + (BT.its r).length + 1 →
    BT.ok mn mx mn h (joinN h l m r) ∧ BT.all h (joinN h l m r) = BT.all h l ++ m :: BT.all h r
  | 0, l, r, m, h1, h2, h3, h4 => by
    have e : (joinN 0 l m r : List I).length = (BT.its l).length + (BT.its r).length + 1 := by
      show (List.append l (m :: r)).length = _
      rw [List.append_eq, List.length_append]; simp [BT.its]; omega
    exact ⟨⟨by rw [e]; omega, by rw [e]; omega⟩, rfl⟩
  | h + 1, l, r, m, h1, h2, h3, h4 => by
    obtain ⟨a1, a2, a3, a4⟩ := h1
    obtain ⟨b1, b2, b3, b4⟩ := h2
    have h3' : l.1.length + r.1.length < mx := h3
    have h4' : mn ≤ l.1.length + r.1.length + 1 := h4
    refine ⟨⟨?_, ?_, ?_, fun c hc => ?_⟩, ?_⟩
    · show mn ≤ (l.1 ++ m :: r.1).length; simp; omega
    · show (l.1 ++ m :: r.1).length ≤ mx; simp; omega
    · show (l.2 ++ r.2).length = (l.1 ++ m :: r.1).length + 1; simp; omega
    · rcases List.mem_append.1 hc with h | h
      · exact a4 c h
      · exact b4 c h
    · show weave (l.1 ++ m :: r.1) ((l.2 ++ r.2).map (BT.all h)) = _
      rw [List.map_append, weave_join _ _ _ _ _ (by rw [List.length_map]; exact a3)]; rfl

theorem last_split {α : Type} {l : List α} (h : 0 < l.length) : ∃ y, l.getLast? = some y ∧ l = l.dropLast ++ [y] := by
  have h' : l ≠ [] := fun e => by subst e; simp at h
  exact ⟨l.getLast h', List.getLast?_eq_some_getLast h', (List.dropLast_concat_getLast h').symm⟩
theorem head_split {α : Type} {l : List α} (h : 0 < l.length) : ∃ y, l.head? = some y ∧ l = y :: l.tail := by
  cases l with
  | nil => simp at h
  | cons y l => exact ⟨y, rfl, rfl⟩

theorem shR_ok {mn mx a b : Nat} : ∀ {h : Nat} {l r : BT I h} {m : I}, BT.ok mn mx a h l → BT.ok mn mx b h r → mn < (BT.its l).length → (BT.its r).length < mx → mn ≤ (BT.its r).length + 1 →
    ∃ l' y r', shR h l m r = some (l', y, r') ∧ BT.ok mn mx mn h l' ∧ BT.ok mn mx mn h r' ∧ BT.all h l' ++ y :: BT.all h r' = BT.all h l ++ m :: BT.all h r
  | 0, l, r, m, h1, h2, h3, h4, h5 => by
    have h3' : mn < List.length l := h3
    have h4' : List.length r < mx := h4
    have h5' : mn ≤ List.length r + 1 := h5
    have h1' : List.length l ≤ mx := h1.2
    obtain ⟨y, e1, e2⟩ := last_split (l := (l : List I)) (by omega)
    refine ⟨_, y, _, by rw [shR, e1], ⟨?_, ?_⟩, ⟨?_, ?_⟩, ?_⟩
    · show mn ≤ (List.dropLast (l : List I)).length; rw [List.length_dropLast]; omega
    · show (List.dropLast (l : List I)).length ≤ mx; rw [List.length_dropLast]; omega
    · show mn ≤ (m :: (r : List I)).length; simp; omega
    · show (m :: (r : List I)).length ≤ mx; simp; omega
    · show List.dropLast (l : List I) ++ y :: (m :: (r : List I)) = (l : List I) ++ m :: (r : List I)
      conv => rhs; rw [e2]
      simp
  | h + 1, l, r, m, h1, h2, h3, h4, h5 => by
    obtain ⟨a1, a2, a3, a4⟩ := h1
    obtain ⟨b1, b2, b3, b4⟩ := h2
    have h3' : mn < l.1.length := h3
    have h4' : r.1.length < mx := h4
    have h5' : mn ≤ r.1.length + 1 := h5
    obtain ⟨y, e1, e2⟩ := last_split (l := l.1) (by omega)
    obtain ⟨k, f1, f2⟩ := last_split (l := l.2) (by omega)
    have hk : k ∈ l.2 := by rw [f2]; simp
    refine ⟨_, y, _, by rw [shR, e1, f1], ⟨?_, ?_, ?_, fun c hc => a4 c (List.dropLast_subset _ hc)⟩, ⟨?_, ?_, ?_, fun c hc => ?_⟩, ?_⟩
    · show mn ≤ l.1.dropLast.length; rw [List.length_dropLast]; omega
    · show l.1.dropLast.length ≤ mx; rw [List.length_dropLast]; omega
    · show l.2.dropLast.length = l.1.dropLast.length + 1; rw [List.length_dropLast, List.length_dropLast]; omega
    · show mn ≤ (m :: r.1).length; simp; omega
    · show (m :: r.1).length ≤ mx; simp; omega
    · show (k :: r.2).length = (m :: r.1).length + 1; simp; omega
    · rcases List.mem_cons.1 hc with h | h
      · rw [h]; exact a4 k hk
      · exact b4 c h
    · show weave l.1.dropLast (l.2.dropLast.map (BT.all h)) ++ y :: weave (m :: r.1) ((k :: r.2).map (BT.all h)) = weave l.1 (l.2.map (BT.all h)) ++ m :: weave r.1 (r.2.map (BT.all h))
      conv => rhs; rw [e2, f2, List.map_append, weave_join _ _ _ _ _ (by rw [List.length_map, List.length_dropLast, List.length_dropLast]; omega)]
      simp [weave]

theorem shL_ok {mn mx a b : Nat} : ∀ {h : Nat} {l r : BT I h} {m : I}, BT.ok mn mx a h l → BT.ok mn mx b h r → mn < (BT.its r).length → (BT.its l).length < mx → mn ≤ (BT.its l).length + 1 →
    ∃ l' y r', shL h l m r = some (l', y, r') ∧ BT.ok mn mx mn h l' ∧ BT.ok mn mx mn h r' ∧ BT.all h l' ++ y :: BT.all h r' = BT.all h l ++ m :: BT.all h r
  | 0, l, r, m, h1, h2, h3, h4, h5 => by
    have h3' : mn < List.length r := h3
    have h4' : List.length l < mx := h4
    have h5' : mn ≤ List.length l + 1 := h5
    have h1' : List.length r ≤ mx := h2.2
    obtain ⟨y, e1, e2⟩ := head_split (l := (r : List I)) (by omega)
    refine ⟨_, y, _, by rw [shL, e1], ⟨?_, ?_⟩, ⟨?_, ?_⟩, ?_⟩
    · show mn ≤ ((l : List I) ++ [m]).length; simp; omega
    · show ((l : List I) ++ [m]).length ≤ mx; simp; omega
    · show mn ≤ (List.tail (r : List I)).length; rw [List.length_tail]; omega
    · show (List.tail (r : List I)).length ≤ mx; rw [List.length_tail]; omega
    · show ((l : List I) ++ [m]) ++ y :: List.tail (r : List I) = (l : List I) ++ m :: (r : List I)
      conv => rhs; rw [e2]
      simp
  | h + 1, l, r, m, h1, h2, h3, h4, h5 => by
    obtain ⟨a1, a2, a3, a4⟩ := h1
    obtain ⟨b1, b2, b3, b4⟩ := h2
    have h3' : mn < r.1.length := h3
    have h4' : l.1.length < mx := h4
    have h5' : mn ≤ l.1.length + 1 := h5
    obtain ⟨y, e1, e2⟩ := head_split (l := r.1) (by omega)
    obtain ⟨k, f1, f2⟩ := head_split (l := r.2) (by omega)
    have hk : k ∈ r.2 := by rw [f2]; simp
    refine ⟨_, y, _, by rw [shL, e1, f1], ⟨?_, ?_, ?_, fun c hc => ?_⟩, ⟨?_, ?_, ?_, fun c hc => b4 c (List.mem_of_mem_tail hc)⟩, ?_⟩
    · show mn ≤ (l.1 ++ [m]).length; simp; omega
    · show (l.1 ++ [m]).length ≤ mx; simp; omega
    · show (l.2 ++ [k]).length = (l.1 ++ [m]).length + 1; simp; omega
    · rcases List.mem_append.1 hc with h | h
      · exact a4 c h
      · rw [List.mem_singleton.1 h]; exact b4 k hk
    · show mn ≤ r.1.tail.length; rw [List.length_tail]; omega
    · show r.1.tail.length ≤ mx; rw [List.length_tail]; omega
    · show r.2.tail.length = r.1.tail.length + 1; rw [List.length_tail, List.length_tail]; omega
    · show weave (l.1 ++ [m]) ((l.2 ++ [k]).map (BT.all h)) ++ y :: weave r.1.tail (r.2.tail.map (BT.all h)) = weave l.1 (l.2.map (BT.all h)) ++ m :: weave r.1 (r.2.map (BT.all h))
      rw [List.map_append, weave_join _ _ _ _ _ (by rw [List.length_map]; exact a3)]
      conv => rhs; rw [e1' e2, f2]
      simp [weave]
where e1' {r1 : List I} {y : I} (h : r1 = y :: r1.tail) : r1 = y :: r1.tail := h

theorem two_split {α : Type} {l : List α} {j : Nat} {a b : α} (h1 : l[j]? = some a) (h2 : l[j + 1]? = some b) : l = l.take j ++ a :: b :: l.drop (j + 2) := by
  have e1 := List.drop_eq_getElem_cons' h1
  have e2 := List.drop_eq_getElem_cons' h2
  rw [← e2, ← e1, List.take_append_drop]
theorem one_split {α : Type} {l : List α} {j : Nat} {a : α} (h1 : l[j]? = some a) : l = l.take j ++ a :: l.drop (j + 1) := by
  rw [← List.drop_eq_getElem_cons' h1, List.take_append_drop]

/-- Rebalancing leaves the items as they are. -/
theorem rebAt_ok {mn mx lo h : Nat} {t : BT I (h + 1)} {j : Nat} (hmx : mx = 2 * mn + 1) (hmn : 0 < mn) (hl : t.2.length = t.1.length + 1) (hlo : lo ≤ t.1.length) (hhi : t.1.length ≤ mx) (hj : j < t.1.length)
    (hc : ∀ i c, t.2[i]? = some c → i ≠ j → i ≠ j + 1 → BT.ok mn mx mn h c) {l r : BT I h} (e1 : t.2[j]? = some l) (e2 : t.2[j + 1]? = some r) (h1 : BT.ok mn mx (mn - 1) h l) (h2 : BT.ok mn mx (mn - 1) h r)
    (h3 : mn ≤ (BT.its l).length ∨ mn ≤ (BT.its r).length) (h4 : (BT.its l).length ≤ mn ∨ (BT.its r).length ≤ mn) :
    BT.all (h + 1) (rebAt mx t j) = BT.all (h + 1) t ∧ BT.ok mn mx (lo - 1) (h + 1) (rebAt mx t j) := by
  obtain ⟨m, em⟩ : ∃ m, t.1[j]? = some m := ⟨t.1[j], List.getElem?_eq_getElem hj⟩
  have s1 := one_split em
  have s2 := two_split e1 e2
  have l1 : (t.1.take j).length = j := by rw [List.length_take]; omega
  have l2 : (t.2.take j).length = j := by rw [List.length_take]; omega
  have i1 := BT.ok_its h1
  have i2 := BT.ok_its h2
  have hA : ∀ c ∈ t.2.take j, BT.ok mn mx mn h c := fun c hm => by
    obtain ⟨i, hi⟩ := List.mem_iff_getElem?.1 hm
    have hlt := (List.getElem?_eq_some_iff.1 hi).1
    rw [List.getElem?_take_of_lt (by omega)] at hi
    exact hc i c hi (by omega) (by omega)
  have hB : ∀ c ∈ t.2.drop (j + 2), BT.ok mn mx mn h c := fun c hm => by
    obtain ⟨i, hi⟩ := List.mem_iff_getElem?.1 hm
    rw [List.getElem?_drop] at hi
    exact hc _ c hi (by omega) (by omega)
  have lm : ((t.2.take j).map (BT.all h)).length = (t.1.take j).length := by rw [List.length_map, l1, l2]
  have hall : BT.all (h + 1) t = wpre (t.1.take j).length (t.1.take j) ((t.2.take j).map (BT.all h)) ++ ((BT.all h l ++ m :: BT.all h r) ++ wpost (t.1.drop (j + 1)) ((t.2.drop (j + 2)).map (BT.all h))) := by
    show weave t.1 (t.2.map (BT.all h)) = _
    conv => lhs; rw [s1, s2]
    rw [List.map_append, weave_zip _ _ _ _ lm, List.map_cons, List.map_cons]
    simp only [weave, weave_cons]
    simp
  have hsw : ∀ (l' : BT I h) (y : I) (r' : BT I h), BT.ok mn mx mn h l' → BT.ok mn mx mn h r' → BT.all h l' ++ y :: BT.all h r' = BT.all h l ++ m :: BT.all h r →
      BT.all (h + 1) ((t.1.set j y, t.2.take j ++ l' :: r' :: t.2.drop (j + 2)) : BT I (h + 1)) = BT.all (h + 1) t ∧ BT.ok mn mx (lo - 1) (h + 1) ((t.1.set j y, t.2.take j ++ l' :: r' :: t.2.drop (j + 2)) : BT I (h + 1)) := by
    intro l' y r' g1 g2 g3
    constructor
    · show weave (t.1.set j y) ((t.2.take j ++ l' :: r' :: t.2.drop (j + 2)).map (BT.all h)) = _
      rw [hall, List.set_eq_take_append_cons_drop, if_pos hj, List.map_append, weave_zip _ _ _ _ lm, List.map_cons, List.map_cons, ← g3]
      simp only [weave, weave_cons]
      simp
    · refine ⟨?_, ?_, ?_, fun c hm => ?_⟩
      · show lo - 1 ≤ (t.1.set j y).length; rw [List.length_set]; omega
      · show (t.1.set j y).length ≤ mx; rw [List.length_set]; omega
      · show (t.2.take j ++ l' :: r' :: t.2.drop (j + 2)).length = (t.1.set j y).length + 1
        rw [List.length_append, l2, List.length_set, List.length_cons, List.length_cons, List.length_drop]; omega
      · have hm' : c ∈ t.2.take j ++ l' :: r' :: t.2.drop (j + 2) := hm
        simp only [List.mem_append, List.mem_cons] at hm'
        rcases hm' with h | h | h | h
        · exact hA c h
        · rw [h]; exact g1
        · rw [h]; exact g2
        · exact hB c h
  unfold rebAt
  rw [em, e1, e2]
  simp only
  by_cases hlt : (BT.its l).length + (BT.its r).length < mx
  · rw [if_pos hlt]
    obtain ⟨g1, g2⟩ := joinN_ok (m := m) h1 h2 hlt (by omega)
    constructor
    · show weave (t.1.take j ++ t.1.drop (j + 1)) ((t.2.take j ++ joinN h l m r :: t.2.drop (j + 2)).map (BT.all h)) = _
      rw [hall, List.map_append, weave_zip _ _ _ _ lm, List.map_cons, weave_cons, g2]
    · refine ⟨?_, ?_, ?_, fun c hm => ?_⟩
      · show lo - 1 ≤ (t.1.take j ++ t.1.drop (j + 1)).length; rw [List.length_append, l1, List.length_drop]; omega
      · show (t.1.take j ++ t.1.drop (j + 1)).length ≤ mx; rw [List.length_append, l1, List.length_drop]; omega
      · show (t.2.take j ++ joinN h l m r :: t.2.drop (j + 2)).length = (t.1.take j ++ t.1.drop (j + 1)).length + 1
        rw [List.length_append, List.length_append, l1, l2, List.length_cons, List.length_drop, List.length_drop]; omega
      · have hm' : c ∈ t.2.take j ++ joinN h l m r :: t.2.drop (j + 2) := hm
        simp only [List.mem_append, List.mem_cons] at hm'
        rcases hm' with h | h | h
        · exact hA c h
        · rw [h]; exact g1
        · exact hB c h
  · rw [if_neg hlt]
    by_cases hgt : (BT.its r).length < (BT.its l).length
    · rw [if_pos hgt]
      obtain ⟨l', y, r', g0, g1, g2, g3⟩ := shR_ok (m := m) h1 h2 (by omega) (by omega) (by omega)
      rw [g0]
      exact hsw l' y r' g1 g2 g3
    · rw [if_neg hgt]
      obtain ⟨l', y, r', g0, g1, g2, g3⟩ := shL_ok (m := m) h1 h2 (by omega) (by omega) (by omega)
      rw [g0]
      exact hsw l' y r' g1 g2 g3

/-- A node one child of which has become another one. -/
theorem mend_ok {mn mx lo h i : Nat} {t : BT I (h + 1)} {c c' : BT I h} (hmx : mx = 2 * mn + 1) (hmn : 0 < mn) (hok : BT.ok mn mx lo (h + 1) t) (hlo : 0 < lo) (hi : i ≤ t.1.length) (hc : t.2[i]? = some c) (hc' : BT.ok mn mx (mn - 1) h c') :
    BT.all (h + 1) (mend mn mx t i c') = weave t.1 ((t.2.map (BT.all h)).set i (BT.all h c')) ∧ BT.ok mn mx (lo - 1) (h + 1) (mend mn mx t i c') := by
  obtain ⟨h1, h2, h3, h4⟩ := hok
  have hlt := (List.getElem?_eq_some_iff.1 hc).1
  have hset : BT.all (h + 1) ((t.1, t.2.set i c') : BT I (h + 1)) = weave t.1 ((t.2.map (BT.all h)).set i (BT.all h c')) := by
    show weave t.1 ((t.2.set i c').map (BT.all h)) = _
    rw [List.map_set]
  have i1 := BT.ok_its hc'
  unfold mend
  by_cases hs : (BT.its c').length < mn
  · rw [if_pos hs]
    unfold reb
    rw [← hset]
    have hget : ∀ k d, (t.2.set i c')[k]? = some d → k ≠ i → BT.ok mn mx mn h d := fun k d hd hk => by
      rw [List.getElem?_set_ne (Ne.symm hk)] at hd
      exact h4 d (List.mem_of_getElem? hd)
    have hself : (t.2.set i c')[i]? = some c' := List.getElem?_set_self hlt
    by_cases he : i = t.1.length
    · obtain ⟨d, hd⟩ : ∃ d, (t.2.set i c')[i - 1]? = some d := ⟨_, List.getElem?_eq_getElem (by rw [List.length_set]; omega)⟩
      have hdok := hget _ _ hd (by omega)
      show BT.all (h + 1) (rebAt mx ((t.1, t.2.set i c') : BT I (h + 1)) (if i = t.1.length then i - 1 else i)) = _ ∧ BT.ok mn mx (lo - 1) (h + 1) (rebAt mx ((t.1, t.2.set i c') : BT I (h + 1)) (if i = t.1.length then i - 1 else i))
      rw [if_pos he]
      refine rebAt_ok hmx hmn (by show (t.2.set i c').length = _; rw [List.length_set]; exact h3) h1 h2 (by show i - 1 < t.1.length; omega) (fun k e he1 he2 he3 => hget k e he1 (by omega)) (l := d) (r := c') hd ?_ (BT.ok_le hdok (by omega)) hc' (.inl (BT.ok_its hdok).1) (.inr (by omega))
      show (t.2.set i c')[i - 1 + 1]? = _
      rw [show i - 1 + 1 = i by omega]; exact hself
    · obtain ⟨d, hd⟩ : ∃ d, (t.2.set i c')[i + 1]? = some d := ⟨_, List.getElem?_eq_getElem (by rw [List.length_set]; omega)⟩
      have hdok := hget _ _ hd (by omega)
      show BT.all (h + 1) (rebAt mx ((t.1, t.2.set i c') : BT I (h + 1)) (if i = t.1.length then i - 1 else i)) = _ ∧ BT.ok mn mx (lo - 1) (h + 1) (rebAt mx ((t.1, t.2.set i c') : BT I (h + 1)) (if i = t.1.length then i - 1 else i))
      rw [if_neg he]
      exact rebAt_ok hmx hmn (by show (t.2.set i c').length = _; rw [List.length_set]; exact h3) h1 h2 (by show i < t.1.length; omega) (fun k e he1 he2 he3 => hget k e he1 he2) (l := c') (r := d) hself hd hc' (BT.ok_le hdok (by omega)) (.inr (BT.ok_its hdok).1) (.inl (by omega))
  · rw [if_neg hs]
    refine ⟨hset, by show lo - 1 ≤ t.1.length; omega, h2, by show (t.2.set i c').length = _; rw [List.length_set]; exact h3, fun d hd => ?_⟩
    rcases mem_set hd with hd | hd
    · exact h4 d hd
    · rw [hd]; exact BT.ok_of hc' (by omega)

theorem weave_last : ∀ (xs : List I) (ls : List (List I)) (L : List I), ls.length = xs.length → weave xs (ls ++ [L]) = wpre xs.length xs ls ++ L := fun xs ls L h => by
  have := weave_zip xs ls [] [L] h
  rw [List.append_nil] at this
  rw [this]; simp [weave]

/-- Deleting the last item. -/
theorem delMax_ok {mn mx : Nat} (hmx : mx = 2 * mn + 1) (hmn : 0 < mn) : ∀ (h lo : Nat) (t : BT I h), 0 < lo → BT.ok mn mx lo h t → ∃ t' y, delMax mn mx h t = some (t', y) ∧ BT.all h t = BT.all h t' ++ [y] ∧ BT.ok mn mx (lo - 1) h t'
  | 0, lo, t, hlo, hok => by
    have h1 : lo ≤ List.length (t : List I) := hok.1
    have h2 : List.length (t : List I) ≤ mx := hok.2
    obtain ⟨y, e1, e2⟩ := last_split (l := (t : List I)) (by omega)
    refine ⟨_, y, by rw [delMax, e1], e2, ?_, ?_⟩
    · show lo - 1 ≤ (List.dropLast (t : List I)).length; rw [List.length_dropLast]; omega
    · show (List.dropLast (t : List I)).length ≤ mx; rw [List.length_dropLast]; omega
  | h + 1, lo, t, hlo, hok => by
    have h3 := hok.2.2.1
    obtain ⟨c, hc⟩ : ∃ c, t.2[t.1.length]? = some c := ⟨_, List.getElem?_eq_getElem (by omega)⟩
    obtain ⟨c', y, e1, e2, e3⟩ := delMax_ok hmx hmn h mn c hmn (hok.2.2.2 c (List.mem_of_getElem? hc))
    obtain ⟨g1, g2⟩ := mend_ok hmx hmn hok hlo (Nat.le_refl _) hc e3
    refine ⟨_, y, by rw [delMax, hc]; simp only [e1], ?_, g2⟩
    rw [g1]
    have hL : (t.2.map (BT.all h))[t.1.length]? = some (BT.all h c) := by rw [List.getElem?_map, hc]; rfl
    rw [weave_set _ _ (Nat.le_refl _) hL]
    show weave t.1 (t.2.map (BT.all h)) = _
    rw [weave_at _ _ _ _ (Nat.le_refl _) hL, e2]
    have hd : (t.2.map (BT.all h)).drop (t.1.length + 1) = [] := List.drop_eq_nil_of_le (by rw [List.length_map]; omega)
    rw [hd, List.drop_eq_nil_of_le (Nat.le_refl _)]
    simp [wpost]

variable {lt : I → I → Bool}
/-- A list without the item that is equal to x. -/
def cut (lt : I → I → Bool) (l : List I) (x : I) : List I := l.take (pos lt l x) ++ l.drop (pos lt l x + if fnd lt l x then 1 else 0)
theorem cut_none {l : List I} {x : I} (h : look lt l x = none) : cut lt l x = l := by
  unfold cut; rw [fnd_none h]; simp
theorem cut_found {l : List I} {x y : I} (h : look lt l x = some y) : cut lt l x = l.take (pos lt l x) ++ l.drop (pos lt l x + 1) := by
  unfold cut; rw [fnd_some h, if_pos rfl]
theorem cut_look {A B : List I} {x y : I} (hA : ∀ z ∈ A, lt z x = true) (h1 : lt x y = false) (h2 : lt y x = false) : cut lt (A ++ y :: B) x = A ++ B := by
  obtain ⟨hp, hl⟩ := look_mid (B := B) hA h1 h2
  rw [cut_found hl, hp, List.take_left, ← List.drop_drop, List.drop_left]; rfl
theorem cut_mid {A L B : List I} {x : I} (hA : ∀ y ∈ A, lt y x = true) (hB : ∀ y ∈ B, lt x y = true) (hB' : ∀ y ∈ B, lt y x = false) : cut lt (A ++ (L ++ B)) x = A ++ (cut lt L x ++ B) := by
  unfold cut
  rw [fnd_mid hA hB hB', pos_mid hA hB']
  have hl := pos_le (lt := lt) L x
  have hd : pos lt L x + (if fnd lt L x = true then 1 else 0) ≤ L.length := by
    split
    · rename_i h
      unfold fnd at h
      by_cases hp : pos lt L x < L.length
      · omega
      · rw [List.getElem?_eq_none (by omega)] at h; cases h
    · omega
  rw [List.take_append, List.take_of_length_le (by omega), Nat.add_sub_cancel_left, List.take_append_of_le_length hl, Nat.add_assoc,
    List.drop_append, List.drop_eq_nil_of_le (by omega), Nat.add_sub_cancel_left, List.drop_append_of_le_length hd]
  simp

/-- What deleting leaves is right. -/
def DRok (lt : I → I → Bool) (mn mx lo h : Nat) (t : BT I h) (x : I) : Option (BT I h × I) → Prop
  | none => look lt (BT.all h t) x = none
  | some (t', y) => look lt (BT.all h t) x = some y ∧ BT.all h t' = cut lt (BT.all h t) x ∧ BT.ok mn mx (lo - 1) h t'

theorem delN_ok (O : Ord lt) {mn mx : Nat} (hmx : mx = 2 * mn + 1) (hmn : 0 < mn) : ∀ (h lo : Nat) (t : BT I h) (x : I), 0 < lo → BT.ok mn mx lo h t → Srt lt (BT.all h t) → DRok lt mn mx lo h t x (delN lt mn mx h t x)
  | 0, lo, t, x, hlo, hok, hs => by
    have h1 : lo ≤ List.length (t : List I) := hok.1
    have h2 : List.length (t : List I) ≤ mx := hok.2
    rw [delN]
    cases hk : look lt (t : List I) x with
    | none => exact hk
    | some y =>
      have h3 := (look_some hk).2.2
      have el : (List.append (List.take (pos lt (t : List I) x) t) (List.drop (pos lt (t : List I) x + 1) t)).length = List.length (t : List I) - 1 := by
        rw [List.append_eq, List.length_append, List.length_take, List.length_drop]; omega
      exact ⟨hk, (cut_found hk).symm, by show lo - 1 ≤ (List.append _ _).length; rw [el]; omega, by show (List.append _ _).length ≤ mx; rw [el]; omega⟩
  | h + 1, lo, t, x, hlo, hok, hs => by
    have h3 := hok.2.2.1
    have hl : (t.2.map (BT.all h)).length = t.1.length + 1 := by rw [List.length_map]; exact h3
    have hp := pos_le (lt := lt) t.1 x
    obtain ⟨c, hc⟩ : ∃ c, t.2[pos lt t.1 x]? = some c := ⟨_, List.getElem?_eq_getElem (by omega)⟩
    have hcok := hok.2.2.2 c (List.mem_of_getElem? hc)
    have hL : (t.2.map (BT.all h))[pos lt t.1 x]? = some (BT.all h c) := by rw [List.getElem?_map, hc]; rfl
    rw [delN]
    cases hk : look lt t.1 x with
    | some y =>
      obtain ⟨k1, k2, k3⟩ := look_some hk
      have k4 := pos_at (lt := lt) k1
      obtain ⟨c', m, e1, e2, e3⟩ := delMax_ok hmx hmn h mn c hmn hcok
      simp only [hc, e1]
      have hok' : BT.ok mn mx lo (h + 1) ((t.1.set (pos lt t.1 x) m, t.2) : BT I (h + 1)) := ⟨by show lo ≤ (t.1.set _ m).length; rw [List.length_set]; exact hok.1, by show (t.1.set _ m).length ≤ mx; rw [List.length_set]; exact hok.2.1, by show t.2.length = (t.1.set _ m).length + 1; rw [List.length_set]; exact h3, hok.2.2.2⟩
      obtain ⟨g1, g2⟩ := mend_ok hmx hmn hok' hlo (i := pos lt t.1 x) (by show pos lt t.1 x ≤ (t.1.set _ m).length; rw [List.length_set]; exact hp) hc e3
      obtain ⟨f1, f2⟩ := look_its O hl hs hk
      refine ⟨f1, ?_, g2⟩
      rw [g1]
      show weave (t.1.set (pos lt t.1 x) m) ((t.2.map (BT.all h)).set (pos lt t.1 x) (BT.all h c')) = cut lt (weave t.1 (t.2.map (BT.all h))) x
      have hL' : ((t.2.map (BT.all h)).set (pos lt t.1 x) (BT.all h c'))[pos lt t.1 x]? = some (BT.all h c') := List.getElem?_set_self (by rw [List.length_map]; omega)
      rw [(weave_its k1 hL' m).2, (weave_its k1 hL x).1, wpre_set, List.drop_set, if_pos (by omega)]
      have hA : ∀ z ∈ wpre (pos lt t.1 x) t.1 (t.2.map (BT.all h)) ++ BT.all h c, lt z x = true := fun z hz => by
        have hs' : Srt lt (weave t.1 (t.2.map (BT.all h))) := hs
        rw [(weave_its k1 hL x).1] at hs'
        exact O.lt_le ((List.pairwise_append.1 hs').2.2 z hz y (by simp)) k2
      rw [cut_look hA k2 k4, e2]; simp
    | none =>
      have ih := delN_ok O hmx hmn h mn c x hmn hcok (by
        refine List.Pairwise.sublist (weave_kid (ls := t.2.map (BT.all h)) hp hL) hs)
      obtain ⟨f1, f2⟩ := look_kid O hl hs hk hL
      simp only [hc]
      cases hr : delN lt mn mx h c x with
      | none => rw [hr] at ih; exact f1.trans ih
      | some p =>
        obtain ⟨c', y⟩ := p
        rw [hr] at ih
        obtain ⟨g1, g2⟩ := mend_ok hmx hmn hok hlo hp hc ih.2.2
        refine ⟨f1.trans ih.1, ?_, g2⟩
        rw [g1, ih.2.1]
        show weave t.1 ((t.2.map (BT.all h)).set _ _) = cut lt (weave t.1 (t.2.map (BT.all h))) x
        obtain ⟨hA, hB⟩ := around O hl hL hs (hs.sublist (weave_sub _ _)) hk
        rw [weave_set _ _ hp hL, weave_at _ _ _ _ hp hL, cut_mid hA hB (around' O hB)]
end
end Go.Proofs.Ytbjhnefienjncaa.Bt
