/- Trees of items without memory: what setting an item makes of a tree, and of the list of its items. -/
namespace Go.Proofs.Ytbjhnefienjncaa.Bt
set_option linter.unusedVariables false
set_option linter.unusedSimpArgs false

/-- A tree whose leaves all lie h levels down: the items of a node, and the trees below it. -/
@[reducible] def BT (I : Type) : Nat → Type
  | 0 => List I
  | h + 1 => List I × List (BT I h)

section
variable {I : Type}

def BT.its : {h : Nat} → BT I h → List I
  | 0, l => l
  | _ + 1, t => t.1
def BT.kds {h : Nat} (t : BT I (h + 1)) : List (BT I h) := t.2
def BT.mk {h : Nat} (l : List I) (ts : List (BT I h)) : BT I (h + 1) := (l, ts)

/-- The items of a node and of the nodes below it, in their order. -/
def weave : List I → List (List I) → List I
  | [], ls => ls.flatten
  | x :: xs, [] => x :: xs
  | x :: xs, l :: ls => l ++ x :: weave xs ls
def BT.all : (h : Nat) → BT I h → List I
  | 0, l => l
  | h + 1, t => weave t.1 (t.2.map (BT.all h))

/-- Ahead of the list at an index, and behind it. -/
def wpre : Nat → List I → List (List I) → List I
  | 0, _, _ => []
  | i + 1, x :: xs, l :: ls => l ++ x :: wpre i xs ls
  | _ + 1, _, _ => []
def wpost : List I → List (List I) → List I
  | [], ls => ls.flatten
  | x :: xs, ls => x :: weave xs ls

theorem weave_at : ∀ (i : Nat) (xs : List I) (ls : List (List I)) (l : List I), i ≤ xs.length → ls[i]? = some l → weave xs ls = wpre i xs ls ++ (l ++ wpost (xs.drop i) (ls.drop (i + 1)))
  | 0, xs, ls, l, _, h => by
    cases ls with
    | nil => cases h
    | cons a ls =>
      obtain rfl : a = l := by simpa using h
      cases xs <;> simp [weave, wpre, wpost]
  | i + 1, xs, ls, l, hi, h => by
    cases xs with
    | nil => simp at hi
    | cons x xs =>
      cases ls with
      | nil => cases h
      | cons a ls =>
        have ih := weave_at i xs ls l (by simpa using hi) (by simpa using h)
        simp [weave, wpre, ih]
theorem wpre_set : ∀ (i : Nat) (xs : List I) (ls : List (List I)) (l : List I), wpre i xs (ls.set i l) = wpre i xs ls
  | 0, _, _, _ => rfl
  | i + 1, [], ls, l => by cases ls <;> rfl
  | i + 1, x :: xs, [], l => rfl
  | i + 1, x :: xs, a :: ls, l => by simp [wpre, wpre_set i xs ls l]
/-- The item ahead of the list at an index is the last one there. -/
theorem wpre_last : ∀ (i : Nat) (xs : List I) (ls : List (List I)) (x : I), i < ls.length → xs[i]? = some x → ∃ A, wpre (i + 1) xs ls = A ++ [x]
  | 0, [], _, _, _, h => by cases h
  | 0, a :: xs, [], _, hl, _ => by simp at hl
  | 0, a :: xs, l :: ls, x, _, h => by
    obtain rfl : a = x := by simpa using h
    exact ⟨l, by simp [wpre]⟩
  | i + 1, [], _, _, _, h => by cases h
  | i + 1, a :: xs, [], _, hl, _ => by simp at hl
  | i + 1, a :: xs, l :: ls, x, hl, h => by
    obtain ⟨A, hA⟩ := wpre_last i xs ls x (by simpa using hl) (by simpa using h)
    refine ⟨l ++ a :: A, ?_⟩
    show l ++ a :: wpre (i + 1) xs ls = _
    rw [hA]; simp
theorem wpost_head (xs : List I) (i : Nat) (ls : List (List I)) (x : I) (h : xs[i]? = some x) : wpost (xs.drop i) ls = x :: weave (xs.drop (i + 1)) ls := by
  have hi := (List.getElem?_eq_some_iff.1 h).1
  rw [List.drop_eq_getElem_cons hi]
  have : xs[i] = x := (List.getElem?_eq_some_iff.1 h).2
  rw [this]; rfl

/-! ### the order -/
/-- An order as Go's comparisons of keys: what is not less either way is equal in the order. -/
structure Ord (lt : I → I → Bool) : Prop where
  irr : ∀ a, lt a a = false
  tr : ∀ a b c, lt a b = true → lt b c = true → lt a c = true
  neg : ∀ a b c, lt a b = true → lt a c = true ∨ lt c b = true

variable {lt : I → I → Bool}
theorem Ord.asymm (O : Ord lt) {a b : I} (h : lt a b = true) : lt b a = false := by
  cases hb : lt b a with
  | false => rfl
  | true => have := O.tr a b a h hb; rw [O.irr] at this; cases this
/-- a < b, b not greater than c: a < c -/
theorem Ord.lt_le (O : Ord lt) {a b c : I} (h : lt a b = true) (h' : lt c b = false) : lt a c = true := by
  rcases O.neg a b c h with h1 | h1
  · exact h1
  · rw [h1] at h'; cases h'
theorem Ord.le_lt (O : Ord lt) {a b c : I} (h : lt b a = false) (h' : lt b c = true) : lt a c = true := by
  rcases O.neg b c a h' with h1 | h1
  · rw [h1] at h; cases h
  · exact h1

def Srt (lt : I → I → Bool) (l : List I) : Prop := l.Pairwise fun a b => lt a b = true

/-- The number of items that come before x at the front of a list. -/
def pos (lt : I → I → Bool) (l : List I) (x : I) : Nat := (l.takeWhile fun y => lt y x).length
/-- Whether the item at this place is equal to x. -/
def fnd (lt : I → I → Bool) (l : List I) (x : I) : Bool := match l[pos lt l x]? with
  | some y => !lt x y
  | none => false

theorem pos_le (l : List I) (x : I) : pos lt l x ≤ l.length := (List.takeWhile_sublist _).length_le
theorem pos_before {l : List I} {x : I} : ∀ {i : Nat} {y : I}, i < pos lt l x → l[i]? = some y → lt y x = true := by
  intro i y hi hy
  unfold pos at hi
  have h1 : (l.takeWhile fun y => lt y x)[i]? = some y := by
    rw [← hy]
    conv => rhs; rw [← List.takeWhile_append_dropWhile (p := fun y => lt y x) (l := l)]
    rw [List.getElem?_append_left hi]
  have h2 := List.mem_of_getElem? h1
  exact (List.all_eq_true.1 (List.all_takeWhile (l := l) (p := fun y => lt y x)) y h2)
theorem pos_at {l : List I} {x y : I} (h : l[pos lt l x]? = some y) : lt y x = false := by
  unfold pos at h
  have h1 : (l.dropWhile fun y => lt y x)[0]? = some y := by
    rw [← h]
    conv => rhs; arg 1; rw [← List.takeWhile_append_dropWhile (p := fun y => lt y x) (l := l)]
    rw [List.getElem?_append_right (Nat.le_refl _), Nat.sub_self]
  have h2 : (l.dropWhile fun y => lt y x).head? = some y := by rw [← h1, List.head?_eq_getElem?]
  have := List.head?_dropWhile_not (fun y => lt y x) l
  rw [h2] at this
  simpa using this
/-- The place is known by its neighbours. -/
theorem pos_eq (O : Ord lt) {l : List I} (hs : Srt lt l) {x : I} {i : Nat} (hi : i ≤ l.length) (h1 : ∀ y, i ≠ 0 → l[i - 1]? = some y → lt y x = true) (h2 : ∀ y, l[i]? = some y → lt y x = false) : pos lt l x = i := by
  have hp := pos_le (lt := lt) l x
  rcases Nat.lt_trichotomy (pos lt l x) i with h | h | h
  · exfalso
    have hlt : pos lt l x < l.length := by omega
    have hb := pos_at (lt := lt) (x := x) (List.getElem?_eq_getElem hlt)
    have h3 := h1 l[i - 1] (by omega) (List.getElem?_eq_getElem (by omega))
    by_cases he : pos lt l x = i - 1
    · simp only [he] at hb; rw [hb] at h3; cases h3
    · have h4 := List.pairwise_iff_getElem.1 hs (pos lt l x) (i - 1) hlt (by omega) (by omega)
      rw [O.tr _ _ _ h4 h3] at hb; cases hb
  · exact h
  · exfalso
    have hlt : i < l.length := by omega
    have := pos_before (lt := lt) h (List.getElem?_eq_getElem hlt)
    rw [h2 l[i] (List.getElem?_eq_getElem hlt)] at this; cases this
/-- Behind the place all items come behind x, if none is equal. -/
theorem pos_behind (O : Ord lt) {l : List I} (hs : Srt lt l) {x : I} (hf : fnd lt l x = false) : ∀ {i : Nat} {y : I}, pos lt l x ≤ i → l[i]? = some y → lt x y = true := by
  intro i y hi hy
  have hlt := (List.getElem?_eq_some_iff.1 hy).1
  have hp : pos lt l x < l.length := by omega
  have h0 : lt x l[pos lt l x] = true := by
    unfold fnd at hf
    rw [List.getElem?_eq_getElem hp] at hf
    simpa using hf
  by_cases he : pos lt l x = i
  · subst he
    rw [List.getElem?_eq_getElem hp] at hy
    obtain rfl := Option.some.inj hy; exact h0
  · have h4 := List.pairwise_iff_getElem.1 hs (pos lt l x) i hp hlt (by omega)
    have hyi : l[i] = y := (List.getElem?_eq_some_iff.1 hy).2
    rw [hyi] at h4
    exact O.tr _ _ _ h0 h4

/-- A sorted list with an item: it replaces what is equal to it. -/
def put (lt : I → I → Bool) (l : List I) (x : I) : List I := l.take (pos lt l x) ++ x :: l.drop (pos lt l x + if fnd lt l x then 1 else 0)

/-- The parts ahead and behind do not matter. -/
theorem pos_mid {A L B : List I} {x : I} (hA : ∀ y ∈ A, lt y x = true) (hB : ∀ y ∈ B, lt y x = false) : pos lt (A ++ (L ++ B)) x = A.length + pos lt L x := by
  unfold pos
  rw [List.takeWhile_append_of_pos (by simpa using hA), List.length_append]
  congr 1
  rw [List.takeWhile_append]
  split
  · rename_i h
    have : B.takeWhile (fun y => lt y x) = [] := by
      cases B with
      | nil => rfl
      | cons b B => rw [List.takeWhile_cons_of_neg (by simp [hB b (by simp)])]
    rw [this, List.append_nil, h]
  · rfl
theorem fnd_mid {A L B : List I} {x : I} (hA : ∀ y ∈ A, lt y x = true) (hB : ∀ y ∈ B, lt x y = true) (hB' : ∀ y ∈ B, lt y x = false) : fnd lt (A ++ (L ++ B)) x = fnd lt L x := by
  unfold fnd
  rw [pos_mid hA hB', List.getElem?_append_right (by omega), Nat.add_sub_cancel_left]
  by_cases h : pos lt L x < L.length
  · rw [List.getElem?_append_left h]
  · have hl := pos_le (lt := lt) L x
    rw [List.getElem?_append_right (by omega), List.getElem?_eq_none (l := L) (by omega), show pos lt L x - L.length = 0 by omega]
    cases B with
    | nil => rfl
    | cons b B => simp [hB b (by simp)]
theorem put_mid {A L B : List I} {x : I} (hA : ∀ y ∈ A, lt y x = true) (hB : ∀ y ∈ B, lt x y = true) (hB' : ∀ y ∈ B, lt y x = false) : put lt (A ++ (L ++ B)) x = A ++ (put lt L x ++ B) := by
  unfold put
  rw [fnd_mid hA hB hB', pos_mid hA hB']
  have hl := pos_le (lt := lt) L x
  have hd : pos lt L x + (if fnd lt L x = true then 1 else 0) ≤ L.length := by
    split
    · rename_i h
      unfold fnd at h
      by_cases hp : pos lt L x < L.length
      · omega
      · rw [List.getElem?_eq_none (by omega)] at h; cases h
    · omega
  rw [List.take_append, List.take_of_length_le (by omega), Nat.add_sub_cancel_left, List.take_append_of_le_length hl, Nat.add_assoc,
    List.drop_append, List.drop_eq_nil_of_le (by omega), Nat.add_sub_cancel_left, List.drop_append_of_le_length hd]
  simp

/-- The item that is equal to x. -/
def look (lt : I → I → Bool) (l : List I) (x : I) : Option I := match l[pos lt l x]? with
  | some y => if lt x y then none else some y
  | none => none
theorem fnd_look (l : List I) (x : I) : fnd lt l x = (look lt l x).isSome := by
  unfold fnd look
  cases l[pos lt l x]? with
  | none => rfl
  | some y => cases h : lt x y <;> simp [h]
theorem look_some {l : List I} {x y : I} (h : look lt l x = some y) : l[pos lt l x]? = some y ∧ lt x y = false ∧ pos lt l x < l.length := by
  unfold look at h
  split at h
  · rename_i z hz
    split at h
    · cases h
    · rename_i hf
      obtain rfl := Option.some.inj h
      exact ⟨hz, by simpa using hf, (List.getElem?_eq_some_iff.1 hz).1⟩
  · cases h
theorem fnd_none {l : List I} {x : I} (h : look lt l x = none) : fnd lt l x = false := by rw [fnd_look, h]; rfl
theorem fnd_some {l : List I} {x y : I} (h : look lt l x = some y) : fnd lt l x = true := by rw [fnd_look, h]; rfl
theorem look_of_fnd {l : List I} {x : I} (h : fnd lt l x = false) : look lt l x = none := by
  rw [fnd_look] at h
  cases hl : look lt l x with
  | none => rfl
  | some y => rw [hl] at h; cases h
/-- Where an item stands that is equal to x. -/
theorem look_mid {A B : List I} {x y : I} (hA : ∀ z ∈ A, lt z x = true) (h1 : lt x y = false) (h2 : lt y x = false) : pos lt (A ++ y :: B) x = A.length ∧ look lt (A ++ y :: B) x = some y := by
  have hp : pos lt (A ++ y :: B) x = A.length := by
    unfold pos
    rw [List.takeWhile_append_of_pos (by simpa using hA), List.takeWhile_cons_of_neg (by simp [h2]), List.append_nil]
  refine ⟨hp, ?_⟩
  unfold look
  rw [hp, List.getElem?_append_right (Nat.le_refl _), Nat.sub_self]
  simp [h1]
theorem put_look {A B : List I} {x y : I} (hA : ∀ z ∈ A, lt z x = true) (h1 : lt x y = false) (h2 : lt y x = false) : put lt (A ++ y :: B) x = A ++ x :: B := by
  obtain ⟨hp, hl⟩ := look_mid (B := B) hA h1 h2
  unfold put
  rw [fnd_some hl, hp, if_pos rfl, List.take_left, ← List.drop_drop, List.drop_left]; rfl
theorem put_found {l : List I} {x y : I} (h : look lt l x = some y) : put lt l x = l.set (pos lt l x) x := by
  have hl := (look_some h).2.2
  unfold put
  rw [fnd_some h, if_pos rfl, List.set_eq_take_append_cons_drop, if_pos hl]
theorem shift_set {i : Nat} {l : List I} {x z : I} (hi : i ≤ l.length) : ((l ++ [z]).take (i + 1) ++ l.drop i ++ (l ++ [z]).drop (i + 1 + (l.drop i).length)).set i x = l.take i ++ x :: l.drop i := by
  have h1 : (l ++ [z]).drop (i + 1 + (l.drop i).length) = [] := List.drop_eq_nil_of_le (by simp; omega)
  rw [h1, List.append_nil]
  have h2 : i < (l ++ [z]).length := by simp; omega
  rw [List.take_add_one, List.getElem?_eq_getElem h2, List.take_append_of_le_length hi]
  have h3 : (l.take i).length = i := List.length_take_of_le hi
  rw [Option.toList_some, List.append_assoc, List.set_append_right _ _ (by omega), h3, Nat.sub_self]
  rfl
theorem shift_set2 {i : Nat} {l : List I} {x z : I} (hi : i < l.length) : ((l ++ [z]).take (i + 1) ++ l.drop i ++ (l ++ [z]).drop (i + 1 + (l.drop i).length)).set (i + 1) x = l.take (i + 1) ++ x :: l.drop (i + 1) := by
  have h1 : (l ++ [z]).drop (i + 1 + (l.drop i).length) = [] := List.drop_eq_nil_of_le (by simp; omega)
  rw [h1, List.append_nil, List.take_append_of_le_length (by omega)]
  have h3 : (l.take (i + 1)).length = i + 1 := List.length_take_of_le (by omega)
  rw [List.set_append_right _ _ (by omega), h3, Nat.sub_self, List.drop_eq_getElem_cons hi]
  rfl
theorem put_none {l : List I} {x : I} (h : look lt l x = none) : put lt l x = l.take (pos lt l x) ++ x :: l.drop (pos lt l x) := by
  unfold put
  rw [fnd_none h]; simp

theorem put_srt (O : Ord lt) {l : List I} {x : I} (hs : Srt lt l) : Srt lt (put lt l x) := by
  have hb : ∀ y ∈ l.take (pos lt l x), lt y x = true := fun y hy => by
    obtain ⟨i, hi⟩ := List.mem_iff_getElem?.1 hy
    have hlt := (List.getElem?_eq_some_iff.1 hi).1
    rw [List.length_take] at hlt
    rw [List.getElem?_take_of_lt (by omega)] at hi
    exact pos_before (by omega) hi
  have ha : ∀ y ∈ l.drop (pos lt l x + if fnd lt l x then 1 else 0), lt x y = true := fun y hy => by
    obtain ⟨i, hi⟩ := List.mem_iff_getElem?.1 hy
    rw [List.getElem?_drop] at hi
    cases hf : fnd lt l x with
    | false =>
      rw [hf] at hi
      exact pos_behind O hs hf (by simp) hi
    | true =>
      rw [hf] at hi
      simp only [if_true] at hi
      have hl : (look lt l x).isSome = true := by rw [← fnd_look]; exact hf
      obtain ⟨z, hz⟩ := Option.isSome_iff_exists.1 hl
      obtain ⟨h1, h2, h3⟩ := look_some hz
      have hil := (List.getElem?_eq_some_iff.1 hi).1
      have := List.pairwise_iff_getElem.1 hs (pos lt l x) (pos lt l x + 1 + i) h3 hil (by omega)
      rw [(List.getElem?_eq_some_iff.1 hi).2, (List.getElem?_eq_some_iff.1 h1).2] at this
      exact O.le_lt (a := x) (b := z) (c := y) (by exact pos_at (lt := lt) h1) this
  unfold put Srt
  refine List.pairwise_append.2 ⟨hs.sublist (List.take_sublist _ _), List.pairwise_cons.2 ⟨ha, hs.sublist (List.drop_sublist _ _)⟩, fun y hy z hz => ?_⟩
  rcases List.mem_cons.1 hz with rfl | hz
  · exact hb y hy
  · exact O.tr _ _ _ (hb y hy) (ha z hz)

/-! ### setting an item -/
/-- What setting makes: nothing yet, for the node must be split; an item replaced; one more item. -/
inductive IR (α I : Type) where
  | split
  | rep (t : α) (y : I)
  | new (t : α)

/-- A node is split at an item. -/
def splitN (i : Nat) : (h : Nat) → BT I h → Option (BT I h × I × BT I h)
  | 0, l => match @getElem? (List I) Nat I _ _ l i with
    | some m => some (List.take i l, m, List.drop (i + 1) l)
    | none => none
  | _ + 1, t => match t.1[i]? with
    | some m => some ((t.1.take i, t.2.take (i + 1)), m, (t.1.drop (i + 1), t.2.drop (i + 1)))
    | none => none
/-- A node with two in place of its child at an index, and the item between them. -/
def splat {h : Nat} (t : BT I (h + 1)) (i : Nat) (l : BT I h) (m : I) (r : BT I h) : BT I (h + 1) := (t.1.take i ++ m :: t.1.drop i, t.2.take i ++ l :: r :: t.2.drop (i + 1))
/-- Setting below a node whose child needs no split. -/
def ins1 (lt : I → I → Bool) {h : Nat} (f : BT I h → IR (BT I h) I) (t : BT I (h + 1)) (x : I) : IR (BT I (h + 1)) I :=
  match look lt t.1 x with
  | some y => .rep (t.1.set (pos lt t.1 x) x, t.2) y
  | none => match t.2[pos lt t.1 x]? with
    | none => .split
    | some c => match f c with
      | .rep c' y => .rep (t.1, t.2.set (pos lt t.1 x) c') y
      | .new c' => .new (t.1, t.2.set (pos lt t.1 x) c')
      | .split => .split
def insN (lt : I → I → Bool) (mx : Nat) : (h : Nat) → BT I h → I → IR (BT I h) I
  | 0, l, x => match look lt l x with
    | some y => .rep (List.set l (pos lt l x) x) y
    | none => if List.length l = mx then .split else .new (put lt l x)
  | h + 1, t, x => match look lt t.1 x with
    | some y => .rep (t.1.set (pos lt t.1 x) x, t.2) y
    | none => match t.2[pos lt t.1 x]? with
      | none => .split
      | some c => match insN lt mx h c x with
        | .rep c' y => .rep (t.1, t.2.set (pos lt t.1 x) c') y
        | .new c' => .new (t.1, t.2.set (pos lt t.1 x) c')
        | .split => if t.1.length = mx then .split else match splitN (mx / 2) h c with
          | none => .split
          | some (l, m, r) => ins1 lt (fun c => insN lt mx h c x) (splat t (pos lt t.1 x) l m r) x

/-- A node has from lo to mx items, those below it from mn on; an inner one has a child more than items. -/
def BT.ok (mn mx : Nat) : (lo h : Nat) → BT I h → Prop
  | lo, 0, l => lo ≤ List.length l ∧ List.length l ≤ mx
  | lo, h + 1, t => lo ≤ t.1.length ∧ t.1.length ≤ mx ∧ t.2.length = t.1.length + 1 ∧ ∀ c ∈ t.2, BT.ok mn mx mn h c
theorem BT.ok_le {mn mx : Nat} : ∀ {lo lo' h : Nat} {t : BT I h}, BT.ok mn mx lo h t → lo' ≤ lo → BT.ok mn mx lo' h t
  | _, _, 0, _, h, hl => ⟨Nat.le_trans hl h.1, h.2⟩
  | _, _, _ + 1, _, h, hl => ⟨Nat.le_trans hl h.1, h.2⟩

/-- What is ahead of the child below which x belongs comes before x, what is behind it comes behind x. -/
theorem around (O : Ord lt) {xs : List I} {ls : List (List I)} {L : List I} {x : I} (hl : ls.length = xs.length + 1) (hL : ls[pos lt xs x]? = some L) (hs : Srt lt (weave xs ls)) (hx : Srt lt xs) (hn : look lt xs x = none) :
    (∀ y ∈ wpre (pos lt xs x) xs ls, lt y x = true) ∧ (∀ y ∈ wpost (xs.drop (pos lt xs x)) (ls.drop (pos lt xs x + 1)), lt x y = true) := by
  have hp := pos_le (lt := lt) xs x
  rw [weave_at _ _ _ _ hp hL] at hs
  have hs1 := (List.pairwise_append.1 hs).1
  have hs2 := (List.pairwise_append.1 (List.pairwise_append.1 hs).2.1).2.1
  constructor
  · intro y hy
    by_cases h0 : pos lt xs x = 0
    · rw [h0] at hy; simp [wpre] at hy
    · obtain ⟨j, hj⟩ : ∃ j, pos lt xs x = j + 1 := ⟨pos lt xs x - 1, by omega⟩
      have hjx : xs[j]? = some xs[j] := List.getElem?_eq_getElem (by omega)
      have hlt := pos_before (lt := lt) (x := x) (i := j) (by omega) hjx
      obtain ⟨A, hA⟩ := wpre_last j xs ls _ (by omega) hjx
      rw [hj, hA] at hy hs1
      rcases List.mem_append.1 hy with h | h
      · exact O.tr _ _ _ ((List.pairwise_append.1 hs1).2.2 y h xs[j] (by simp)) hlt
      · obtain rfl : y = xs[j] := by simpa using h
        exact hlt
  · intro y hy
    by_cases h0 : pos lt xs x < xs.length
    · have hix : xs[pos lt xs x]? = some xs[pos lt xs x] := List.getElem?_eq_getElem h0
      have hlt := pos_behind O hx (fnd_none hn) (Nat.le_refl _) hix
      rw [wpost_head _ _ _ _ hix] at hy hs2
      rcases List.mem_cons.1 hy with h | h
      · rw [h]; exact hlt
      · exact O.tr _ _ _ hlt ((List.pairwise_cons.1 hs2).1 y h)
    · rw [List.drop_eq_nil_of_le (by omega), List.drop_eq_nil_of_le (by omega)] at hy
      simp [wpost] at hy
theorem around' (O : Ord lt) {B : List I} {x : I} (h : ∀ y ∈ B, lt x y = true) : ∀ y ∈ B, lt y x = false := fun y hy => O.asymm (h y hy)

/-- The items of the node itself are sorted. -/
theorem weave_sub : ∀ (xs : List I) (ls : List (List I)), xs.Sublist (weave xs ls)
  | [], _ => List.nil_sublist _
  | _ :: _, [] => List.Sublist.refl _
  | x :: xs, _ :: ls => ((weave_sub xs ls).cons_cons x).trans (List.sublist_append_right _ _)
theorem weave_kid {xs : List I} {ls : List (List I)} {L : List I} {i : Nat} (hi : i ≤ xs.length) (hL : ls[i]? = some L) : L.Sublist (weave xs ls) := by
  rw [weave_at _ _ _ _ hi hL]
  exact (List.sublist_append_left _ _).trans (List.sublist_append_right _ _)
theorem weave_set (xs : List I) (ls : List (List I)) {i : Nat} {L L' : List I} (hi : i ≤ xs.length) (hL : ls[i]? = some L) : weave xs (ls.set i L') = wpre i xs ls ++ (L' ++ wpost (xs.drop i) (ls.drop (i + 1))) := by
  have hlt := (List.getElem?_eq_some_iff.1 hL).1
  rw [weave_at i xs (ls.set i L') L' hi (by rw [List.getElem?_set_self hlt]), wpre_set]
  congr 3
  rw [List.drop_set, if_pos (by omega)]
theorem wpre_congr : ∀ (i : Nat) (xs ys : List I) (ls : List (List I)), xs.take i = ys.take i → wpre i xs ls = wpre i ys ls
  | 0, _, _, _, _ => rfl
  | i + 1, [], [], _, _ => rfl
  | i + 1, [], y :: ys, _, h => by simp at h
  | i + 1, x :: xs, [], _, h => by simp at h
  | i + 1, x :: xs, y :: ys, [], _ => rfl
  | i + 1, x :: xs, y :: ys, l :: ls, h => by
    simp only [List.take_succ_cons, List.cons.injEq] at h
    simp only [wpre, h.1, wpre_congr i xs ys ls h.2]
theorem wpre_app : ∀ (i : Nat) (xs : List I) (ls ms : List (List I)), i ≤ ls.length → wpre i xs (ls ++ ms) = wpre i xs ls
  | 0, _, _, _, _ => rfl
  | i + 1, [], ls, ms, _ => by cases ls <;> cases ms <;> rfl
  | i + 1, x :: xs, [], ms, h => by simp at h
  | i + 1, x :: xs, l :: ls, ms, h => by simp only [List.cons_append, wpre, wpre_app i xs ls ms (by simpa using h)]
/-- An item of the node is written over. -/
theorem weave_its {xs : List I} {ls : List (List I)} {L : List I} {i : Nat} {y : I} (hi : xs[i]? = some y) (hL : ls[i]? = some L) (x : I) :
    weave xs ls = (wpre i xs ls ++ L) ++ y :: weave (xs.drop (i + 1)) (ls.drop (i + 1)) ∧ weave (xs.set i x) ls = (wpre i xs ls ++ L) ++ x :: weave (xs.drop (i + 1)) (ls.drop (i + 1)) := by
  have hlt := (List.getElem?_eq_some_iff.1 hi).1
  constructor
  · rw [weave_at _ _ _ _ (by omega) hL, wpost_head _ _ _ _ hi, List.append_assoc]
  · rw [weave_at i (xs.set i x) ls L (by rw [List.length_set]; omega) hL, wpost_head (xs.set i x) i _ x (by rw [List.getElem?_set_self hlt]), List.append_assoc]
    rw [wpre_congr i (xs.set i x) xs ls (by rw [List.take_set_of_le (Nat.le_refl _)])]
    rw [List.drop_set, if_pos (by omega)]

theorem splitN_zero (i : Nat) (l : List I) : splitN i 0 (l : BT I 0) = (l[i]?).map fun m => ((l.take i : BT I 0), m, (l.drop (i + 1) : BT I 0)) := by
  show (match l[i]? with | some m => some (List.take i l, m, List.drop (i + 1) l) | none => none) = _
  cases l[i]? <;> rfl
theorem splitN_succ (i h : Nat) (t : BT I (h + 1)) : splitN i (h + 1) t = (t.1[i]?).map fun m => ((t.1.take i, t.2.take (i + 1)), m, (t.1.drop (i + 1), t.2.drop (i + 1))) := by
  show (match t.1[i]? with | some m => some ((t.1.take i, t.2.take (i + 1)), m, (t.1.drop (i + 1), t.2.drop (i + 1))) | none => none) = _
  cases t.1[i]? <;> rfl

/-- The items of the two halves and the item between them are those of the whole. -/
theorem splitN_all {mn mx lo i h : Nat} {t l r : BT I h} {m : I} (hs : splitN i h t = some (l, m, r)) (hok : BT.ok mn mx lo h t) : BT.all h t = BT.all h l ++ m :: BT.all h r := by
  cases h with
  | zero =>
    rw [splitN_zero] at hs
    cases hm : (t : List I)[i]? with
    | none => rw [hm] at hs; cases hs
    | some m' =>
      rw [hm] at hs
      simp only [Option.map_some, Option.some.injEq, Prod.mk.injEq] at hs
      obtain ⟨rfl, rfl, rfl⟩ := hs
      show (t : List I) = List.take i t ++ _ :: List.drop (i + 1) t
      have hlt := (List.getElem?_eq_some_iff.1 hm).1
      have : (t : List I)[i] = m' := (List.getElem?_eq_some_iff.1 hm).2
      rw [← this, ← List.drop_eq_getElem_cons hlt, List.take_append_drop]
  | succ h =>
    rw [splitN_succ] at hs
    cases hm : t.1[i]? with
    | none => rw [hm] at hs; cases hs
    | some m' =>
      rw [hm] at hs
      simp only [Option.map_some, Option.some.injEq, Prod.mk.injEq] at hs
      obtain ⟨rfl, rfl, rfl⟩ := hs
      have hlt := (List.getElem?_eq_some_iff.1 hm).1
      have hl := hok.2.2.1
      obtain ⟨c, hc⟩ : ∃ c, t.2[i]? = some c := ⟨t.2[i]'(by omega), List.getElem?_eq_getElem _⟩
      have hL : (t.2.map (BT.all h))[i]? = some (BT.all h c) := by rw [List.getElem?_map, hc]; rfl
      have hL' : ((t.2.take (i + 1)).map (BT.all h))[i]? = some (BT.all h c) := by rw [List.getElem?_map, List.getElem?_take_of_lt (by omega), hc]; rfl
      show weave t.1 (t.2.map (BT.all h)) = weave (t.1.take i) ((t.2.take (i + 1)).map (BT.all h)) ++ m' :: weave (t.1.drop (i + 1)) ((t.2.drop (i + 1)).map (BT.all h))
      rw [(weave_its (I := I) hm hL m').1, weave_at i (t.1.take i) ((t.2.take (i + 1)).map (BT.all h)) _ (by rw [List.length_take]; omega) hL']
      rw [List.drop_eq_nil_of_le (as := t.1.take i) (by rw [List.length_take]; omega), List.drop_eq_nil_of_le (as := (t.2.take (i + 1)).map (BT.all h)) (by simp; omega)]
      rw [← List.map_drop]
      have : wpre i (t.1.take i) ((t.2.take (i + 1)).map (BT.all h)) = wpre i t.1 (t.2.map (BT.all h)) := by
        rw [wpre_congr i (t.1.take i) t.1 _ (by rw [List.take_take, Nat.min_self])]
        have e : t.2.map (BT.all h) = (t.2.take (i + 1)).map (BT.all h) ++ (t.2.drop (i + 1)).map (BT.all h) := by rw [← List.map_append, List.take_append_drop]
        rw [e]
        exact (wpre_app i t.1 _ _ (by simp; omega)).symm
      rw [this]
      simp [wpost]

/-- The whole list's look-up, at a node's own item. -/
theorem look_its (O : Ord lt) {xs : List I} {ls : List (List I)} {x y : I} (hl : ls.length = xs.length + 1) (hs : Srt lt (weave xs ls)) (hy : look lt xs x = some y) :
    look lt (weave xs ls) x = some y ∧ weave (xs.set (pos lt xs x) x) ls = put lt (weave xs ls) x := by
  obtain ⟨h1, h2, h3⟩ := look_some hy
  have h4 := pos_at (lt := lt) h1
  obtain ⟨L, hL⟩ : ∃ L, ls[pos lt xs x]? = some L := ⟨ls[pos lt xs x]'(by omega), List.getElem?_eq_getElem _⟩
  obtain ⟨e1, e2⟩ := weave_its h1 hL x
  have hA : ∀ z ∈ wpre (pos lt xs x) xs ls ++ L, lt z x = true := fun z hz => by
    rw [e1] at hs
    exact O.lt_le ((List.pairwise_append.1 hs).2.2 z hz y (by simp)) h2
  rw [e1, e2]
  exact ⟨(look_mid hA h2 h4).2, (put_look hA h2 h4).symm⟩
theorem look_kid (O : Ord lt) {xs : List I} {ls : List (List I)} {L : List I} {x : I} (hl : ls.length = xs.length + 1) (hs : Srt lt (weave xs ls)) (hn : look lt xs x = none) (hL : ls[pos lt xs x]? = some L) :
    look lt (weave xs ls) x = look lt L x ∧ ∀ L', L' = put lt L x → weave xs (ls.set (pos lt xs x) L') = put lt (weave xs ls) x := by
  have hp := pos_le (lt := lt) xs x
  obtain ⟨hA, hB⟩ := around O hl hL hs (hs.sublist (weave_sub xs ls)) hn
  have hB' := around' O hB
  constructor
  · rw [weave_at _ _ _ _ hp hL]
    generalize wpre (pos lt xs x) xs ls = A at hA
    generalize wpost (xs.drop (pos lt xs x)) (ls.drop (pos lt xs x + 1)) = B at hB hB'
    have hL' := pos_le (lt := lt) L x
    unfold look
    rw [pos_mid hA hB', List.getElem?_append_right (by omega), Nat.add_sub_cancel_left]
    by_cases h : pos lt L x < L.length
    · rw [List.getElem?_append_left h]
    · rw [List.getElem?_append_right (by omega), List.getElem?_eq_none (l := L) (by omega), show pos lt L x - L.length = 0 by omega]
      cases B with
      | nil => rfl
      | cons b B => simp [hB b (by simp)]
  · rintro L' rfl
    rw [weave_set xs ls hp hL, weave_at _ _ _ _ hp hL, put_mid hA hB hB']

theorem insN_ne (mx h : Nat) (t : BT I (h + 1)) (x : I) (hc : look lt t.1 x = none → ∀ c, t.2[pos lt t.1 x]? = some c → insN lt mx h c x ≠ .split) : insN lt mx (h + 1) t x = ins1 lt (fun c => insN lt mx h c x) t x := by
  unfold ins1
  rw [insN]
  cases hl : look lt t.1 x with
  | some y => rfl
  | none =>
    cases hk : t.2[pos lt t.1 x]? with
    | none => rfl
    | some c =>
      have := hc hl c hk
      simp only
      cases hr : insN lt mx h c x with
      | split => exact absurd hr this
      | rep c' y => rfl
      | new c' => rfl

/-- What setting leaves is right. -/
def IRok (lt : I → I → Bool) (mn mx lo h : Nat) (t : BT I h) (x : I) : IR (BT I h) I → Prop
  | .split => BT.its t = BT.its t ∧ (BT.its t).length = mx ∧ look lt (BT.all h t) x = none
  | .rep t' y => look lt (BT.all h t) x = some y ∧ BT.all h t' = put lt (BT.all h t) x ∧ BT.ok mn mx lo h t'
  | .new t' => look lt (BT.all h t) x = none ∧ BT.all h t' = put lt (BT.all h t) x ∧ BT.ok mn mx lo h t'
theorem mem_set {α : Type} {l : List α} {i : Nat} {a c : α} (h : c ∈ l.set i a) : c ∈ l ∨ c = a := List.mem_or_eq_of_mem_set h

theorem ins1_ok (O : Ord lt) {mn mx lo h : Nat} {f : BT I h → IR (BT I h) I} {t : BT I (h + 1)} {x : I} (hok : BT.ok mn mx lo (h + 1) t) (hs : Srt lt (BT.all (h + 1) t))
    (hf : ∀ c, c ∈ t.2 → t.2[pos lt t.1 x]? = some c → look lt t.1 x = none → f c ≠ .split ∧ IRok lt mn mx mn h c x (f c)) :
    ins1 lt f t x ≠ .split ∧ IRok lt mn mx lo (h + 1) t x (ins1 lt f t x) := by
  obtain ⟨h1, h2, h3, h4⟩ := hok
  have hl : (t.2.map (BT.all h)).length = t.1.length + 1 := by rw [List.length_map]; exact h3
  unfold ins1
  cases hk : look lt t.1 x with
  | some y =>
    obtain ⟨e1, e2⟩ := look_its O hl hs hk
    exact ⟨(fun e => by cases e), e1, e2, by rw [List.length_set]; exact h1, by rw [List.length_set]; exact h2, by rw [List.length_set]; exact h3, h4⟩
  | none =>
    have hp := pos_le (lt := lt) t.1 x
    have hlt : pos lt t.1 x < t.2.length := by omega
    have hc : t.2[pos lt t.1 x]? = some t.2[pos lt t.1 x] := List.getElem?_eq_getElem hlt
    generalize hcd : t.2[pos lt t.1 x] = c at hc
    have hL : (t.2.map (BT.all h))[pos lt t.1 x]? = some (BT.all h c) := by rw [List.getElem?_map, hc]; rfl
    obtain ⟨e1, e2⟩ := look_kid O hl hs hk hL
    obtain ⟨g1, g2⟩ := hf c (List.mem_of_getElem? hc) hc hk
    have hset : ∀ c', BT.all h c' = put lt (BT.all h c) x → BT.all (h + 1) (t.1, t.2.set (pos lt t.1 x) c') = put lt (BT.all (h + 1) t) x := fun c' hc' => by
      show weave t.1 ((t.2.set (pos lt t.1 x) c').map (BT.all h)) = _
      rw [List.map_set]
      exact e2 _ hc'
    have hok' : ∀ c', BT.ok mn mx mn h c' → BT.ok mn mx lo (h + 1) (t.1, t.2.set (pos lt t.1 x) c') := fun c' hc' =>
      ⟨h1, h2, by rw [List.length_set]; exact h3, fun d hd => by rcases mem_set hd with hd | hd; exact h4 d hd; rw [hd]; exact hc'⟩
    simp only [hc]
    cases hr : f c with
    | split => exact absurd hr g1
    | rep c' y =>
      rw [hr] at g2
      exact ⟨(fun e => by cases e), e1.trans g2.1, hset c' g2.2.1, hok' c' g2.2.2⟩
    | new c' =>
      rw [hr] at g2
      exact ⟨(fun e => by cases e), e1.trans g2.1, hset c' g2.2.1, hok' c' g2.2.2⟩

theorem splitN_some {mn mx lo h : Nat} {t : BT I h} (hok : BT.ok mn mx lo h t) (hf : (BT.its t).length = mx) (h1 : mn ≤ mx / 2) (h2 : mn + 1 + mx / 2 ≤ mx) :
    ∃ l m r, splitN (mx / 2) h t = some (l, m, r) ∧ BT.ok mn mx mn h l ∧ BT.ok mn mx mn h r ∧ (BT.its l).length = mx / 2 ∧ (BT.its r).length = mx - 1 - mx / 2 := by
  cases h with
  | zero =>
    have hlen : List.length (t : List I) = mx := hf
    have hi : mx / 2 < List.length (t : List I) := by omega
    rw [splitN_zero, List.getElem?_eq_getElem hi]
    refine ⟨_, _, _, rfl, ⟨?_, ?_⟩, ⟨?_, ?_⟩, ?_, ?_⟩
    · rw [List.length_take]; omega
    · rw [List.length_take]; omega
    · rw [List.length_drop]; omega
    · rw [List.length_drop]; omega
    · show (List.take (mx / 2) (t : List I)).length = _; rw [List.length_take]; omega
    · show (List.drop (mx / 2 + 1) (t : List I)).length = _; rw [List.length_drop]; omega
  | succ h =>
    have hlen : t.1.length = mx := hf
    have hi : mx / 2 < t.1.length := by omega
    obtain ⟨_, _, h5, h6⟩ := hok
    rw [splitN_succ, List.getElem?_eq_getElem hi]
    refine ⟨_, _, _, rfl, ⟨?_, ?_, ?_, fun c hc => h6 c (List.mem_of_mem_take hc)⟩, ⟨?_, ?_, ?_, fun c hc => h6 c (List.mem_of_mem_drop hc)⟩, ?_, ?_⟩
    · rw [List.length_take]; omega
    · rw [List.length_take]; omega
    · rw [List.length_take, List.length_take]; omega
    · rw [List.length_drop]; omega
    · rw [List.length_drop]; omega
    · rw [List.length_drop, List.length_drop]; omega
    · show (t.1.take (mx / 2)).length = _; rw [List.length_take]; omega
    · show (t.1.drop (mx / 2 + 1)).length = _; rw [List.length_drop]; omega

theorem weave_splat {xs : List I} {ls : List (List I)} {i : Nat} {A B : List I} {m : I} (hl : ls.length = xs.length + 1) (hi : i ≤ xs.length) (hL : ls[i]? = some (A ++ m :: B)) :
    weave (xs.take i ++ m :: xs.drop i) (ls.take i ++ A :: B :: ls.drop (i + 1)) = weave xs ls := by
  have lt' : (ls.take i).length = i := by rw [List.length_take]; omega
  have lx : (xs.take i).length = i := by rw [List.length_take]; omega
  have hA : (ls.take i ++ A :: B :: ls.drop (i + 1))[i]? = some A := by rw [List.getElem?_append_right (by omega), lt', Nat.sub_self]; rfl
  have hm : (xs.take i ++ m :: xs.drop i)[i]? = some m := by rw [List.getElem?_append_right (by omega), lx, Nat.sub_self]; rfl
  rw [(weave_its (I := I) hm hA m).1, weave_at i xs ls _ hi hL]
  rw [wpre_congr i _ xs _ (by rw [List.take_append_of_le_length (by omega), List.take_take, Nat.min_self])]
  rw [wpre_app i xs _ _ (by omega)]
  conv => rhs; rw [← List.take_append_drop i ls, wpre_app i xs _ _ (by omega)]
  have e1 : (xs.take i ++ m :: xs.drop i).drop (i + 1) = xs.drop i := by
    rw [List.drop_append, List.drop_eq_nil_of_le (by omega), lx, show i + 1 - i = 1 by omega]; rfl
  have e2 : (ls.take i ++ A :: B :: ls.drop (i + 1)).drop (i + 1) = B :: ls.drop (i + 1) := by
    rw [List.drop_append, List.drop_eq_nil_of_le (by omega), lt', show i + 1 - i = 1 by omega]; rfl
  have e3 : (ls.take i ++ ls.drop i).drop (i + 1) = ls.drop (i + 1) := by rw [List.take_append_drop]
  rw [e1, e2, e3]
  have e4 : weave (xs.drop i) (B :: ls.drop (i + 1)) = B ++ wpost (xs.drop i) (ls.drop (i + 1)) := by
    cases xs.drop i <;> simp [weave, wpost]
  rw [e4]; simp

theorem splat_ok {mn mx lo h i : Nat} {t : BT I (h + 1)} {c l r : BT I h} {m : I} (hok : BT.ok mn mx lo (h + 1) t) (hi : i ≤ t.1.length) (hc : t.2[i]? = some c) (hfull : t.1.length ≠ mx) (hl : BT.ok mn mx mn h l) (hr : BT.ok mn mx mn h r) (hall : BT.all h c = BT.all h l ++ m :: BT.all h r) :
    BT.ok mn mx lo (h + 1) (splat t i l m r) ∧ BT.all (h + 1) (splat t i l m r) = BT.all (h + 1) t := by
  obtain ⟨h1, h2, h3, h4⟩ := hok
  have lx : (t.1.take i ++ m :: t.1.drop i).length = t.1.length + 1 := by
    rw [List.length_append, List.length_take, List.length_cons, List.length_drop]; omega
  constructor
  · refine ⟨?_, ?_, ?_, fun d hd => ?_⟩
    · show lo ≤ (t.1.take i ++ m :: t.1.drop i).length; omega
    · show (t.1.take i ++ m :: t.1.drop i).length ≤ mx; omega
    · show (t.2.take i ++ l :: r :: t.2.drop (i + 1)).length = (t.1.take i ++ m :: t.1.drop i).length + 1
      rw [lx, List.length_append, List.length_take, List.length_cons, List.length_cons, List.length_drop]; omega
    · have hd' : d ∈ t.2.take i ++ l :: r :: t.2.drop (i + 1) := hd
      simp only [List.mem_append, List.mem_cons] at hd'
      rcases hd' with h | h | h | h
      · exact h4 d (List.mem_of_mem_take h)
      · rw [h]; exact hl
      · rw [h]; exact hr
      · exact h4 d (List.mem_of_mem_drop h)
  · show weave (t.1.take i ++ m :: t.1.drop i) ((t.2.take i ++ l :: r :: t.2.drop (i + 1)).map (BT.all h)) = weave t.1 (t.2.map (BT.all h))
    rw [List.map_append, List.map_cons, List.map_cons, List.map_take, List.map_drop]
    exact weave_splat (by rw [List.length_map]; exact h3) hi (by rw [List.getElem?_map, hc, Option.map_some, hall])

/-- The items of the children at hand in a node that was split below. -/
theorem splat_kid {h i j : Nat} {t : BT I (h + 1)} {l r d : BT I h} {m : I} (hi : i ≤ t.2.length) (hd : (splat t i l m r).2[j]? = some d) (hj : j = i ∨ j = i + 1) : d = l ∨ d = r := by
  have hd' : (t.2.take i ++ l :: r :: t.2.drop (i + 1))[j]? = some d := hd
  have hli : (t.2.take i).length = i := by rw [List.length_take]; omega
  rw [List.getElem?_append_right (by omega), hli] at hd'
  rcases hj with rfl | rfl
  · rw [Nat.sub_self] at hd'
    exact .inl (Option.some.inj hd').symm
  · rw [show i + 1 - i = 1 by omega] at hd'
    exact .inr (Option.some.inj hd').symm
/-- An item that is not there belongs below one of the two halves. -/
theorem splat_pos {xs : List I} {x m : I} : pos lt (xs.take (pos lt xs x) ++ m :: xs.drop (pos lt xs x)) x = pos lt xs x ∨ pos lt (xs.take (pos lt xs x) ++ m :: xs.drop (pos lt xs x)) x = pos lt xs x + 1 := by
  have h1 : ∀ z ∈ xs.take (pos lt xs x), lt z x = true := fun z hz => by
    obtain ⟨i, hi⟩ := List.mem_iff_getElem?.1 hz
    have hlt := (List.getElem?_eq_some_iff.1 hi).1
    rw [List.length_take] at hlt
    rw [List.getElem?_take_of_lt (by omega)] at hi
    exact pos_before (by omega) hi
  have hl : (xs.take (pos lt xs x)).length = pos lt xs x := by rw [List.length_take]; exact Nat.min_eq_left (pos_le xs x)
  have hd : (xs.drop (pos lt xs x)).takeWhile (fun y => lt y x) = [] := by
    cases h : xs.drop (pos lt xs x) with
    | nil => rfl
    | cons z zs =>
      have hz : xs[pos lt xs x]? = some z := by rw [← List.head?_drop, h]; rfl
      rw [List.takeWhile_cons_of_neg (by simp [pos_at (lt := lt) hz])]
  have key : ∀ l : List I, l = xs.take (pos lt xs x) ++ m :: xs.drop (pos lt xs x) → (l.takeWhile fun y => lt y x).length = pos lt xs x ∨ (l.takeWhile fun y => lt y x).length = pos lt xs x + 1 := by
    rintro l rfl
    rw [List.takeWhile_append_of_pos (by simpa using h1), List.length_append, hl]
    cases hm : lt m x with
    | true => right; rw [List.takeWhile_cons_of_pos (by simp [hm]), hd]; rfl
    | false => left; rw [List.takeWhile_cons_of_neg (by simp [hm])]; rfl
  exact key _ rfl

theorem insN_ok (O : Ord lt) {mn mx : Nat} (h1 : mn ≤ mx / 2) (h2 : mn + 1 + mx / 2 ≤ mx) (h3 : 0 < mx / 2) : ∀ (h lo : Nat) (t : BT I h) (x : I), BT.ok mn mx lo h t → Srt lt (BT.all h t) → IRok lt mn mx lo h t x (insN lt mx h t x)
  | 0, lo, t, x, hok, hs => by
    rw [insN]
    have hlen : lo ≤ List.length (t : List I) ∧ List.length (t : List I) ≤ mx := hok
    cases hk : look lt (t : List I) x with
    | some y =>
      exact ⟨hk, (put_found hk).symm, by show lo ≤ (List.set (t : List I) _ x).length; rw [List.length_set]; exact hlen.1, by show (List.set (t : List I) _ x).length ≤ mx; rw [List.length_set]; exact hlen.2⟩
    | none =>
      show IRok lt mn mx lo 0 t x (if List.length (t : List I) = mx then .split else .new (put lt (t : List I) x))
      have hp := pos_le (lt := lt) (t : List I) x
      have hpl : (put lt (t : List I) x).length = List.length (t : List I) + 1 := by
        rw [put_none hk, List.length_append, List.length_take, List.length_cons, List.length_drop]; omega
      split
      · rename_i hf; exact ⟨rfl, hf, hk⟩
      · exact ⟨hk, rfl, by show lo ≤ (put lt (t : List I) x).length; omega, by show (put lt (t : List I) x).length ≤ mx; omega⟩
  | h + 1, lo, t, x, hok, hs => by
    have hp := pos_le (lt := lt) t.1 x
    have hks : ∀ c i, i ≤ t.1.length → t.2[i]? = some c → Srt lt (BT.all h c) := fun c i hi hc => by
      refine List.Pairwise.sublist (weave_kid (ls := t.2.map (BT.all h)) hi ?_) hs
      rw [List.getElem?_map, hc]; rfl
    by_cases hne : look lt t.1 x = none → ∀ c, t.2[pos lt t.1 x]? = some c → insN lt mx h c x ≠ .split
    · rw [insN_ne mx h t x hne]
      exact (ins1_ok O hok hs (fun c hm hc hn => ⟨hne hn c hc, insN_ok O h1 h2 h3 h mn c x (hok.2.2.2 c hm) (hks c _ hp hc)⟩)).2
    · obtain ⟨hn, hne⟩ := Classical.not_imp.1 hne
      obtain ⟨c, hne⟩ := Classical.not_forall.1 hne
      obtain ⟨hc, hne⟩ := Classical.not_imp.1 hne
      have hsp : insN lt mx h c x = .split := Classical.not_not.1 hne
      have hcm := List.mem_of_getElem? hc
      have hcok := hok.2.2.2 c hcm
      have hih := insN_ok O h1 h2 h3 h mn c x hcok (hks c _ hp hc)
      rw [hsp] at hih
      have hL : (t.2.map (BT.all h))[pos lt t.1 x]? = some (BT.all h c) := by rw [List.getElem?_map, hc]; rfl
      have hlook : look lt (BT.all (h + 1) t) x = none := (look_kid O (by rw [List.length_map]; exact hok.2.2.1) hs hn hL).1.trans hih.2.2
      rw [insN, hn]
      simp only [hc, hsp]
      by_cases hf : t.1.length = mx
      · rw [if_pos hf]; exact ⟨rfl, hf, hlook⟩
      · rw [if_neg hf]
        obtain ⟨l, m, r, e, hlok, hrok, hll, hrl⟩ := splitN_some hcok hih.2.1 h1 h2
        simp only [e]
        have hall := splitN_all e hcok
        obtain ⟨hok2, hall2⟩ := splat_ok hok hp hc hf hlok hrok hall
        have hs2 : Srt lt (BT.all (h + 1) (splat t (pos lt t.1 x) l m r)) := by rw [hall2]; exact hs
        have hf2 : ∀ d, d ∈ (splat t (pos lt t.1 x) l m r).2 → (splat t (pos lt t.1 x) l m r).2[pos lt (splat t (pos lt t.1 x) l m r).1 x]? = some d → look lt (splat t (pos lt t.1 x) l m r).1 x = none →
            insN lt mx h d x ≠ .split ∧ IRok lt mn mx mn h d x (insN lt mx h d x) := fun d hm hd _ => by
          have hdd := splat_kid (by have := hok.2.2.1; omega) hd splat_pos
          have hds : Srt lt (BT.all h d) := by
            refine List.Pairwise.sublist (weave_kid (ls := (splat t (pos lt t.1 x) l m r).2.map (BT.all h)) (i := pos lt (splat t (pos lt t.1 x) l m r).1 x) (pos_le _ _) ?_) hs2
            rw [List.getElem?_map, hd]; rfl
          have hi := insN_ok O h1 h2 h3 h mn d x (hok2.2.2.2 d hm) hds
          refine ⟨fun e => ?_, hi⟩
          rw [e] at hi
          have := hi.2.1
          rcases hdd with rfl | rfl <;> omega
        have hres := ins1_ok O (f := fun c => insN lt mx h c x) hok2 hs2 hf2
        rw [← hall2] at hlook
        generalize ins1 lt (fun c => insN lt mx h c x) (splat t (pos lt t.1 x) l m r) x = R at hres
        cases R with
        | split => exact absurd rfl hres.1
        | rep t' y => have := hres.2.1; rw [hlook] at this; cases this
        | new t' =>
          have := hres.2
          rw [IRok, hall2] at this
          exact this

theorem List.drop_eq_getElem_cons' {α : Type} {l : List α} {i : Nat} {a : α} (h : l[i]? = some a) : l.drop i = a :: l.drop (i + 1) := by
  have hi := (List.getElem?_eq_some_iff.1 h).1
  rw [List.drop_eq_getElem_cons hi, (List.getElem?_eq_some_iff.1 h).2]
theorem insN_nosplit {mx h : Nat} {t : BT I (h + 1)} {x : I} (hne : look lt t.1 x = none → ∀ c, t.2[pos lt t.1 x]? = some c → insN lt mx h c x ≠ .split) (hl : t.2.length = t.1.length + 1) : insN lt mx (h + 1) t x ≠ .split := fun e => by
  rw [insN_ne mx h t x hne] at e
  unfold ins1 at e
  cases hk : look lt t.1 x with
  | some y => rw [hk] at e; cases e
  | none =>
    have hp := pos_le (lt := lt) t.1 x
    obtain ⟨c, hc⟩ : ∃ c, t.2[pos lt t.1 x]? = some c := ⟨t.2[pos lt t.1 x]'(by omega), List.getElem?_eq_getElem _⟩
    rw [hk] at e
    simp only [hc] at e
    cases h' : insN lt mx h c x with
    | split => exact hne hk c hc h'
    | rep c' y => rw [h'] at e; cases e
    | new c' => rw [h'] at e; cases e

/-! ### the binary search -/
theorem bs_found (O : Ord lt) {l : List I} (hs : Srt lt l) {x y : I} {c : Nat} (hy : l[c]? = some y) (h1 : lt x y = false) (h2 : lt y x = false) : pos lt l x = c ∧ fnd lt l x = true := by
  have hc := (List.getElem?_eq_some_iff.1 hy).1
  have hp : pos lt l x = c := by
    refine pos_eq O hs (by omega) (fun z h0 hz => ?_) (fun z hz => ?_)
    · have hzl := (List.getElem?_eq_some_iff.1 hz).1
      have := List.pairwise_iff_getElem.1 hs (c - 1) c hzl hc (by omega)
      rw [(List.getElem?_eq_some_iff.1 hz).2, (List.getElem?_eq_some_iff.1 hy).2] at this
      exact O.lt_le this h1
    · rw [hy] at hz
      obtain rfl := Option.some.inj hz; exact h2
  refine ⟨hp, ?_⟩
  unfold fnd
  rw [hp, hy]; simp [h1]
theorem bs_not (O : Ord lt) {l : List I} (hs : Srt lt l) {x : I} {c : Nat} (hc : c ≤ l.length) (h1 : ∀ y, 0 < c → l[c - 1]? = some y → lt y x = true) (h2 : ∀ j y, c ≤ j → l[j]? = some y → lt x y = true) : pos lt l x = c ∧ fnd lt l x = false := by
  have hp : pos lt l x = c := pos_eq O hs hc (fun y h0 hy => h1 y (by omega) hy) (fun y hy => O.asymm (h2 c y (Nat.le_refl _) hy))
  refine ⟨hp, ?_⟩
  unfold fnd
  rw [hp]
  cases hl : l[c]? with
  | none => rfl
  | some y => simp [h2 c y (Nat.le_refl _) hl]
end
end Go.Proofs.Ytbjhnefienjncaa.Bt
