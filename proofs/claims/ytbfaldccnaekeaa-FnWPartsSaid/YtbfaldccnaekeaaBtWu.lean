/- Maps from strings: the plain law of merging; slices.Equal and slices.Concat of words. -/
import Derived.Test.YtbfaldccnaekeaaBtWt
import Derived.Test.YtbfaldccnaekeaaBtWb
import Derived.Lib.AppendZeros
namespace Go.Proofs.Ytbfaldccnaekeaa.Bt.W
set_option linter.unusedVariables false
set_option linter.unusedSimpArgs false
open Go Go.RowKit Go.Proofs.Ytbfaldccnaekeaa.Bt
open Go.Proofs.Ytbfaldccnaekeaa.Bt.SI (lt ord ins_srt wscan_is)

theorem lt_ne {x y : Wd} (h : lt x y = true) : x.1 ≠ y.1 := fun e => by
  have h2 : lt x y = lt y y := by unfold lt; simp only [e]
  rw [h2, ord.irr] at h; cases h
theorem eq_of_nlt {x y : Wd} (h1 : lt x y = false) (h2 : lt y x = false) : x.1 = y.1 := by
  by_cases h : x.1 = y.1
  · exact h
  · have := bless_total (fun e => h (toList_inj e)) h1
    rw [show lt y x = true from this] at h2; cases h2
theorem mem_put {l : List Wd} (hs : Srt lt l) {x y : Wd} : y ∈ put lt l x ↔ y = x ∨ (y ∈ l ∧ y.1 ≠ x.1) := by
  cases hk : look lt l x with
  | none =>
    have hf := fnd_none hk
    have hne : ∀ z ∈ l, z.1 ≠ x.1 := fun z hz => by
      obtain ⟨i, hi⟩ := List.getElem?_of_mem hz
      by_cases h : i < pos lt l x
      · exact lt_ne (pos_before h hi)
      · exact fun e => lt_ne (pos_behind ord hs hf (Nat.le_of_not_lt h) hi) e.symm
    rw [put_none hk, List.mem_append, List.mem_cons]
    have hl : y ∈ l ↔ y ∈ l.take (pos lt l x) ∨ y ∈ l.drop (pos lt l x) := by
      rw [← List.mem_append, List.take_append_drop]
    constructor
    · rintro (h | h | h)
      · exact .inr ⟨hl.2 (.inl h), hne _ (hl.2 (.inl h))⟩
      · exact .inl h
      · exact .inr ⟨hl.2 (.inr h), hne _ (hl.2 (.inr h))⟩
    · rintro (h | ⟨h, _⟩)
      · exact .inr (.inl h)
      · exact (hl.1 h).imp id .inr
  | some z =>
    obtain ⟨h1, h2, h3⟩ := look_some hk
    have he : z.1 = x.1 := eq_of_nlt (pos_at h1) h2
    have hl : l = l.take (pos lt l x) ++ z :: l.drop (pos lt l x + 1) := by
      rw [← List.drop_eq_getElem_cons' h1, List.take_append_drop]
    have hp : put lt l x = l.take (pos lt l x) ++ x :: l.drop (pos lt l x + 1) := by
      unfold put
      rw [fnd_some hk, if_pos rfl]
    have hA : ∀ a ∈ l.take (pos lt l x), a.1 ≠ x.1 := fun a ha => by
      obtain ⟨i, hi⟩ := List.getElem?_of_mem ha
      have hil := (List.getElem?_eq_some_iff.1 hi).1
      rw [List.length_take] at hil
      rw [List.getElem?_take_of_lt (by omega)] at hi
      exact lt_ne (pos_before (by omega) hi)
    have hB : ∀ b ∈ l.drop (pos lt l x + 1), b.1 ≠ x.1 := fun b hb => by
      have hs2 : Srt lt (l.take (pos lt l x) ++ z :: l.drop (pos lt l x + 1)) := hl ▸ hs
      have := (List.pairwise_cons.1 (List.pairwise_append.1 hs2).2.1).1 b hb
      rw [← he]; exact fun e => lt_ne this e.symm
    rw [hp, List.mem_append, List.mem_cons]
    have hm : y ∈ l ↔ y ∈ l.take (pos lt l x) ∨ y = z ∨ y ∈ l.drop (pos lt l x + 1) := by
      conv => lhs; rw [hl, List.mem_append, List.mem_cons]
    rw [hm]
    constructor
    · rintro (h | h | h)
      · exact .inr ⟨.inl h, hA _ h⟩
      · exact .inl h
      · exact .inr ⟨.inr (.inr h), hB _ h⟩
    · rintro (h | ⟨h | h | h, hn⟩)
      · exact .inr (.inl h)
      · exact .inl h
      · exact absurd (h ▸ he) hn
      · exact .inr (.inr h)

/-- The last word of a key. -/
def lf (l : List Wd) (k : ByteArray) : Option Wd := l.reverse.find? fun z => decide (z.1 = k)
theorem lf_append (l m : List Wd) (k : ByteArray) : lf (l ++ m) k = (lf m k).or (lf l k) := by
  unfold lf; rw [List.reverse_append, List.find?_append]
theorem lf_key {l : List Wd} {k : ByteArray} {y : Wd} (h : lf l k = some y) : y.1 = k ∧ y ∈ l := by
  unfold lf at h
  exact ⟨by simpa using List.find?_some h, by simpa using List.mem_of_find?_eq_some h⟩
theorem insW_snoc (l : List Wd) (x : Wd) : insW (l ++ [x]) = put lt (insW l) x := by
  unfold insW
  rw [List.foldl_append]; rfl
theorem insW_srt (l : List Wd) : Srt lt (insW l) := ins_srt l
theorem mem_insW (l : List Wd) : ∀ y, y ∈ insW l ↔ lf l y.1 = some y := by
  have key : ∀ l : List Wd, ∀ y, y ∈ insW l.reverse ↔ lf l.reverse y.1 = some y := by
    intro l
    induction l with
    | nil => intro y; simp [insW, lf]
    | cons x l ih =>
      intro y
      rw [List.reverse_cons, insW_snoc, mem_put (insW_srt _), ih, lf_append]
      have h1 : lf [x] y.1 = if x.1 = y.1 then some x else none := by
        unfold lf
        by_cases h : x.1 = y.1 <;> simp [h]
      rw [h1]
      by_cases h : x.1 = y.1
      · rw [if_pos h]
        constructor
        · rintro (e | ⟨_, hn⟩)
          · rw [e]; rfl
          · exact absurd h.symm hn
        · intro e; exact .inl (Option.some.inj e).symm
      · rw [if_neg h]
        constructor
        · rintro (e | ⟨e, _⟩)
          · exact absurd (by rw [e]) h
          · exact e
        · intro e; exact .inr ⟨e, fun e => h e.symm⟩
  intro y
  have := key l.reverse y
  rwa [List.reverse_reverse] at this
theorem lf_insW (l : List Wd) (k : ByteArray) : lf (insW l) k = lf l k := by
  cases h : lf l k with
  | some y =>
    obtain ⟨e, _⟩ := lf_key h
    have hy : y ∈ insW l := (mem_insW l y).2 (by rw [e]; exact h)
    cases h2 : lf (insW l) k with
    | some z =>
      obtain ⟨e2, hz⟩ := lf_key h2
      have := (mem_insW l z).1 hz
      rw [e2, h] at this; exact this.symm
    | none =>
      unfold lf at h2
      have := List.find?_eq_none.1 h2 y (List.mem_reverse.2 hy)
      simp [e] at this
  | none =>
    cases h2 : lf (insW l) k with
    | none => rfl
    | some z =>
      obtain ⟨e2, hz⟩ := lf_key h2
      have := (mem_insW l z).1 hz
      rw [e2, h] at this; cases this
theorem srt_ext : ∀ (a b : List Wd), Srt lt a → Srt lt b → (∀ y, y ∈ a ↔ y ∈ b) → a = b
  | [], [], _, _, _ => rfl
  | [], y :: b, _, _, h => absurd ((h y).2 (List.mem_cons_self ..)) (by simp)
  | x :: a, [], _, _, h => absurd ((h x).1 (List.mem_cons_self ..)) (by simp)
  | x :: a, y :: b, ha, hb, h => by
    obtain ⟨ha1, ha2⟩ := List.pairwise_cons.1 ha
    obtain ⟨hb1, hb2⟩ := List.pairwise_cons.1 hb
    have e : x = y := by
      rcases List.mem_cons.1 ((h x).1 (List.mem_cons_self ..)) with e | hx
      · exact e
      · rcases List.mem_cons.1 ((h y).2 (List.mem_cons_self ..)) with e | hy
        · exact e.symm
        · have := ord.tr x y x (ha1 y hy) (hb1 x hx)
          rw [ord.irr] at this; cases this
    subst e
    rw [srt_ext a b ha2 hb2 (fun z => by
      constructor
      · intro hz
        rcases List.mem_cons.1 ((h z).1 (List.mem_cons_of_mem _ hz)) with e | h'
        · subst e; have := ha1 z hz; rw [ord.irr] at this; cases this
        · exact h'
      · intro hz
        rcases List.mem_cons.1 ((h z).2 (List.mem_cons_of_mem _ hz)) with e | h'
        · subst e; have := hb1 z hz; rw [ord.irr] at this; cases this
        · exact h')]
/-- A map of two lists. -/
theorem insW_two (l k : List Wd) : insW (insW l ++ insW k) = insW (l ++ k) :=
  srt_ext _ _ (insW_srt _) (insW_srt _) fun y => by
    rw [mem_insW, mem_insW, lf_append, lf_append, lf_insW, lf_insW]
end Go.Proofs.Ytbfaldccnaekeaa.Bt.W
