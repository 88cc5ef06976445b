/- A calendar as a sorted list: what it looks at decides whether an interval is free (no program). A calendar of intervals: End, Overlaps; what a round of FnBookings keeps. -/
import Derived.Test.YtehnobbiiokcgaaBtBc
namespace Go.Proofs.Ytehnobbiiokcgaa.Bt.P
set_option linter.unusedVariables false
set_option linter.unusedSimpArgs false
open Go Go.RowKit Go.Proofs.Ytehnobbiiokcgaa.Bt
open Go.Proofs.Ytehnobbiiokcgaa.Bt.ND (Im)
open Go.Proofs.Ytehnobbiiokcgaa.Bt.II (ins flr from_ lt ord)

theorem lt_iff {a b : Im} : lt a b = true ↔ a.1 < b.1 := by simp [lt]
theorem lt_not {a b : Im} : lt a b = false ↔ b.1 ≤ a.1 := by simp [lt]
/-- A sorted list is what comes of its items. -/
theorem ins_self {l : List Im} (hs : Srt lt l) : ins l = l := by
  have key : ∀ l : List Im, Srt lt l → ins l = l := by
    intro l
    have h : ∀ n, n ≤ l.length → Srt lt l → ins (l.take n) = l.take n := by
      intro n
      induction n with
      | zero => intro _ _; rfl
      | succ n ih =>
        intro hn hs
        have hx : l[n]? = some l[n] := List.getElem?_eq_getElem (by omega)
        rw [II.ins_take hx, ih (by omega) hs]
        have hb : ∀ z ∈ l.take n, lt z l[n] = true := fun z hz => by
          obtain ⟨i, hi⟩ := List.mem_iff_getElem?.1 hz
          have hil := (List.getElem?_eq_some_iff.1 hi).1
          rw [List.length_take] at hil
          rw [List.getElem?_take_of_lt (by omega)] at hi
          have := List.pairwise_iff_getElem.1 hs i n (by omega) (by omega) (by omega)
          rw [(List.getElem?_eq_some_iff.1 hi).2] at this; exact this
        have hp : pos lt (l.take n) l[n] = (l.take n).length := by
          unfold pos
          have h2 : (l.take n).takeWhile (fun y => lt y l[n]) = l.take n := by
            have h3 := List.takeWhile_append_of_pos (p := fun y => lt y l[n]) (l₁ := l.take n) (l₂ := []) hb
            simpa using h3
          rw [h2]
        have hf : fnd lt (l.take n) l[n] = false := by
          unfold fnd
          rw [hp, List.getElem?_eq_none (Nat.le_refl _)]
        unfold put
        rw [hp, hf, List.take_length, List.drop_of_length_le (by simp), List.take_add_one, hx]
        rfl
    intro hs
    have := h l.length (Nat.le_refl _) hs
    rwa [List.take_length] at this
  exact key l hs
theorem ins_add {l : List Im} (hs : Srt lt l) (x : Im) : ins (l ++ [x]) = put lt l x := by rw [II.ins_snoc, ins_self hs]

/-- What flr gives. -/
theorem flr_some_iff {l : List Im} (hs : Srt lt l) {x y : Im} (h : flr l x = some y) : y ∈ l ∧ y.1 ≤ x.1 ∧ ∀ z ∈ l, z.1 ≤ x.1 → z = y ∨ z.1 < y.1 := by
  have key : ∀ i : Nat, l[i]? = some y → y.1 ≤ x.1 → (∀ z, l[i + 1]? = some z → x.1 < z.1) → y ∈ l ∧ y.1 ≤ x.1 ∧ ∀ z ∈ l, z.1 ≤ x.1 → z = y ∨ z.1 < y.1 := by
    intro i hi hyx hn
    refine ⟨List.mem_of_getElem? hi, hyx, fun z hz hzx => ?_⟩
    obtain ⟨j, hj⟩ := List.mem_iff_getElem?.1 hz
    obtain ⟨hil, hie⟩ := List.getElem?_eq_some_iff.1 hi
    obtain ⟨hjl, hje⟩ := List.getElem?_eq_some_iff.1 hj
    rcases Nat.lt_trichotomy j i with h | h | h
    · right
      have := List.pairwise_iff_getElem.1 hs j i hjl hil h
      rw [hje, hie] at this
      exact lt_iff.1 this
    · left; subst h; rw [← hje, hie]
    · exfalso
      have h1 := hn l[i + 1] (List.getElem?_eq_getElem (by omega))
      by_cases he : j = i + 1
      · subst he; rw [hje] at h1; omega
      · have := List.pairwise_iff_getElem.1 hs (i + 1) j (by omega) hjl (by omega)
        rw [hje] at this
        have := lt_iff.1 this
        omega
  unfold flr at h
  cases hf : fnd lt l x with
  | true =>
    rw [hf, if_pos rfl] at h
    have h1 := pos_at (lt := lt) h
    have h2 : lt x y = false := by
      unfold fnd at hf
      rw [h] at hf
      simpa using hf
    have e1 := lt_not.1 h1
    have e2 := lt_not.1 h2
    refine key _ h e2 (fun z hz => ?_)
    obtain ⟨hil, hie⟩ := List.getElem?_eq_some_iff.1 h
    obtain ⟨hjl, hje⟩ := List.getElem?_eq_some_iff.1 hz
    have := List.pairwise_iff_getElem.1 hs _ _ hil hjl (Nat.lt_succ_self _)
    rw [hje, hie] at this
    have := lt_iff.1 this
    omega
  | false =>
    rw [hf] at h
    simp only [Bool.false_eq_true, if_false] at h
    by_cases h0 : pos lt l x = 0
    · rw [if_pos h0] at h; cases h
    · rw [if_neg h0] at h
      have h1 := lt_iff.1 (pos_before (lt := lt) (x := x) (i := pos lt l x - 1) (by omega) h)
      refine key _ h (by omega) (fun z hz => ?_)
      rw [show pos lt l x - 1 + 1 = pos lt l x by omega] at hz
      exact lt_iff.1 (pos_behind ord hs hf (Nat.le_refl _) hz)
theorem flr_none_iff {l : List Im} (hs : Srt lt l) {x : Im} (h : flr l x = none) : ∀ z ∈ l, x.1 < z.1 := by
  intro z hz
  obtain ⟨j, hj⟩ := List.mem_iff_getElem?.1 hz
  unfold flr at h
  cases hf : fnd lt l x with
  | true =>
    rw [hf, if_pos rfl] at h
    unfold fnd at hf
    rw [h] at hf; cases hf
  | false =>
    rw [hf] at h
    simp only [Bool.false_eq_true, if_false] at h
    by_cases h0 : pos lt l x = 0
    · exact lt_iff.1 (pos_behind ord hs hf (by omega) hj)
    · rw [if_neg h0] at h
      have := pos_le (lt := lt) l x
      rw [List.getElem?_eq_none_iff] at h
      omega
/-- The items from x on. -/
theorem from_mem {l : List Im} (hs : Srt lt l) {x z : Im} : z ∈ from_ l x ↔ z ∈ l ∧ x.1 ≤ z.1 := by
  unfold from_
  constructor
  · intro hz
    refine ⟨List.mem_of_mem_drop hz, ?_⟩
    obtain ⟨i, hi⟩ := List.mem_iff_getElem?.1 hz
    rw [List.getElem?_drop] at hi
    have hil := (List.getElem?_eq_some_iff.1 hi).1
    have hp : l[pos lt l x]? = some l[pos lt l x] := List.getElem?_eq_getElem (by omega)
    have h1 := lt_not.1 (pos_at (lt := lt) hp)
    by_cases h0 : i = 0
    · subst h0
      rw [Nat.add_zero, hp] at hi
      obtain rfl := Option.some.inj hi; exact h1
    · have := List.pairwise_iff_getElem.1 hs (pos lt l x) (pos lt l x + i) (by omega) hil (by omega)
      rw [(List.getElem?_eq_some_iff.1 hi).2] at this
      have := lt_iff.1 this
      omega
  · rintro ⟨hz, hx⟩
    obtain ⟨j, hj⟩ := List.mem_iff_getElem?.1 hz
    by_cases hlt : j < pos lt l x
    · have := lt_iff.1 (pos_before (lt := lt) hlt hj)
      omega
    · refine List.mem_iff_getElem?.2 ⟨j - pos lt l x, ?_⟩
      rw [List.getElem?_drop, show pos lt l x + (j - pos lt l x) = j by omega]; exact hj
theorem from_srt {l : List Im} (hs : Srt lt l) (x : Im) : Srt lt (from_ l x) := hs.sublist (List.drop_sublist _ _)
/-- What holds of the first one, holds of all, if it rises with the key. -/
theorem take1_all {l : List Im} (hs : Srt lt l) {e : Int} : (∀ y ∈ l.take 1, e ≤ y.1) ↔ ∀ y ∈ l, e ≤ y.1 := by
  constructor
  · intro h y hy
    cases l with
    | nil => cases hy
    | cons a l =>
      have h1 := h a (by simp)
      rcases List.mem_cons.1 hy with rfl | hy
      · exact h1
      · have := lt_iff.1 ((List.pairwise_cons.1 hs).1 y hy)
        omega
  · exact fun h y hy => h y (List.mem_of_mem_take hy)

/-! ### the calendar -/
/-- An interval: from where on, and how many places behind the first. -/
abbrev Iv := Nat × Nat
def Iv.end (x : Iv) : Nat := x.1 + x.2 + 1
def over (x y : Iv) : Bool := decide (x.1 < y.end) && decide (y.1 < x.end)
def itm (x : Iv) : Im := ((x.1 : Int), ((x.1 + x.2 + 1 : Nat) : Int))
structure Cal (B : List Im) (dl : List Iv) : Prop where
  srt : Srt lt B
  has : ∀ y, y ∈ B ↔ ∃ d ∈ dl, y = itm d
  len : B.length = dl.length
  dis : B.Pairwise fun a b => a.2 ≤ b.1
/-- What the look at the neighbours says. -/
def freeL (x : Iv) (D A : List Im) : Bool := D.all (fun y => decide (y.2 ≤ (x.1 : Int))) && A.all (fun y => decide ((x.end : Int) ≤ y.1))
theorem Cal.nil : Cal [] [] := ⟨List.Pairwise.nil, fun y => by simp, rfl, List.Pairwise.nil⟩

theorem Cal.free {B : List Im} {dl : List Iv} (C : Cal B dl) (x : Iv) : freeL x (flr B ((x.1 : Int), 0)).toList (asc true B x.1) = dl.all fun y => !over x y := by
  have hin : ∀ d ∈ dl, itm d ∈ B := fun d hd => (C.has _).2 ⟨d, hd, rfl⟩
  have hpos : ∀ y ∈ B, y.1 < y.2 := fun y hy => by
    obtain ⟨d, _, rfl⟩ := (C.has y).1 hy
    unfold itm; simp only; omega
  have hdis : ∀ a ∈ B, ∀ b ∈ B, a.1 < b.1 → a.2 ≤ b.1 := fun a ha b hb hab => by
    obtain ⟨i, hi⟩ := List.mem_iff_getElem?.1 ha
    obtain ⟨j, hj⟩ := List.mem_iff_getElem?.1 hb
    obtain ⟨hil, hie⟩ := List.getElem?_eq_some_iff.1 hi
    obtain ⟨hjl, hje⟩ := List.getElem?_eq_some_iff.1 hj
    rcases Nat.lt_trichotomy i j with h | h | h
    · have := List.pairwise_iff_getElem.1 C.dis i j hil hjl h
      rwa [hie, hje] at this
    · subst h; rw [hie] at hje; subst hje; omega
    · have := lt_iff.1 (List.pairwise_iff_getElem.1 C.srt j i hjl hil h)
      rw [hie, hje] at this; omega
  have e : freeL x (flr B ((x.1 : Int), 0)).toList (asc true B x.1) = true ↔ (dl.all fun y => !over x y) = true := by
    unfold freeL
    rw [Bool.and_eq_true, List.all_eq_true, List.all_eq_true, List.all_eq_true]
    simp only [decide_eq_true_eq]
    have hA : (∀ y ∈ asc true B x.1, (x.end : Int) ≤ y.1) ↔ ∀ y ∈ B, (x.1 : Int) ≤ y.1 → (x.end : Int) ≤ y.1 := by
      show (∀ y ∈ (from_ B ((x.1 : Int), 0)).take 1, (x.end : Int) ≤ y.1) ↔ _
      rw [take1_all (from_srt C.srt _)]
      constructor
      · exact fun h y hy hx => h y ((from_mem C.srt).2 ⟨hy, hx⟩)
      · exact fun h y hy => h y ((from_mem C.srt).1 hy).1 ((from_mem C.srt).1 hy).2
    have hD : (∀ y ∈ (flr B ((x.1 : Int), 0)).toList, y.2 ≤ (x.1 : Int)) ↔ ∀ y ∈ B, y.1 ≤ (x.1 : Int) → y.2 ≤ (x.1 : Int) := by
      cases hf : flr B ((x.1 : Int), 0) with
      | none =>
        have h := flr_none_iff C.srt hf
        constructor
        · intro _ y hy hyx
          have := h y hy
          simp only at this; omega
        · intro _ y hy; simp at hy
      | some y0 =>
        obtain ⟨h1, h2, h3⟩ := flr_some_iff C.srt hf
        constructor
        · intro h y hy hyx
          have h0 := h y0 (by simp)
          rcases h3 y hy hyx with rfl | h4
          · exact h0
          · have := hdis y hy y0 h1 h4
            simp only at h2
            omega
        · intro h y hy
          obtain rfl : y = y0 := by simpa using hy
          exact h y h1 h2
    rw [hA, hD]
    constructor
    · rintro ⟨h1, h2⟩ d hd
      have hb := hin d hd
      have g1 := h1 _ hb
      have g2 := h2 _ hb
      unfold itm at g1 g2
      unfold over Iv.end at *
      simp only at g1 g2
      simp only [Bool.not_eq_true', Bool.and_eq_false_iff, decide_eq_false_iff_not]
      omega
    · intro h
      have h' : ∀ y ∈ B, ¬ ((x.1 : Int) < y.2 ∧ y.1 < (x.end : Int)) := fun y hy => by
        obtain ⟨d, hd, rfl⟩ := (C.has y).1 hy
        have := h d hd
        unfold over Iv.end at this
        unfold itm Iv.end
        simp only [Bool.not_eq_true', Bool.and_eq_false_iff, decide_eq_false_iff_not] at this
        simp only
        omega
      refine ⟨fun y hy hyx => ?_, fun y hy hxy => ?_⟩
      · have := h' y hy
        unfold Iv.end at this
        omega
      · have := h' y hy
        have := hpos y hy
        omega
  cases h1 : freeL x (flr B ((x.1 : Int), 0)).toList (asc true B x.1) <;> cases h2 : (dl.all fun y => !over x y) <;> simp [h1, h2] at e ⊢

/-- A free interval is booked. -/
theorem Cal.step {B : List Im} {dl : List Iv} (C : Cal B dl) (x : Iv) (h : (dl.all fun y => !over x y) = true) : Cal (put lt B (itm x)) (dl ++ [x]) := by
  have hno : ∀ y ∈ B, ¬ ((x.1 : Int) < y.2 ∧ y.1 < (x.end : Int)) := fun y hy => by
    obtain ⟨d, hd, rfl⟩ := (C.has y).1 hy
    have := List.all_eq_true.1 h d hd
    unfold over Iv.end at this
    unfold itm Iv.end
    simp only [Bool.not_eq_true', Bool.and_eq_false_iff, decide_eq_false_iff_not] at this
    simp only
    omega
  have hpos : ∀ y ∈ B, y.1 < y.2 := fun y hy => by
    obtain ⟨d, _, rfl⟩ := (C.has y).1 hy
    unfold itm; simp only; omega
  have hlook : look lt B (itm x) = none := by
    cases hl : look lt B (itm x) with
    | none => rfl
    | some y =>
      obtain ⟨h1, h2, _⟩ := look_some hl
      have h3 := pos_at (lt := lt) h1
      have hy := List.mem_of_getElem? h1
      have e1 := lt_not.1 h2
      have e2 := lt_not.1 h3
      have e3 := hno y hy
      have e4 := hpos y hy
      unfold itm at e1 e2
      unfold Iv.end at e3
      simp only at e1 e2
      omega
  have hp := pos_le (lt := lt) B (itm x)
  have hbef : ∀ y ∈ B.take (pos lt B (itm x)), y.2 ≤ (x.1 : Int) := fun y hy => by
    obtain ⟨i, hi⟩ := List.mem_iff_getElem?.1 hy
    have hil := (List.getElem?_eq_some_iff.1 hi).1
    rw [List.length_take] at hil
    rw [List.getElem?_take_of_lt (by omega)] at hi
    have h1 := lt_iff.1 (pos_before (lt := lt) (x := itm x) (i := i) (by omega) hi)
    have h2 := hno y (List.mem_of_getElem? hi)
    unfold itm at h1
    unfold Iv.end at h2
    simp only at h1
    omega
  have haft : ∀ y ∈ B.drop (pos lt B (itm x)), (itm x).2 ≤ y.1 := fun y hy => by
    obtain ⟨i, hi⟩ := List.mem_iff_getElem?.1 hy
    rw [List.getElem?_drop] at hi
    have h1 := lt_iff.1 (pos_behind ord C.srt (fnd_none hlook) (by omega) hi)
    have hy := List.mem_of_getElem? hi
    have h2 := hno y hy
    have h3 := hpos y hy
    unfold itm at h1 ⊢
    unfold Iv.end at h2
    simp only at h1 ⊢
    omega
  refine ⟨put_srt ord C.srt, fun y => ?_, ?_, ?_⟩
  · rw [put_none hlook]
    have h1 : y ∈ B.take (pos lt B (itm x)) ++ itm x :: B.drop (pos lt B (itm x)) ↔ y = itm x ∨ y ∈ B := by
      rw [List.mem_append, List.mem_cons]
      conv => rhs; rw [← List.take_append_drop (pos lt B (itm x)) B, List.mem_append]
      constructor
      · rintro (h | h | h)
        · exact .inr (.inl h)
        · exact .inl h
        · exact .inr (.inr h)
      · rintro (h | h | h)
        · exact .inr (.inl h)
        · exact .inl h
        · exact .inr (.inr h)
    rw [h1, C.has]
    constructor
    · rintro (rfl | ⟨d, hd, rfl⟩)
      · exact ⟨x, by simp, rfl⟩
      · exact ⟨d, by simp [hd], rfl⟩
    · rintro ⟨d, hd, rfl⟩
      rcases List.mem_append.1 hd with hd | hd
      · exact .inr ⟨d, hd, rfl⟩
      · obtain rfl : d = x := by simpa using hd
        exact .inl rfl
  · rw [II.put_length, fnd_none hlook, List.length_append, C.len]; rfl
  · rw [put_none hlook]
    refine List.pairwise_append.2 ⟨C.dis.sublist (List.take_sublist _ _), List.pairwise_cons.2 ⟨haft, C.dis.sublist (List.drop_sublist _ _)⟩, fun a ha b hb => ?_⟩
    rcases List.mem_cons.1 hb with rfl | hb
    · exact hbef a ha
    · have h1 := hbef a ha
      have h2 := haft b hb
      unfold itm at h2
      simp only at h2
      omega
end Go.Proofs.Ytehnobbiiokcgaa.Bt.P

namespace Go.Proofs.Ytehnobbiiokcgaa.Bt.P
set_option linter.unusedVariables false
set_option linter.unusedSimpArgs false
open Go Go.RowKit Go.Proofs.Ytehnobbiiokcgaa.Bt
open Go.Proofs.Ytehnobbiiokcgaa.Bt.ND (Im Its EI hidp)

variable {w : World}

set_option maxRecDepth 100000 in
/-- 'End' -/
theorem end_is (w : World) (x : Iv) (h1 : x.1 < 256) (h2 : x.2 < 256) : Calls Try.prog 35 #[.agg #[.int .u8 x.1, .int .u8 x.2]] w (fun e w' => e = .returned (.int .i64 (x.end : Nat)) ∧ Below w.heap.size w w') := by
  have HB := hidp ((Below.refl w.heap.size w).alloc (Nat.le_refl _) (.cells #[.int .u8 x.1, .int .u8 x.2] 62))
  have w1 : IntKind.i64.wrap (x.1 : Int) = (x.1 : Int) := by rw [Last.i64_w, IntWalk.wrap64_in _ ⟨by omega, by omega⟩]
  have w2 : IntKind.i64.wrap (x.2 : Int) = (x.2 : Int) := by rw [Last.i64_w, IntWalk.wrap64_in _ ⟨by omega, by omega⟩]
  have w3 : IntKind.i64.wrap ((x.1 : Int) + (x.2 : Int)) = (x.1 : Int) + (x.2 : Int) := by rw [Last.i64_w, IntWalk.wrap64_in _ ⟨by omega, by omega⟩]
  have w4 : IntKind.i64.wrap ((x.1 : Int) + (x.2 : Int) + 1) = (x.1 : Int) + (x.2 : Int) + 1 := by rw [Last.i64_w, IntWalk.wrap64_in _ ⟨by omega, by omega⟩]
  go_enter Try.func35, Try.ntmps35
  go_wp2
  go_ret
  exact ⟨by simp [Iv.end], HB.out⟩

/-- Two cells of a block. -/
def Cells2 (w : World) (b : Nat) (x : Iv) : Prop := w.cell? ⟨b, 0, none⟩ = some (.int .u8 x.1) ∧ w.cell? ⟨b, 1, none⟩ = some (.int .u8 x.2)
theorem Cells2.below {w w' : World} {b B : Nat} {x : Iv} (h : Cells2 w b x) (hb : Below B w w') (hlt : b < B) : Cells2 w' b x :=
  ⟨(hb.cell (p := ⟨b, 0, none⟩) hlt).trans h.1, (hb.cell (p := ⟨b, 1, none⟩) hlt).trans h.2⟩

set_option maxHeartbeats 2000000 in
set_option maxRecDepth 100000 in
/-- 'Overlaps' -/
theorem overlaps_is (w : World) (x y : Iv) (hx1 : x.1 < 256) (hx2 : x.2 < 256) (hy1 : y.1 < 256) (hy2 : y.2 < 256) : Calls Try.prog 36 #[.agg #[.int .u8 x.1, .int .u8 x.2], .agg #[.int .u8 y.1, .int .u8 y.2]] w (fun e w' => e = .returned (.bool (over x y)) ∧ Below w.heap.size w w') := by
  have hb : Below w.heap.size w ((w.alloc (.cells #[.int .u8 x.1, .int .u8 x.2] 62)).alloc (.cells #[.int .u8 y.1, .int .u8 y.2] 62)) := ((Below.refl _ _).alloc (Nat.le_refl _) _).alloc (by rw [World.size_alloc]; omega) _
  have hc : Cells2 ((w.alloc (.cells #[.int .u8 x.1, .int .u8 x.2] 62)).alloc (.cells #[.int .u8 y.1, .int .u8 y.2] 62)) w.heap.size x ∧ Cells2 ((w.alloc (.cells #[.int .u8 x.1, .int .u8 x.2] 62)).alloc (.cells #[.int .u8 y.1, .int .u8 y.2] 62)) (w.heap.size + 1) y := by
    have h1 := (Bx.new w [.int .u8 x.1, .int .u8 x.2] 62).alloc (.cells #[.int .u8 y.1, .int .u8 y.2] 62)
    have h2 := Bx.new (w.alloc (.cells #[.int .u8 x.1, .int .u8 x.2] 62)) [.int .u8 y.1, .int .u8 y.2] 62
    rw [World.size_alloc] at h2
    exact ⟨⟨h1.cell 0 rfl, h1.cell 1 rfl⟩, h2.cell 0 rfl, h2.cell 1 rfl⟩
  have HB := hidp (And.intro hb hc)
  have hsz : ((w.alloc (.cells #[.int .u8 x.1, .int .u8 x.2] 62)).alloc (.cells #[.int .u8 y.1, .int .u8 y.2] 62)).heap.size = w.heap.size + 2 := by simp
  have HSZ := hidp hsz
  clear hb hc hsz
  have w1 : IntKind.i64.wrap (x.1 : Int) = (x.1 : Int) := by rw [Last.i64_w, IntWalk.wrap64_in _ ⟨by omega, by omega⟩]
  have w2 : IntKind.i64.wrap (y.1 : Int) = (y.1 : Int) := by rw [Last.i64_w, IntWalk.wrap64_in _ ⟨by omega, by omega⟩]
  have HKEY : Hid (∀ b1 : Bool, decide (x.1 < y.end) = b1 → over x y = (b1 && decide (y.1 < x.end))) := hidp fun b1 h1 => by rw [← h1]; rfl
  cases hd : decide (x.1 < y.end) with
  | false =>
    have HO := hidp (HKEY.out false hd)
    clear HKEY
    go_enter Try.func36, Try.ntmps36
    go_wp2
    generalize (w.alloc (.cells #[.int .u8 x.1, .int .u8 x.2] 62)).alloc (.cells #[.int .u8 y.1, .int .u8 y.2] 62) = wa at HB HSZ ⊢
    refine region_class (C := fun w' => Cells2 w' w.heap.size x ∧ Cells2 w' (w.heap.size + 1) y ∧ Below w.heap.size w w' ∧ w.heap.size + 2 ≤ w'.heap.size) (by kernel_rfl) (by kernel_rfl) ⟨HB.out.2.1, HB.out.2.2, HB.out.1.drew, Nat.le_of_eq HSZ.out.symm⟩ ?_
    repeat (first
      | simp only [hd]
      | go_big_quiet_skip
      | (go_big_quiet_want
         first
         | (go_big_quiet_op; go_big_quiet_on)
         | (apply Exists.intro
            refine ⟨fun wq hq => ?_, ?_⟩
            (obtain ⟨⟨f0, f1⟩, ⟨g0, g1⟩, f5, f6⟩ := hq
             unfold Oper.quietAt
             first
             | (go_simp; done)
             | (go_simp; with_reducible rfl)
             | (go_simp
                go_at_call 35
                refine (end_is _ y hy1 hy2).mono ?_
                rintro e w' ⟨rfl, hb3⟩
                have h7 := hb3.size
                exact ⟨rfl, Cells2.below ⟨f0, f1⟩ hb3 (by omega), Cells2.below ⟨g0, g1⟩ hb3 (by omega), f5.trans (hb3.mono (by omega)), by omega⟩))
            try simp only [Act.put, List.setIfInBounds_toArray, List.set_cons_zero, List.set_cons_succ]
            go_big_quiet_on)))
    refine wpQuiet_nil ?_
    intro w3 hq
    obtain ⟨_, _, h5, _⟩ := hq
    have H5 := hidp h5
    clear h5
    go_wp2
    go_ret
    exact ⟨by rw [HO.out]; try rfl, H5.out⟩
  | true =>
    have HO := hidp (HKEY.out true hd)
    clear HKEY
    go_enter Try.func36, Try.ntmps36
    go_wp2
    generalize (w.alloc (.cells #[.int .u8 x.1, .int .u8 x.2] 62)).alloc (.cells #[.int .u8 y.1, .int .u8 y.2] 62) = wa at HB HSZ ⊢
    refine region_class (C := fun w' => Cells2 w' w.heap.size x ∧ Cells2 w' (w.heap.size + 1) y ∧ Below w.heap.size w w' ∧ w.heap.size + 2 ≤ w'.heap.size) (by kernel_rfl) (by kernel_rfl) ⟨HB.out.2.1, HB.out.2.2, HB.out.1.drew, Nat.le_of_eq HSZ.out.symm⟩ ?_
    repeat (first
      | simp only [hd]
      | go_big_quiet_skip
      | (go_big_quiet_want
         first
         | (go_big_quiet_op; go_big_quiet_on)
         | (apply Exists.intro
            refine ⟨fun wq hq => ?_, ?_⟩
            (obtain ⟨⟨f0, f1⟩, ⟨g0, g1⟩, f5, f6⟩ := hq
             unfold Oper.quietAt
             first
             | (go_simp; done)
             | (go_simp; with_reducible rfl)
             | (go_simp
                go_at_call 35
                first | with_reducible refine (end_is _ y hy1 hy2).mono ?_ | with_reducible refine (end_is _ x hx1 hx2).mono ?_
                rintro e w' ⟨rfl, hb3⟩
                have h7 := hb3.size
                exact ⟨rfl, Cells2.below ⟨f0, f1⟩ hb3 (by omega), Cells2.below ⟨g0, g1⟩ hb3 (by omega), f5.trans (hb3.mono (by omega)), by omega⟩))
            try simp only [Act.put, List.setIfInBounds_toArray, List.set_cons_zero, List.set_cons_succ]
            go_big_quiet_on)))
    refine wpQuiet_nil ?_
    intro w3 hq
    obtain ⟨_, _, h5, _⟩ := hq
    have H5 := hidp h5
    clear h5
    go_wp2
    go_ret
    exact ⟨by rw [HO.out]; try rfl, H5.out⟩

/-! ### rows that are read -/
/-- An interval in cells. -/
def EV : Enc Iv where
  enc x := [.int .u8 x.1, .int .u8 x.2]
  sz := 2
  ty := 62
  mty := 0
  z := [.int .u8 0, .int .u8 0]
  len _ := rfl
  zlen := rfl
  pos := by decide
  one _ u hu := by
    simp at hu; rcases hu with rfl | rfl <;> rfl
theorem row_get {I : Type} {E : Enc I} {f g : I → Value} (hE : ∀ x, E.enc x = [f x, g x]) (hz : E.sz = 2) {u : Value} {l : List I} {k : Option Nat} (h : Row 2 w u l.length (itemCells E l) k) : ∃ a cap, u = .slice a l.length cap ∧ ∀ wr, Below w.heap.size w wr → ∀ j x, l[j]? = some x → ∃ b, a = some ⟨b, 0, none⟩ ∧ wr.cell? ⟨b, j * 2, none⟩ = some (f x) ∧ wr.cell? ⟨b, j * 2 + 1, none⟩ = some (g x) := by
  obtain ⟨a, cap, rfl, _, ha, hg, hc⟩ := h.cut
  refine ⟨a, cap, rfl, fun wr hb j x hx => ?_⟩
  have hj := (List.getElem?_eq_some_iff.1 hx).1
  have h0 : (itemCells E l)[j * 2]? = some (f x) := by
    have h := itemCells_get (E := E) l j x hx 0 (by rw [hz]; decide)
    rw [hz, hE] at h; simpa using h
  have h1 : (itemCells E l)[j * 2 + 1]? = some (g x) := by
    have h := itemCells_get (E := E) l j x hx 1 (by rw [hz]; decide)
    rw [hz, hE] at h; simpa using h
  have c0 := hc _ _ h0
  have c1 := hc _ _ h1
  exact ⟨_, ha (by omega), (hb.cell (p := ⟨_, j * 2, none⟩) (World.block_lt_of_cell? w _ c0)).trans c0, (hb.cell (p := ⟨_, j * 2 + 1, none⟩) (World.block_lt_of_cell? w _ c1)).trans c1⟩
theorem row_its {u : Value} {l : List Im} {k : Option Nat} (h : Row 2 w u l.length (itemCells EI l) k) : Its w u l := by
  obtain ⟨a, cap, rfl, h1, _, _, _⟩ := h.cut
  obtain ⟨a', cap', e, hg⟩ := row_get (E := EI) (f := fun x : Im => .int .i64 x.1) (g := fun x : Im => .int .i64 x.2) (fun _ => rfl) rfl h
  injection e with e1 _ e3
  subst e1; subst e3
  refine ⟨a, cap, rfl, h1, fun j x hx => ?_⟩
  obtain ⟨b, hb, c0, c1⟩ := hg w (Below.refl _ _) j x hx
  exact ⟨b, 0, hb, by rw [Nat.zero_add]; exact c0, by rw [Nat.zero_add]; exact c1⟩

/-- Intervals that came in. -/
def Ivs (w : World) (v : Value) (l : List Iv) : Prop :=
  ∃ a cap, v = .slice a l.length cap ∧ (∀ j x, l[j]? = some x → ∃ b off, a = some ⟨b, off, none⟩ ∧ w.cell? ⟨b, off + j * 2, none⟩ = some (.int .u8 x.1) ∧ w.cell? ⟨b, off + j * 2 + 1, none⟩ = some (.int .u8 x.2)) ∧ ∀ x ∈ l, x.1 < 256 ∧ x.2 < 256

/-- What a round keeps: the calendar, and the intervals that are due. -/
structure BK (w wr : World) (b u : Value) (B : List Im) (dl : List Iv) (gb gd : Option Nat) : Prop where
  rb : Row 2 wr b B.length (itemCells EI B) gb
  rd : Row 2 wr u dl.length (itemCells EV dl) gd
  ge : ∀ k, gb = some k ∨ gd = some k → w.heap.size ≤ k
  ne : ∀ k, gb = some k → gd = some k → False
  below : Below w.heap.size w wr
theorem BK.call {wr w2 : World} {b u : Value} {B : List Im} {dl : List Iv} {gb gd : Option Nat} (h : BK w wr b u B dl gb gd) (hb : Below wr.heap.size wr w2) : BK w w2 b u B dl gb gd :=
  ⟨ND.Row.below h.rb hb, ND.Row.below h.rd hb, h.ge, h.ne, h.below.trans (hb.mono h.below.size)⟩
theorem BK.start (w : World) : BK w w (.slice none 0 0) (.slice none 0 0) [] [] none none :=
  ⟨Row.nil _ _, Row.nil _ _, fun k h => (by rcases h with h | h <;> cases h), fun k h => (by cases h), Below.refl _ _⟩
end Go.Proofs.Ytehnobbiiokcgaa.Bt.P
