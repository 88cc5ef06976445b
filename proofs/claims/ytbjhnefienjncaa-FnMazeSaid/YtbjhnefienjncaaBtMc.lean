/- Sets of numbers: which numbers a set has (plain); the layers of a maze as sets of numbers. -/
import Derived.Test.YtbjhnefienjncaaBtMz
import Derived.Test.YtbjhnefienjncaaBtIb
namespace Go.Proofs.Ytbjhnefienjncaa.Bt.Z
set_option linter.unusedVariables false
set_option linter.unusedSimpArgs false
open Go Go.RowKit Go.Proofs.Ytbjhnefienjncaa.Bt Go.Proofs.Ytbjhnefienjncaa.Bt.IU

theorem lt_iff {a b : It} : lt a b = true ↔ a.1 < b.1 := by simp [lt]
theorem lt_not {a b : It} : lt a b = false ↔ b.1 ≤ a.1 := by simp [lt]
theorem parts {l : List It} (hs : Srt lt l) (x : It) : ∃ A B, (∀ y ∈ A, y.1 < x.1) ∧ (∀ y ∈ B, x.1 < y.1) ∧ put lt l x = A ++ x :: B ∧ cut lt l x = A ++ B ∧ ((l = A ++ B) ∨ ∃ z, z.1 = x.1 ∧ l = A ++ z :: B) := by
  have hb : ∀ y ∈ l.take (pos lt l x), y.1 < x.1 := fun y hy => by
    obtain ⟨i, hi⟩ := List.mem_iff_getElem?.1 hy
    have hlt := (List.getElem?_eq_some_iff.1 hi).1
    rw [List.length_take] at hlt
    rw [List.getElem?_take_of_lt (by omega)] at hi
    exact lt_iff.1 (pos_before (lt := lt) (x := x) (i := i) (by omega) hi)
  cases hk : look lt l x with
  | none =>
    refine ⟨l.take (pos lt l x), l.drop (pos lt l x), hb, fun y hy => ?_, put_none hk, by rw [cut_none hk, List.take_append_drop], .inl (List.take_append_drop _ _).symm⟩
    obtain ⟨i, hi⟩ := List.mem_iff_getElem?.1 hy
    rw [List.getElem?_drop] at hi
    exact lt_iff.1 (pos_behind ord hs (fnd_none hk) (by omega) hi)
  | some z =>
    obtain ⟨h1, h2, h3⟩ := look_some hk
    have h4 := pos_at (lt := lt) h1
    have e1 := lt_not.1 h2
    have e2 := lt_not.1 h4
    obtain ⟨hil, hie⟩ := List.getElem?_eq_some_iff.1 h1
    have hl : l = l.take (pos lt l x) ++ z :: l.drop (pos lt l x + 1) := by
      conv => lhs; rw [← List.take_append_drop (pos lt l x) l, List.drop_eq_getElem_cons hil, hie]
    refine ⟨l.take (pos lt l x), l.drop (pos lt l x + 1), hb, fun y hy => ?_, ?_, cut_found hk, .inr ⟨z, by omega, hl⟩⟩
    · obtain ⟨i, hi⟩ := List.mem_iff_getElem?.1 hy
      rw [List.getElem?_drop] at hi
      obtain ⟨hjl, hje⟩ := List.getElem?_eq_some_iff.1 hi
      have := List.pairwise_iff_getElem.1 hs (pos lt l x) (pos lt l x + 1 + i) hil hjl (by omega)
      rw [hie, hje] at this
      have := lt_iff.1 this
      omega
    · unfold put; rw [fnd_some hk, if_pos rfl]
theorem it_eq {a b : It} (h : a.1 = b.1) : a = b := Prod.ext h rfl
theorem put_mem {l : List It} (hs : Srt lt l) {x y : It} : y ∈ put lt l x ↔ y = x ∨ y ∈ l := by
  obtain ⟨A, B, hA, hB, hp, _, hl⟩ := parts hs x
  rw [hp]
  rcases hl with hl | ⟨z, hz, hl⟩
  · rw [hl]
    simp only [List.mem_append, List.mem_cons]
    constructor
    · rintro (h | h | h)
      · exact .inr (.inl h)
      · exact .inl h
      · exact .inr (.inr h)
    · rintro (h | h | h)
      · exact .inr (.inl h)
      · exact .inl h
      · exact .inr (.inr h)
  · rw [hl, it_eq hz]
    simp only [List.mem_append, List.mem_cons]
    constructor
    · rintro (h | h | h)
      · exact .inr (.inl h)
      · exact .inl h
      · exact .inr (.inr (.inr h))
    · rintro (h | h | h | h)
      · exact .inr (.inl h)
      · exact .inl h
      · exact .inr (.inl h)
      · exact .inr (.inr h)
theorem cut_mem {l : List It} (hs : Srt lt l) {x y : It} : y ∈ cut lt l x ↔ y ∈ l ∧ y ≠ x := by
  obtain ⟨A, B, hA, hB, _, hp, hl⟩ := parts hs x
  rw [hp]
  have hne : ∀ y, y ∈ A ∨ y ∈ B → y ≠ x := fun y h e => by
    subst e
    rcases h with h | h
    · have := hA y h; omega
    · have := hB y h; omega
  rcases hl with hl | ⟨z, hz, hl⟩
  · rw [hl]
    simp only [List.mem_append]
    exact ⟨fun h => ⟨h, hne y h⟩, fun h => h.1⟩
  · rw [hl, it_eq hz]
    simp only [List.mem_append, List.mem_cons]
    constructor
    · rintro (h | h)
      · exact ⟨.inl h, hne y (.inl h)⟩
      · exact ⟨.inr (.inr h), hne y (.inr h)⟩
    · rintro ⟨h | h | h, hn⟩
      · exact .inl h
      · exact absurd h hn
      · exact .inr h
theorem dels_mem (ks : List Int) : ∀ {l : List It}, Srt lt l → (∀ y : It, y ∈ dels ks l ↔ y ∈ l ∧ y.1 ∉ ks) ∧ Srt lt (dels ks l) := by
  induction ks with
  | nil => intro l hs; exact ⟨fun y => by simp [dels], hs⟩
  | cons k ks ih =>
    intro l hs
    have hs' : Srt lt (cut lt l (k, ())) := hs.sublist (cut_sub l (k, ()))
    obtain ⟨h1, h2⟩ := ih hs'
    have e : dels (k :: ks) l = dels ks (cut lt l (k, ())) := rfl
    rw [e]
    refine ⟨fun y => ?_, h2⟩
    rw [h1, cut_mem hs]
    simp only [List.mem_cons, not_or]
    have hyk : y ≠ (k, ()) ↔ y.1 ≠ k := ⟨fun h e => h (it_eq e), fun h e => h (by rw [e])⟩
    rw [hyk]
    constructor
    · rintro ⟨⟨a, b⟩, c⟩; exact ⟨a, b, c⟩
    · rintro ⟨a, b, c⟩; exact ⟨⟨a, b⟩, c⟩
theorem ins_mem (l : List It) {y : It} : y ∈ ins l ↔ y ∈ l := by
  have key : ∀ n, n ≤ l.length → (y ∈ ins (l.take n) ↔ y ∈ l.take n) := by
    intro n
    induction n with
    | zero => intro _; exact Iff.rfl
    | succ n ih =>
      intro hn
      have hx : l[n]? = some l[n] := List.getElem?_eq_getElem (by omega)
      rw [ins_take hx, put_mem (ins_srt _), ih (by omega), List.take_add_one, hx, List.mem_append]
      simp only [Option.toList_some, List.mem_singleton]
      exact ⟨fun h => h.symm, fun h => h.symm⟩
  have := key l.length (Nat.le_refl _)
  rwa [List.take_length] at this
theorem mem_map_fst {l : List It} {x : Int} : x ∈ l.map (·.1) ↔ (x, ()) ∈ l := by
  rw [List.mem_map]
  constructor
  · rintro ⟨y, hy, rfl⟩; exact hy
  · exact fun h => ⟨_, h, rfl⟩
theorem its_mem {l : List Int} {x : Int} : (x, ()) ∈ its l ↔ x ∈ l := by
  unfold its
  rw [List.mem_map]
  constructor
  · rintro ⟨y, hy, e⟩; rw [← (Prod.mk.inj e).1]; exact hy
  · exact fun h => ⟨x, h, rfl⟩
theorem srt_inc {l : List It} (h : Srt lt l) : (l.map (·.1)).Pairwise (· < ·) := by
  rw [List.pairwise_map]
  exact h.imp fun hab => lt_iff.1 hab
/-- The numbers of a set. -/
theorem set_mem {l : List Int} {x : Int} : x ∈ set l ↔ x ∈ l := by unfold set; rw [mem_map_fst, ins_mem, its_mem]
theorem set_inc (l : List Int) : (set l).Pairwise (· < ·) := srt_inc (ins_srt _)
/-- The numbers of a set from which some are deleted. -/
def sdel (l ks : List Int) : List Int := (dels ks (ins (its l))).map (·.1)
theorem sdel_mem {l ks : List Int} {x : Int} : x ∈ sdel l ks ↔ x ∈ l ∧ x ∉ ks := by
  unfold sdel
  rw [mem_map_fst, (dels_mem ks (ins_srt _)).1, ins_mem, its_mem]
theorem sdel_inc (l ks : List Int) : (sdel l ks).Pairwise (· < ·) := srt_inc (dels_mem ks (ins_srt _)).2
theorem sdel_length (l ks : List Int) : (sdel l ks).length ≤ l.length := by
  unfold sdel
  rw [List.length_map]
  have h1 := (dels_sub ks (ins (its l))).length_le
  have h2 := ins_le l
  omega
end Go.Proofs.Ytbjhnefienjncaa.Bt.Z

namespace Go.Proofs.Ytbjhnefienjncaa.Bt.Mz
set_option linter.unusedVariables false
set_option linter.unusedSimpArgs false
variable {wall : Nat → Bool}
/-- Natural numbers as numbers. -/
def ci (l : List Nat) : List Int := l.map fun n : Nat => (n : Int)
theorem ci_mem {l : List Nat} {x : Int} : x ∈ ci l ↔ ∃ n : Nat, x = (n : Int) ∧ n ∈ l := by
  unfold ci
  rw [List.mem_map]
  constructor
  · rintro ⟨n, h1, h2⟩; exact ⟨n, h2.symm, h1⟩
  · rintro ⟨n, h1, h2⟩; exact ⟨n, h2, h1.symm⟩
theorem ci_memN {l : List Nat} {n : Nat} : (n : Int) ∈ ci l ↔ n ∈ l := by
  rw [ci_mem]
  constructor
  · rintro ⟨m, h1, h2⟩
    obtain rfl : n = m := by omega
    exact h2
  · exact fun h => ⟨n, rfl, h⟩
/-- A rising list of numbers, all of them natural, is one of natural numbers. -/
theorem ci_of {m : List Int} (hm : m.Pairwise (· < ·)) {q : List Nat} (hq : q.Pairwise (· < ·)) (h : ∀ x : Int, x ∈ m ↔ ∃ n : Nat, x = (n : Int) ∧ n ∈ q) : m = ci q := by
  have hn : ∀ x ∈ m, 0 ≤ x := fun x hx => by
    obtain ⟨n, rfl, _⟩ := (h x).1 hx; omega
  have e : m = ci (m.map Int.toNat) := by
    unfold ci
    rw [List.map_map]
    have : m.map (fun x => ((x.toNat : Nat) : Int)) = m := by
      conv => rhs; rw [← List.map_id m]
      exact List.map_congr_left (fun x hx => Int.toNat_of_nonneg (hn x hx))
    exact this.symm
  have hi : (m.map Int.toNat).Pairwise (· < ·) := by
    rw [List.pairwise_map]
    exact hm.imp_of_mem (fun {a b} ha hb hab => by have := hn a ha; have := hn b hb; omega)
  rw [e]
  congr 1
  refine inc_ext hi hq (fun x => ?_)
  rw [List.mem_map]
  constructor
  · rintro ⟨y, hy, rfl⟩
    obtain ⟨n, rfl, hq'⟩ := (h y).1 hy
    rwa [Int.toNat_natCast]
  · intro hx
    exact ⟨(x : Int), (h x).2 ⟨x, rfl, hx⟩, Int.toNat_natCast x⟩

/-! ### the program's sets -/
/-- The walls. -/
def walls (wall : Nat → Bool) : List Nat := (List.range 64).filter wall
theorem walls_mem {x : Nat} : x ∈ walls wall ↔ x < 64 ∧ wall x = true := by
  unfold walls; rw [List.mem_filter, List.mem_range]
def SeenI (wall : Nat → Bool) (f k : Nat) (s : List Int) : Prop := ∃ t : List Nat, (∀ x : Int, x ∈ s ↔ ∃ n : Nat, x = (n : Int) ∧ n ∈ t) ∧ Seen wall f k t
theorem front_zero {f : Nat} (hf : f < 64) : Z.sdel [(f : Int)] (ci (walls wall)) = ci (layer wall f 0) := by
  refine ci_of (Z.sdel_inc _ _) layer_inc (fun x => ?_)
  rw [Z.sdel_mem, List.mem_singleton]
  constructor
  · rintro ⟨rfl, hn⟩
    rw [ci_memN, walls_mem] at hn
    refine ⟨f, rfl, layer_mem.2 ⟨hf, (dist_zero hf hf).2 ⟨rfl, ?_⟩⟩⟩
    cases hw : wall f with
    | false => rfl
    | true => exact absurd ⟨hf, hw⟩ hn
  · rintro ⟨n, rfl, hn⟩
    obtain ⟨h1, h2⟩ := layer_mem.1 hn
    obtain ⟨rfl, hw⟩ := (dist_zero hf h1).1 h2
    refine ⟨rfl, fun hm => ?_⟩
    rw [ci_memN, walls_mem] at hm
    rw [hw] at hm; cases hm.2
theorem seenI_zero {f : Nat} (hf : f < 64) : SeenI wall f 0 (Z.set (ci (walls wall) ++ ci (layer wall f 0))) := by
  refine ⟨walls wall ++ layer wall f 0, fun x => ?_, seen_zero hf (fun x => ?_)⟩
  · rw [Z.set_mem, List.mem_append, ci_mem, ci_mem]
    constructor
    · rintro (⟨n, h1, h2⟩ | ⟨n, h1, h2⟩)
      · exact ⟨n, h1, List.mem_append.2 (.inl h2)⟩
      · exact ⟨n, h1, List.mem_append.2 (.inr h2)⟩
    · rintro ⟨n, h1, h2⟩
      rcases List.mem_append.1 h2 with h2 | h2
      · exact .inl ⟨n, h1, h2⟩
      · exact .inr ⟨n, h1, h2⟩
  · rw [List.mem_append, walls_mem]
/-- All neighbours of the cells of a layer. -/
def near (l : List Nat) : List Nat := l.flatMap nb
theorem front_next {f k : Nat} (hf : f < 64) (hk : k < 65) {s : List Int} (hs : SeenI wall f k s) : Z.sdel (ci (near (layer wall f k))) s = ci (layer wall f (k + 1)) := by
  obtain ⟨t, ht, hS⟩ := hs
  have e : (near (layer wall f k)).length = (near (layer wall f k)).length := rfl
  have key := layer_next (m := layer wall f (k + 1)) hf hk layer_inc hS
  refine ci_of (Z.sdel_inc _ _) layer_inc (fun x => ?_)
  rw [Z.sdel_mem, ci_mem]
  have hmem : ∀ n : Nat, n ∈ layer wall f (k + 1) ↔ (∃ e, e ∈ layer wall f k ∧ n ∈ nb e) ∧ n ∉ t := fun n => by
    constructor
    · intro hn
      obtain ⟨h1, h2⟩ := layer_mem.1 hn
      obtain ⟨hw, ⟨d, hd, hdk, hcd⟩, hno⟩ := (dist_succ hf h1 hk).1 h2
      refine ⟨⟨d, layer_mem.2 ⟨hd, hdk⟩, hcd⟩, fun hm => ?_⟩
      rcases ((hS n).1 hm).2 with g | g
      · rw [hw] at g; cases g
      · exact hno g
    · rintro ⟨⟨d, hd, hcd⟩, hno⟩
      obtain ⟨hd64, hdk⟩ := layer_mem.1 hd
      have hn64 := nb_lt d hd64 n hcd
      have hw : wall n = false := by
        cases hw : wall n with
        | false => rfl
        | true => exact absurd ((hS n).2 ⟨hn64, .inl hw⟩) hno
      exact layer_mem.2 ⟨hn64, (dist_succ hf hn64 hk).2 ⟨hw, ⟨d, hd64, hdk, hcd⟩, fun g => hno ((hS n).2 ⟨hn64, .inr g⟩)⟩⟩
  constructor
  · rintro ⟨⟨n, rfl, hn⟩, hx⟩
    refine ⟨n, rfl, (hmem n).2 ⟨?_, fun hm => hx ((ht n).2 ⟨n, rfl, hm⟩)⟩⟩
    unfold near at hn
    obtain ⟨e, he, hne⟩ := List.mem_flatMap.1 hn
    exact ⟨e, he, hne⟩
  · rintro ⟨n, rfl, hn⟩
    obtain ⟨⟨e, he, hne⟩, hno⟩ := (hmem n).1 hn
    refine ⟨⟨n, rfl, by unfold near; exact List.mem_flatMap.2 ⟨e, he, hne⟩⟩, fun hx => ?_⟩
    obtain ⟨m, hm, hmt⟩ := (ht n).1 hx
    obtain rfl : n = m := by omega
    exact hno hmt
theorem seenI_next {f k : Nat} {s : List Int} (hs : SeenI wall f k s) : SeenI wall f (k + 1) (Z.set (s ++ ci (layer wall f (k + 1)))) := by
  obtain ⟨t, ht, hS⟩ := hs
  refine ⟨t ++ layer wall f (k + 1), fun x => ?_, seen_next hS (fun x => by rw [List.mem_append])⟩
  rw [Z.set_mem, List.mem_append, ht, ci_mem]
  constructor
  · rintro (⟨n, h1, h2⟩ | ⟨n, h1, h2⟩)
    · exact ⟨n, h1, List.mem_append.2 (.inl h2)⟩
    · exact ⟨n, h1, List.mem_append.2 (.inr h2)⟩
  · rintro ⟨n, h1, h2⟩
    rcases List.mem_append.1 h2 with h2 | h2
    · exact .inl ⟨n, h1, h2⟩
    · exact .inr ⟨n, h1, h2⟩
end Go.Proofs.Ytbjhnefienjncaa.Bt.Mz
