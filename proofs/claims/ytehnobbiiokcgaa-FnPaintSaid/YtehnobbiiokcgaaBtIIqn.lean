/- Maps from numbers to numbers: NewMap. -/
import Derived.Test.YtehnobbiiokcgaaBtIIq
import Derived.Test.YtehnobbiiokcgaaBtIIj
namespace Go.Proofs.Ytehnobbiiokcgaa.Bt.II
set_option linter.unusedVariables false
set_option linter.unusedSimpArgs false
open Go Go.RowKit Go.Proofs.Ytehnobbiiokcgaa.Bt

variable {S : Nat → Prop} {w : World} {s : Sto It}

/-- 'NewMap' -/
theorem newMap_is {D : Nat} (h1 : 2 ≤ D) (h2 : D ≤ 1000) : Calls Try.prog 56 #[.int .i64 D] w (fun e w' => ∃ S s, e = .returned (.pointer (some ⟨s.m, 0, none⟩)) ∧ MapIs D S w' s [] ∧ Below w.heap.size w w' ∧ (∀ i, S i → w.heap.size ≤ i) ∧ s.m = w.heap.size) := by
  have hb := Bx.new w (mapCells E (noMap w.heap.size).mp) 122
  have ht := bty_alloc_new w (mapCells E (noMap w.heap.size).mp).toArray 122
  have HN := hidp (new_rep hb ht)
  have HI := hidp (init_new (new_rep hb ht) rfl (d := (D : Int)) (D := D) (.inr ⟨rfl, h1, h2⟩))
  clear hb ht
  go_enter Try.func56, Try.ntmps56
  go_wp2_with fail
  refine HI.out.mono ?_
  rintro e w' ⟨rfl, hE, R⟩
  have HF := hidp (And.intro hE R)
  clear hE R HI
  go_wp2
  go_ret
  refine ⟨(· = w.heap.size), _, rfl, ⟨HF.out.2, List.Pairwise.nil, rfl, .inr ⟨rfl, rfl⟩, .inl ⟨rfl, rfl⟩⟩, ?_, fun i hi => Nat.le_of_eq hi.symm, rfl⟩
  exact ((Below.refl _ _).alloc (Nat.le_refl _) _).trans (HF.out.1.below (by rw [World.size_alloc]; omega) (fun i hi => Nat.le_of_eq hi.symm))
end Go.Proofs.Ytehnobbiiokcgaa.Bt.II
