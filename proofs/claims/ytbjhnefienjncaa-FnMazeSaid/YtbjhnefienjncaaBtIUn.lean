/- Maps of numbers (sets): 'Set', whole. -/
import Derived.Test.YtbjhnefienjncaaBtIUm
namespace Go.Proofs.Ytbjhnefienjncaa.Bt.IU
set_option linter.unusedVariables false
set_option linter.unusedSimpArgs false
open Go Go.RowKit Go.Proofs.Ytbjhnefienjncaa.Bt

variable {S : Nat → Prop} {w : World} {s : Sto It}

/-- 'Set' -/
theorem set_is {D : Nat} (hD : 2 ≤ D) (hD2 : D ≤ 400) {l : List It} (m : MapIs D S w s l) (hb : l.length ≤ 100000000000) (x : It) :
    Calls Try.prog 97 #[.pointer (some ⟨s.m, 0, none⟩), Value.int .i64 x.1, Value.agg #[]] w (SetPost D S w s l x) := by
  rcases m.tree with ⟨hr, rfl⟩ | ⟨h, n, t, ids, hr, T, hd, hok, rfl⟩
  · refine set_empty hD hD2 m.rep hr ?_ x
    rcases m.mm with ⟨h1, h2, _⟩ | h
    · exact .inl ⟨h1, h2⟩
    · exact .inr h
  · obtain ⟨hmn, hmx⟩ : s.mp.mn = ((D - 1 : Nat) : Int) ∧ s.mp.mx = ((2 * D - 1 : Nat) : Int) := by
      rcases m.mm with ⟨_, _, h3⟩ | h
      · rw [hr] at h3; cases h3
      · exact h
    by_cases he : insN lt (2 * D - 1) h t x = .split
    · exact set_split hD hD2 m.rep hr T hd hok m.srt hmn hmx hb m.cnt x he
    · exact set_node hD hD2 m.rep hr T hd hok m.srt hmn hmx hb m.cnt x he
end Go.Proofs.Ytbjhnefienjncaa.Bt.IU
