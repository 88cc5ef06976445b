/- Maps from numbers to numbers: 'Ascend' of a map. -/
import Derived.Test.YtehnobbiiokcgaaBtIIt
namespace Go.Proofs.Ytehnobbiiokcgaa.Bt.II
set_option linter.unusedVariables false
set_option linter.unusedSimpArgs false
open Go Go.RowKit Go.Proofs.Ytehnobbiiokcgaa.Bt

variable {S : Nat → Prop} {s : Sto It} {f : Nat} {lb : Array Value} {G : World → World → Prop} {Q : List It → World → Prop} {go : List It → Bool} {M : Nat} {w : World}

/-- What 'Ascend' leaves. -/
def AscPost (G : World → World → Prop) (Q : List It → World → Prop) (go : List It → Bool) (w : World) (l : List It) (e : Ending) (w' : World) : Prop :=
  e = .returned (.tuple #[]) ∧ Q (visit go [] l).1 w' ∧ G w w'

set_option maxRecDepth 100000 in
/-- 'ascend' -/
theorem ascend_is (F : Fn S s f lb G Q go M) {D : Nat} (hD2 : D ≤ 400) {l : List It} (m : MapIs D S w s l) (hQ : Q [] w) (hl : l.length ≤ M) (x : It) :
    Calls Try.prog 105 #[.pointer (some ⟨s.m, 0, none⟩), Value.int .i64 x.1, .func (.func f) #[] lb, .bool false] w (AscPost G Q go w (from_ l x)) := by
  have m2 := (mcell m.rep).2.2.2.1
  rcases m.tree with ⟨hr, rfl⟩ | ⟨h, n, t, ids, hr, T, hd, hok, rfl⟩
  · have m2' : w.cell? ⟨s.m, 2, none⟩ = some (.pointer none) := by rw [m2, hr]; rfl
    have e0 : from_ ([] : List It) x = [] := rfl
    rw [e0]
    have HX := hidp (And.intro hQ (F.refl w))
    clear m m2 hQ F
    go_enter Try.func105, Try.ntmps105
    go_wp2
    go_end0
    exact ⟨rfl, HX.out.1, HX.out.2⟩
  · have m2' : w.cell? ⟨s.m, 2, none⟩ = some (.pointer (some ⟨n, 0, none⟩)) := by rw [m2, hr]; rfl
    have HC := hidp (asc_tr F h m.rep (A := ⟨s.m, 2, none⟩) m2' T hok (by omega) m.srt hQ (by simpa using hl) x)
    clear m m2 hQ F hr T hd hok
    go_enter Try.func105, Try.ntmps105
    go_wp2_with fail
    refine HC.out.mono ?_
    rintro e w' ⟨rfl, hQ', hG'⟩
    have HX := hidp (And.intro hQ' hG')
    clear hQ' hG' HC
    go_wp2
    go_end0
    exact ⟨rfl, HX.out.1, HX.out.2⟩
/-- 'Ascend' -/
theorem Ascend_is (F : Fn S s f lb G Q go M) {D : Nat} (hD2 : D ≤ 400) {l : List It} (m : MapIs D S w s l) (hQ : Q [] w) (hl : l.length ≤ M) (x : It) :
    Calls Try.prog 73 #[.pointer (some ⟨s.m, 0, none⟩), Value.int .i64 x.1, .func (.func f) #[] lb] w (AscPost G Q go w (from_ l x)) := by
  have HC := hidp (ascend_is F hD2 m hQ hl x)
  clear m hQ F
  go_enter Try.func73, Try.ntmps73
  go_wp2_with fail
  refine HC.out.mono ?_
  rintro e w' ⟨rfl, hQ', hG'⟩
  have HX := hidp (And.intro hQ' hG')
  clear hQ' hG' HC
  go_wp2
  go_end0
  exact ⟨rfl, HX.out.1, HX.out.2⟩
end Go.Proofs.Ytehnobbiiokcgaa.Bt.II
