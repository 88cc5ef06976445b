/- Sets of strings: TAscend. -/
import Derived.Test.YtceildcbehaoaaaBtTk
import Derived.Test.YtceildcbehaoaaaBtSUu
namespace Go.Proofs.Ytceildcbehaoaaa.Bt.T
set_option linter.unusedVariables false
set_option linter.unusedSimpArgs false
open Go Go.RowKit Go.Proofs.Ytceildcbehaoaaa.Bt Go.Proofs.Ytceildcbehaoaaa.Bt.SU

variable {w : World}

theorem Tk.alloc {B bo : Nat} {xs : List ByteArray} (h : Tk B bo w xs) (x : Obj) : Tk B bo (w.alloc x) xs := by
  obtain ⟨h1, h2, u, g, h3, h4, h5⟩ := h
  exact ⟨h1, by rw [World.size_alloc]; omega, u, g, h3.alloc x, h4.alloc x, h5⟩
theorem FrT.alloc {B bo : Nat} (x : Obj) : FrT B bo w (w.alloc x) := (Fr.refl _ w).alloc x

set_option maxRecDepth 100000 in
/-- The function that Set.Ascend hands on. -/
theorem wrap_is {B bo bx bn bq : Nat} {xs : List ByteArray} (hT : Tk B bo w xs) (hW : Tw B bo bx bn w) (cq : w.cell? ⟨bq, 0, none⟩ = some (.func (.func 82) #[] #[.pointer (some ⟨bx, 0, none⟩), .pointer (some ⟨bn, 0, none⟩)])) (hl : xs.length ≤ 1000000000000) (x : ByteArray) :
    Calls Try.prog 81 #[.string x, .agg #[], .pointer (some ⟨bq, 0, none⟩)] w (TkPost B bo w (xs ++ [x])) := by
  have hq : bq < w.heap.size := World.block_lt_of_cell? w _ cq
  have HC := hidp (take_is (hT.alloc (.cells #[] 102)) (hW.fr hT.2.1 (FrT.alloc (.cells #[] 102))) hl x)
  clear hT hW
  go_enter Try.func81, Try.ntmps81
  go_wp2_with fail
  refine HC.out.mono ?_
  rintro e w1 ⟨rfl, hT1, hF1⟩
  have HX := hidp (And.intro hT1 ((FrT.alloc (.cells #[] 102)).trans hF1))
  clear hT1 hF1 HC
  go_wp2
  go_ret
  exact ⟨rfl, HX.out.1, HX.out.2⟩

theorem visit_all (l : List It) : ∀ xs, visit (fun _ => true) xs l = (xs ++ l, true) := by
  induction l with
  | nil => intro xs; simp [visit]
  | cons y l ih => intro xs; simp [visit, ih]

/-- The function as one that keeps what it is handed. -/
theorem wrap_fn {S : Nat → Prop} {s : Sto It} {B bo bx bn bq : Nat} (hS : ∀ i, S i → i < B ∧ i ≠ bo) (hqB : bq < B) (hqo : bq ≠ bo) :
    SU.Fn S s 81 #[.pointer (some ⟨bq, 0, none⟩)] (FrT B bo) (fun xs w => Tk B bo w (xs.map (·.1)) ∧ Tw B bo bx bn w ∧ w.cell? ⟨bq, 0, none⟩ = some (.func (.func 82) #[] #[.pointer (some ⟨bx, 0, none⟩), .pointer (some ⟨bn, 0, none⟩)])) (fun _ => true) 1000000000000 where
  eg := enters_of Try.func81 (by kernel_rfl) rfl
  refl w := FrT.refl
  trans a b c h k := h.trans k
  drew w w' h := Fr.drew h
  keep w w' R hf := R.keep hf (fun i hi h => h.elim (hS i hi).2 (fun h => absurd (hS i hi).1 (Nat.not_lt.2 h)))
  qdrew xs w h := ⟨h.1.drew, h.2.1, h.2.2⟩
  call xs y w hq R hl := by
    obtain ⟨h1, h2, h3⟩ := hq
    refine (wrap_is h1 h2 h3 (by rw [List.length_map]; omega) y.1).mono ?_
    rintro e w' ⟨he, hT, hF⟩
    refine ⟨he, ⟨by rw [List.map_append]; exact hT, h2.fr h1.2.1 hF, ?_⟩, hF⟩
    rw [Fr.cell hF (x := ⟨bq, 0, none⟩) (Nat.lt_of_lt_of_le hqB h1.2.1) (fun h => h.elim hqo (fun h => absurd hqB (Nat.not_lt.2 h)))]; exact h3

set_option maxRecDepth 100000 in
/-- 'Ascend' of a set, with the function that 'taker' makes. -/
theorem set_ascend {S : Nat → Prop} {s : Sto It} {l : List It} {bo bx bn : Nat} (m : MapIs 32 S w s l) (hS : ∀ i, S i → i ≠ bo) (hT : Tk w.heap.size bo w []) (hW : Tw w.heap.size bo bx bn w) (hl : l.length ≤ 1000000000000) (x : ByteArray) :
    Calls Try.prog 56 #[.pointer (some ⟨s.m, 0, none⟩), .string x, .func (.func 82) #[] #[.pointer (some ⟨bx, 0, none⟩), .pointer (some ⟨bn, 0, none⟩)]] w
      (fun e w' => e = .returned (.tuple #[]) ∧ Tk (w.heap.size + 1) bo w' ((from_ l (x, ())).map (·.1)) ∧ FrT w.heap.size bo w w') := by
  obtain ⟨w1, hw1⟩ : ∃ w1, w.alloc (.cells #[.func (.func 82) #[] #[.pointer (some ⟨bx, 0, none⟩), .pointer (some ⟨bn, 0, none⟩)]] 36) = w1 := ⟨_, rfl⟩
  have hF1 : Fr (fun _ => False) w w1 := by rw [← hw1]; exact (Fr.refl _ w).alloc _
  have hsz : w1.heap.size = w.heap.size + 1 := by rw [← hw1]; simp
  have hbx := Bx.new w [.func (.func 82) #[] #[.pointer (some ⟨bx, 0, none⟩), .pointer (some ⟨bn, 0, none⟩)]] 36
  have hcq : w1.cell? ⟨w.heap.size, 0, none⟩ = some (.func (.func 82) #[] #[.pointer (some ⟨bx, 0, none⟩), .pointer (some ⟨bn, 0, none⟩)]) := by rw [← hw1]; exact hbx.cell 0 rfl
  have hSB : ∀ i, S i → i < w.heap.size + 1 ∧ i ≠ bo := fun i hi => ⟨by have := m.rep.rep.lt i hi; omega, hS i hi⟩
  have hbo := hT.1
  have hT1 : Tk (w.heap.size + 1) bo w1 [] := by
    obtain ⟨h1, h2, u, g, h3, h4, h5⟩ := hT
    refine ⟨by omega, by omega, u, g, h3.keep hF1 (fun h => h), h4.keep hF1 (fun _ _ h => h), fun b hb => ?_⟩
    have hg := h5 b hb
    rcases h4.2 with ⟨_, _, hgn⟩ | ⟨b', _, hgb, _, _, _, hlt, _⟩
    · rw [hgn] at hb; cases hb
    · rw [hgb] at hb; have := Option.some.inj hb; omega
  have hW1 : Tw (w.heap.size + 1) bo bx bn w1 := by
    obtain ⟨g1, g2, g3, g4, g5, g6⟩ := hW
    exact ⟨by omega, by omega, g3, g4, (hF1.cell (x := ⟨bx, 0, none⟩) g1 (fun h => h)).trans g5, (hF1.cell (x := ⟨bn, 0, none⟩) g2 (fun h => h)).trans g6⟩
  have HC := hidp (Ascend_is (w := w1) (wrap_fn (S := S) (s := s) (B := w.heap.size + 1) (bo := bo) (bx := bx) (bn := bn) (bq := w.heap.size) hSB (by omega) (by omega)) (by decide) (m.keep hF1 (fun _ _ h => h)) ⟨hT1, hW1, hcq⟩ hl (x, ()))
  have HF := hidp hF1
  have hsf : ∀ (a : Addr) (f : Go.Fn) (x y : Array Value) (m : Mode) (w : World), (store a (.func f x y) m).run Try.prog w = stored Try.prog w a (.func f x y) m := fun a f x y m w => run_store Try.prog w a (.func f x y) m rfl
  clear m hT hW hT1 hW1 hbx hF1 hSB hS hcq hsz
  go_enter Try.func56, Try.ntmps56
  go_wp2_with fail
  try rw [hw1]
  refine HC.out.mono ?_
  rintro e w2 ⟨rfl, hQ, hG⟩
  have HX := hidp (And.intro hQ hG)
  clear hQ hG HC
  go_wp2
  go_end0
  obtain ⟨⟨h1, _⟩, h2⟩ := HX.out
  rw [visit_all] at h1
  refine ⟨rfl, by simpa using h1, ?_⟩
  exact (HF.out.mono (fun _ h => h.elim)).trans h2 (fun i hi => .inl (hi.imp id (fun h => by omega)))
end Go.Proofs.Ytceildcbehaoaaa.Bt.T
