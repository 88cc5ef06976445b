/- Maps from strings: Reverse whole; WReverse; turned. -/
import Derived.Test.YtbfaldccnaekeaaBtWx
import Derived.Test.YtbfaldccnaekeaaBtWb
import Derived.Deep.QuietTactic
import Derived.BigQuiet
namespace Go.Proofs.Ytbfaldccnaekeaa.Bt.SI
set_option linter.unusedVariables false
set_option linter.unusedSimpArgs false
open Go Go.RowKit Go.Proofs.Ytbfaldccnaekeaa.Bt
open Go.Proofs.Ytbfaldccnaekeaa.Bt.W (Tk Wf Tw FrT TkPost word_is insW Wds EW grow_is insW_length)

variable {S : Nat → Prop} {w : World} {s : Sto It}

set_option maxHeartbeats 1000000 in
set_option maxRecDepth 100000 in
theorem reverse_is {D B bo bt : Nat} {l : List It} (m : MapIs D S w s l) (hS : ∀ i, S i → i < B ∧ i ≠ bo) (hT : Tk B bo w []) (hW : Wf B bo bt w) (hb : l.length ≤ 1000000000000) :
    Calls Try.prog 113 #[.pointer (some ⟨s.m, 0, none⟩), .func (.func 110) #[] #[.pointer (some ⟨bt, 0, none⟩)], .bool false] w (ScPost B bo w l.reverse) := by
  have m2 := (mcell m.rep).2.2.2.1
  have HT := hidp hT
  rcases m.tree with ⟨hr, rfl⟩ | ⟨h, n, t, ids, hr, T, hd, hok, rfl⟩
  · have c2 : w.cell? ⟨s.m, 2, none⟩ = some (.pointer none) := by rw [m2, hr]; rfl
    clear hr m hW hT m2
    go_enter Try.func113, Try.ntmps113
    go_wp2
    go_end0
    exact ⟨rfl, HT.out, FrT.refl⟩
  · have c2 : w.cell? ⟨s.m, 2, none⟩ = some (.pointer (some ⟨n, 0, none⟩)) := by rw [m2, hr]; rfl
    have HK := hidp (rv_tr h m.rep hS (A := ⟨s.m, 2, none⟩) c2 T hok hT hW (by simpa using hb))
    clear hr m hW hT m2 T hd hok HT
    go_enter Try.func113, Try.ntmps113
    go_wp2_with fail
    refine HK.out.mono ?_
    rintro e w1 ⟨rfl, hT1, hF1⟩
    have HF := hidp (And.intro hT1 hF1)
    clear hT1 hF1
    go_wp2
    go_end0
    exact ⟨rfl, by simpa using HF.out.1, HF.out.2⟩

/-- 'Reverse' -/
theorem Reverse_is {D B bo bt : Nat} {l : List It} (m : MapIs D S w s l) (hS : ∀ i, S i → i < B ∧ i ≠ bo) (hT : Tk B bo w []) (hW : Wf B bo bt w) (hb : l.length ≤ 1000000000000) :
    Calls Try.prog 68 #[.pointer (some ⟨s.m, 0, none⟩), .func (.func 110) #[] #[.pointer (some ⟨bt, 0, none⟩)]] w (ScPost B bo w l.reverse) := by
  have HC := hidp (reverse_is m hS hT hW hb)
  clear m hS hT hW
  go_enter Try.func68, Try.ntmps68
  go_wp2_with fail
  refine HC.out.mono ?_
  rintro e w1 ⟨rfl, hT1, hF1⟩
  have HF := hidp (And.intro hT1 hF1)
  clear hT1 hF1
  go_wp2
  go_end0
  exact ⟨rfl, HF.out.1, HF.out.2⟩

set_option maxHeartbeats 1000000 in
set_option maxRecDepth 100000 in
/-- 'WReverse' -/
theorem wreverse_is {D : Nat} (hD : 2 ≤ D) (hD2 : D ≤ 400) {v : Value} {l : List It} (hv : Wds w v l) (hl : l.length ≤ 4294967296) :
    Calls Try.prog 26 #[.int .i64 D, v, .int .i64 0] w (fun e w' => ∃ u, e = .returned u ∧ Wds w' u (insW l).reverse ∧ Below w.heap.size w w') := by
  have hz : Below w.heap.size w (w.alloc (.cells #[.slice none 0 0] 22)) := (Below.refl _ _).alloc (Nat.le_refl _) _
  have HZ := hidp hz
  have HB := hidp (Bx.new w [.slice none 0 0] 22)
  have HG := hidp (grow_is (w := w.alloc (.cells #[.slice none 0 0] 22)) hD hD2 (hv.below hz) hl)
  clear hv hz
  go_enter Try.func26, Try.ntmps26
  go_wp2_with fail
  refine HG.out.mono ?_
  rintro e w1 ⟨S, s, rfl, hM, hb, hS⟩
  rw [World.size_alloc] at hb hS
  have hs1 : w.heap.size + 1 ≤ w1.heap.size := by have := hb.size; rwa [World.size_alloc] at this
  have HM := hidp (And.intro hM (And.intro hb hS))
  have HWF := hidp (wordsfn_is (w := w1) (bo := w.heap.size) (by omega))
  clear hM hb hS HG
  go_wp2_with fail
  refine HWF.out.mono ?_
  rintro e w2 ⟨bt, rfl, hW, hF⟩
  have hlen : (insW l).length ≤ 1000000000000 := by have := insW_length l; omega
  have hs2 : w1.heap.size ≤ w2.heap.size := hF.size
  have hM2 := HM.out.1.keep hF (fun _ _ h => h)
  have hbx : Bx w1 w.heap.size [.slice none 0 0] := ⟨by omega, fun j v hj => by rw [M_block (HM.out.2.1.block _ (Nat.lt_succ_self _))]; exact HB.out.2 j v hj⟩
  have hT : Tk w2.heap.size w.heap.size w2 [] := ⟨by omega, Nat.le_refl _, _, none, hbx.keep hF (fun h => h), Row.nil _ _, fun b h => by cases h⟩
  have hSS : ∀ i, S i → i < w2.heap.size ∧ i ≠ w.heap.size := fun i hi => ⟨hM2.rep.rep.lt i hi, fun e => by have := HM.out.2.2 i hi; omega⟩
  have HSC := hidp (Reverse_is hM2 hSS hT hW hlen)
  have HF2 := hidp ((HZ.out.trans (HM.out.2.1.mono (by omega))).trans (hF.below (by omega) (fun _ h => h.elim)))
  clear hW hF hlen hM2 hbx hT hSS HWF HM
  go_wp2_with fail
  refine HSC.out.mono ?_
  rintro e w3 ⟨rfl, ⟨_, _, u, g, hu, hr, _⟩, hF3⟩
  have cu := hu.cell 0 rfl
  have HX := hidp (And.intro (Wds.of_row hr) (HF2.out.trans (Fr.below hF3 (by omega) (fun i hi => hi.elim (fun e => by omega) (fun e => by omega)))))
  obtain ⟨a, cap, rfl⟩ := hr.len
  clear hu hr hF3 HSC HF2
  go_wp2
  go_ret
  refine ⟨_, rfl, ?_, HX.out.2⟩
  have h := HX.out.1
  rw [List.length_reverse] at h
  exact h
end Go.Proofs.Ytbfaldccnaekeaa.Bt.SI
