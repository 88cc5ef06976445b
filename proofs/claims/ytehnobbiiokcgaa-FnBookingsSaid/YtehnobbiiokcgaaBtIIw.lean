/- Maps from numbers to numbers: NewMap, and KeyValues whole. -/
import Derived.Test.YtehnobbiiokcgaaBtIIv
import Derived.Test.YtehnobbiiokcgaaBtIIq
import Derived.Test.YtehnobbiiokcgaaBtIIj
namespace Go.Proofs.Ytehnobbiiokcgaa.Bt.II
set_option linter.unusedVariables false
set_option linter.unusedSimpArgs false
open Go Go.RowKit Go.Proofs.Ytehnobbiiokcgaa.Bt

variable {S : Nat → Prop} {w : World} {s : Sto It}

/-- 'NewMap' -/
theorem newMap_is {D : Nat} (h1 : 2 ≤ D) (h2 : D ≤ 1000) : Calls Try.prog 56 #[.int .i64 D] w (fun e w' => ∃ S s, e = .returned (.pointer (some ⟨s.m, 0, none⟩)) ∧ MapIs D S w' s [] ∧ Below w.heap.size w w' ∧ (∀ i, S i → w.heap.size ≤ i) ∧ s.m = w.heap.size) := by
  have hb := Bx.new w (mapCells E (noMap w.heap.size).mp) 122
  have ht := bty_alloc_new w (mapCells E (noMap w.heap.size).mp).toArray 122
  have HN := hidp (new_rep hb ht)
  have HI := hidp (init_new (new_rep hb ht) rfl (d := (D : Int)) (D := D) (.inr ⟨rfl, h1, h2⟩))
  clear hb ht
  go_enter Try.func56, Try.ntmps56
  go_wp2_with fail
  refine HI.out.mono ?_
  rintro e w' ⟨rfl, hE, R⟩
  have HF := hidp (And.intro hE R)
  clear hE R HI
  go_wp2
  go_ret
  refine ⟨(· = w.heap.size), _, rfl, ⟨HF.out.2, List.Pairwise.nil, rfl, .inr ⟨rfl, rfl⟩, .inl ⟨rfl, rfl⟩⟩, ?_, fun i hi => Nat.le_of_eq hi.symm, rfl⟩
  exact ((Below.refl _ _).alloc (Nat.le_refl _) _).trans (HF.out.1.below (by rw [World.size_alloc]; omega) (fun i hi => Nat.le_of_eq hi.symm))

/-- A row that was made without elements. -/
theorem Row.of_made {B : Nat} {w : World} {e : TypeId} {g cap : Nat} (h : w.ownsRow B e 1 (.slice (some ⟨g, 0, none⟩) 0 cap) 0 []) : Row 1 w (.slice (some ⟨g, 0, none⟩) 0 cap) 0 [] (some g) ∧ B ≤ g := by
  obtain ⟨_, h⟩ := h
  rcases h with ⟨h, _⟩ | ⟨g', cap', cur, e1, hB, hg, hc, hm, hs, ht⟩
  · cases h
  · injection e1 with e1 _ e3
    injection e1 with e1; injection e1 with e1 _
    subst e1; subst e3
    have hM : ∀ j, M w g j = cur[j]? := fun j => by
      unfold M
      have h1 : w.frozen? ⟨g, j, none⟩ = false := by simp [World.frozen?, hg]
      have h2 : w.cell? ⟨g, j, none⟩ = cur[j]? := by simp [World.cell?, hg]
      rw [h1, h2]; rfl
    refine ⟨⟨by simp, .inr ⟨g, cap, rfl, rfl, hc, hm, (Array.getElem?_eq_some_iff.1 hg).1, by simp, fun j hj => ?_, fun j v hv => by simp at hv⟩⟩, hB⟩
    have hj' : j < cur.size := by rw [hs]; exact hj
    show (M w g (0 + j)).isSome = true
    rw [Nat.zero_add, hM, Array.getElem?_eq_getElem hj']; rfl

set_option maxHeartbeats 1000000 in
set_option maxRecDepth 100000 in
/-- 'keyValues' -/
theorem keyValues_is {D : Nat} {l : List It} (m : MapIs D S w s l) (hb : l.length ≤ 1000000000000) : Calls Try.prog 77 #[.pointer (some ⟨s.m, 0, none⟩), .bool false] w (KVPost w.heap.size w (kv l) (vv l)) := by
  have HM := hidp m
  obtain ⟨hmlt, _⟩ := mcell m.rep
  obtain ⟨i0, hi0, hz0, hz1, hz2⟩ := info_parts infoKey
  obtain ⟨j0, hj0, hy0, hy1, hy2⟩ := info_parts infoVal
  have HI0 := hidp hi0
  have HZ0 := hidp hz0
  have HZ1 := hidp hz1
  have HZ2 := hidp hz2
  have HJ0 := hidp hj0
  have HY0 := hidp hy0
  have HY1 := hidp hy1
  have HY2 := hidp hy2
  have HLE : Hid (∀ w1, Below w.heap.size w w1 → Calls Try.prog 46 #[.pointer (some ⟨s.m, 0, none⟩)] w1 (fun e w' => e = .returned (.int .i64 l.length) ∧ w1 = w')) := hidp fun w1 hb => by
    have h := len_is (HM.out.rep.below hb HM.out.rep.rep.lt)
    rw [HM.out.cnt] at h; exact h
  clear m hi0 hz0 hz1 hz2 hj0 hy0 hy1 hy2
  have m2 := (mcell HM.out.rep).2.2.2.1
  have HMM := hidp m2
  clear m2
  go_enter Try.func77, Try.ntmps77
  go_wp2_with fail
  refine (HLE.out w (Below.refl _ _)).mono ?_
  rintro e w' ⟨rfl, rfl⟩
  go_wp2_with (at_make; refine wpList_make_own _ rfl _ _ 30 rfl w.heap.size 3 i0 _ 1 Try.underlying30 HI0.out HZ0.out HZ1.out .i64 .i64 _ l.length rfl rfl rfl (by rw [HZ2.out]; omega) (by unfold maxLen; omega) (Nat.le_refl _) ?_)
  intro w1 hown hgrow
  have hbl : Below w.heap.size w w1 := (Below.refl _ _).grown hgrow (Nat.le_refl _) (fun k hk => by cases hk)
  obtain ⟨hr1, hg1⟩ := Row.of_made hown
  have HG := hidp (And.intro hr1 (And.intro hg1 hbl))
  have hs1 : w.heap.size < w1.heap.size := hr1.lt
  clear hown hgrow hbl hr1 hg1
  go_wp2_with fail
  refine (HLE.out w1 HG.out.2.2).mono ?_
  rintro e w' ⟨rfl, rfl⟩
  go_wp2_with (at_make; refine wpList_make_own _ rfl _ _ 30 rfl w1.heap.size 3 j0 _ 1 Try.underlying30 HJ0.out HY0.out HY1.out .i64 .i64 _ l.length rfl rfl rfl (by rw [HY2.out]; omega) (by unfold maxLen; omega) (Nat.le_refl _) ?_)
  intro w2 hown hgrow
  have hbl : Below w1.heap.size w1 w2 := (Below.refl _ _).grown hgrow (Nat.le_refl _) (fun k hk => by cases hk)
  obtain ⟨hr2, hg2⟩ := Row.of_made hown
  have hk1 : Row 1 w2 _ 0 [] (some w.heap.size) := HG.out.1.keep (S := fun i => w1.heap.size ≤ i) ⟨hbl.os, hbl.tape, hbl.output, hbl.size, fun k hk hn => hbl.block k (by omega), fun k hk => bty_eq (hbl.block k hk)⟩ (fun b e h => by have := Option.some.inj e; omega)
  have HX : Hid (Rows2 w.heap.size w2 (.slice (some ⟨w.heap.size, 0, none⟩) 0 l.length) (.slice (some ⟨w1.heap.size, 0, none⟩) 0 l.length) [] [] ∧ Below w.heap.size w w2) := hidp ⟨⟨w.heap.size, w1.heap.size, hk1, hr2, by omega, Nat.le_refl _, by omega⟩, HG.out.2.2.trans (hbl.mono (by omega))⟩
  have c2 : w2.cell? ⟨s.m, 2, none⟩ = some (pv s.mp.root) := (HX.out.2.cell (p := ⟨s.m, 2, none⟩) hmlt).trans HMM.out
  have HC := hidp c2
  clear hown hgrow hbl hr2 hg2 hk1 HG c2 hs1
  rcases HM.out.tree with ⟨hr, hl⟩ | ⟨h, n, t, ids, hr, T, hd, hok, hl⟩
  · have c2' : w2.cell? ⟨s.m, 2, none⟩ = some (.pointer none) := by rw [HC.out, hr]; rfl
    have HL := hidp hl
    clear hr hl
    go_wp2
    go_ret2
    have hkv : kv l = [] := by rw [HL.out]; rfl
    have hvv : vv l = [] := by rw [HL.out]; rfl
    rw [hkv, hvv]
    exact ⟨_, _, rfl, HX.out.1, HX.out.2⟩
  · have c2' : w2.cell? ⟨s.m, 2, none⟩ = some (.pointer (some ⟨n, 0, none⟩)) := by rw [HC.out, hr]; rfl
    have HL := hidp hl
    have HT := hidp (And.intro T hok)
    clear hr hl T hd hok
    have m1 := HM.out.rep.below HX.out.2 HM.out.rep.rep.lt
    have HK := hidp (kv_tr h m1 HM.out.rep.rep.lt HX.out.2.size (A := ⟨s.m, 2, none⟩) c2' HT.out.1 HT.out.2 HX.out.1 rfl (by rw [← HL.out]; simpa using hb))
    clear m1
    go_wp2_with fail
    refine HK.out.mono ?_
    rintro e w3 ⟨u3, v3, rfl, hown3, hbl3⟩
    have HF := hidp (And.intro hown3 (HX.out.2.trans hbl3))
    clear hown3 hbl3 HK
    go_wp2
    go_ret2
    rw [HL.out]
    exact ⟨u3, v3, rfl, HF.out.1, HF.out.2⟩

/-- 'KeyValues' -/
theorem KeyValues_is {D : Nat} {l : List It} (m : MapIs D S w s l) (hb : l.length ≤ 1000000000000) : Calls Try.prog 45 #[.pointer (some ⟨s.m, 0, none⟩)] w (KVPost w.heap.size w (kv l) (vv l)) := by
  have HC := hidp (keyValues_is m hb)
  clear m
  go_enter Try.func45, Try.ntmps45
  go_wp2_with fail
  refine HC.out.mono ?_
  rintro e w2 ⟨u2, v2, rfl, hown2, hbl2⟩
  have HF := hidp (And.intro hown2 hbl2)
  clear hown2 hbl2
  go_wp2
  go_ret2
  exact ⟨u2, v2, rfl, HF.out.1, HF.out.2⟩
end Go.Proofs.Ytehnobbiiokcgaa.Bt.II
