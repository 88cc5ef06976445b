/- Nodes as data: a map that stands on a node. -/
import Derived.Test.YtehnobbiiokcgaaBtNl
namespace Go.Proofs.Ytehnobbiiokcgaa.Bt.ND
set_option linter.unusedVariables false
set_option linter.unusedSimpArgs false
open Go Go.RowKit Go.Proofs.Ytehnobbiiokcgaa.Bt

theorem newMap_raw {w : World} {D : Nat} (h1 : 2 ≤ D) (h2 : D ≤ 1000) : Calls Try.prog 56 #[.int .i64 D] w (fun e w' => ∃ S s, e = .returned (.pointer (some ⟨s.m, 0, none⟩)) ∧ RepS II.E S w' s ∧ s.mp.root = none ∧ s.mp.count = 0 ∧ s.mp.mn = ((D - 1 : Nat) : Int) ∧ s.mp.mx = ((2 * D - 1 : Nat) : Int) ∧ Below w.heap.size w w' ∧ (∀ i, S i → w.heap.size ≤ i)) := by
  have hb := Bx.new w (mapCells II.E (II.noMap w.heap.size).mp) 122
  have ht := bty_alloc_new w (mapCells II.E (II.noMap w.heap.size).mp).toArray 122
  have HN := hidp (II.new_rep hb ht)
  have HI := hidp (II.init_new (II.new_rep hb ht) rfl (d := (D : Int)) (D := D) (.inr ⟨rfl, h1, h2⟩))
  clear hb ht
  go_enter Try.func56, Try.ntmps56
  go_wp2_with fail
  refine HI.out.mono ?_
  rintro e w' ⟨rfl, hE, R⟩
  have HF := hidp (And.intro hE R)
  clear hE R HI
  go_wp2
  go_ret
  refine ⟨(· = w.heap.size), _, rfl, HF.out.2, rfl, rfl, rfl, rfl, ?_, fun i hi => Nat.le_of_eq hi.symm⟩
  exact ((Below.refl _ _).alloc (Nat.le_refl _) _).trans (HF.out.1.below (by rw [World.size_alloc]; omega) (fun i hi => Nat.le_of_eq hi.symm))

/-- A valid node that is not empty. -/
structure VTree (D : Nat) {n : Nat} (t : DT (n + 1)) (h : Nat) : Prop where
  lev : lev (n + 1) t = (h + 1, true)
  fil : filled D 1 (n + 1) t = true
  ris : rising (dAll (n + 1) t)
theorem VTree.ok {D n h : Nat} {t : DT (n + 1)} (v : VTree D t h) : BT.ok (D - 1) (2 * D - 1) 1 h (toBT h (n + 1) t) := toBT_ok h (n + 1) 1 t v.lev v.fil
theorem VTree.all {D n h : Nat} {t : DT (n + 1)} (v : VTree D t h) : BT.all h (toBT h (n + 1) t) = dAll (n + 1) t := toBT_all h (n + 1) t v.lev
theorem VTree.srt {D n h : Nat} {t : DT (n + 1)} (v : VTree D t h) : Srt II.lt (dAll (n + 1) t) := v.ris.imp fun h => by simpa [II.lt] using h
theorem valid_cases {D n : Nat} {t : DT (n + 1)} (h : validB D (n + 1) t = true) : (t.1.length = 0 ∧ t.2.1.length = 0) ∨ (¬ (t.1.length = 0 ∧ t.2.1.length = 0) ∧ ∃ h, VTree D t h) := by
  by_cases h0 : t.1.length = 0 ∧ t.2.1.length = 0
  · exact .inl h0
  · refine .inr ⟨h0, ?_⟩
    have h1 : (t.1.isEmpty && t.2.1.isEmpty || ((lev (n + 1) t).2 && filled D 1 (n + 1) t && decide (rising (dAll (n + 1) t)))) = true := h
    rw [is_empty, is_empty] at h1
    have h2 : (decide (t.1.length = 0) && decide (t.2.1.length = 0)) = false := by
      by_cases h3 : t.1.length = 0
      · rw [decide_eq_false (show ¬ t.2.1.length = 0 from fun h => h0 ⟨h3, h⟩)]; simp
      · rw [decide_eq_false h3]; simp
    rw [h2, Bool.false_or, Bool.and_eq_true, Bool.and_eq_true, decide_eq_true_eq] at h1
    have := lev_pos (n + 1) t h1.1.1
    exact ⟨(lev (n + 1) t).1 - 1, Prod.ext (by show _ = (lev (n + 1) t).1 - 1 + 1; omega) h1.1.1, h1.1.2, h1.2⟩
/-- The map s stands on the node t. -/
structure Stands (D : Nat) {n : Nat} (t : DT (n + 1)) (S : Nat → Prop) (w : World) (s : Sto II.It) : Prop where
  mp : II.MapIs D S w s (dAll (n + 1) t)
  tree : (t.1.length = 0 ∧ t.2.1.length = 0 ∧ s.mp.root = none) ∨ ∃ h m ids, VTree D t h ∧ s.mp.root = some m ∧ Tr s.nd s.mp.iso h m (toBT h (n + 1) t) ids ∧ ids.Nodup

theorem dAll_nil {n : Nat} {t : DT (n + 1)} (h1 : t.1.length = 0) (h2 : t.2.1.length = 0) : dAll (n + 1) t = [] := by
  show weave t.1 (t.2.1.map (dAll n)) = []
  rw [List.eq_nil_of_length_eq_zero h1, List.eq_nil_of_length_eq_zero h2]; rfl

set_option maxHeartbeats 2000000 in
set_option maxRecDepth 100000 in
/-- 'standMap' -/
theorem stand_is {D : Nat} (hD : 2 ≤ D) (hD2 : D ≤ 1000) {n : Nat} {t : DT (n + 1)} (hv : validB D (n + 1) t = true) {w : World} {vi vk : Value} {c : Int} (hN : NodeAt w (n + 1) t vi vk c) (hb : bulk (n + 1) t ≤ 10000000) :
    Calls Try.prog 44 #[.int .i64 D, .agg #[vi, vk, .int .i64 c]] w (fun e w' => ∃ S s, e = .returned (.pointer (some ⟨s.m, 0, none⟩)) ∧ Stands D t S w' s ∧ Below w.heap.size w w' ∧ ∀ i, S i → w.heap.size ≤ i) := by
  obtain ⟨p, hp⟩ : ∃ p, p = t.1.length := ⟨_, rfl⟩
  obtain ⟨q, hq⟩ : ∃ q, q = t.2.1.length := ⟨_, rfl⟩
  obtain ⟨ia, icap, a, cap, hvi, hvk⟩ : ∃ ia icap a cap, vi = .slice ia p icap ∧ vk = .slice a q cap := by
    obtain ⟨hcx, ⟨ia, icap, hvi, _, _⟩, a, cap, hvk, hlc, _⟩ := hN
    exact ⟨ia, icap, a, cap, by rw [hp]; exact hvi, by rw [hq]; exact hvk⟩
  subst hvi; subst hvk
  have HN := hidp hN
  have hB1 := (Below.refl w.heap.size w).alloc (Nat.le_refl _) (.cells #[.slice ia p icap, .slice a q cap, .int .i64 c] 25)
  have hbx := Bx.new w [.slice ia p icap, .slice a q cap, .int .i64 c] 25
  obtain ⟨w1, hw1⟩ : ∃ w1, w1 = w.alloc (.cells #[.slice ia p icap, .slice a q cap, .int .i64 c] 25) := ⟨_, rfl⟩
  have hsz1 : w1.heap.size = w.heap.size + 1 := by rw [hw1]; simp
  have HC1 : Hid (Cells3 w1 w.heap.size (.slice ia p icap) (.slice a q cap) c) := hidp (by rw [hw1]; exact ⟨hbx.cell 0 rfl, hbx.cell 1 rfl, hbx.cell 2 rfl⟩)
  rw [← hw1] at hB1
  have HB1 := hidp hB1
  have HW1 := hidp hw1
  have HM := hidp (newMap_raw (w := w1) hD hD2)
  have hlt0 : w.heap.size < w1.heap.size := by omega
  clear hbx hw1 hB1 hN
  rcases valid_cases hv with ⟨h1, h2⟩ | ⟨h0, h, V⟩
  · rw [← hp] at h1
    rw [← hq] at h2
    have hal := dAll_nil (t := t) (by omega) (by omega)
    have HAL := hidp (And.intro hal (And.intro hp hq))
    subst h1; subst h2
    clear hp hq hal hv
    go_enter Try.func44, Try.ntmps44
    go_wp2_with fail
    rw [← HW1.out]
    refine HM.out.mono ?_
    rintro e w2 ⟨S, s, rfl, R, g1, g2, g3, g4, hb2, hS⟩
    obtain ⟨y0, y1, y2⟩ := HC1.out.below hb2 hlt0
    have HF := hidp (And.intro R (And.intro g1 (And.intro g2 (And.intro g3 (And.intro g4 (And.intro hb2 hS))))))
    clear R g1 g2 g3 g4 hb2 hS HM
    go_wp2
    go_ret
    obtain ⟨R, g1, g2, g3, g4, hb2, hS⟩ := HF.out
    obtain ⟨hal, e1, e2⟩ := HAL.out
    refine ⟨S, s, rfl, ⟨⟨R, by rw [hal]; exact List.Pairwise.nil, by rw [hal]; exact g2, .inr ⟨g3, g4⟩, .inl ⟨g1, hal⟩⟩, .inl ⟨e1.symm, e2.symm, g1⟩⟩, HB1.out.trans (hb2.mono (by omega)), fun i hi => by have := hS i hi; omega⟩
  · have HV := hidp V
    have HP := hidp (And.intro hp hq)
    have hpq : ¬ (p = 0 ∧ q = 0) := by omega
    clear V hp hq hv h0
    by_cases hp0 : p = 0
    · subst hp0
      have hq0 : (0 : Int) < (q : Int) := by omega
      go_enter Try.func44, Try.ntmps44
      go_wp2_with fail
      rw [← HW1.out]
      refine HM.out.mono ?_
      rintro e w2 ⟨S, s, rfl, R, g1, g2, g3, g4, hb2, hS⟩
      obtain ⟨y0, y1, y2⟩ := HC1.out.below hb2 hlt0
      have hb02 : Below w.heap.size w w2 := HB1.out.trans (hb2.mono (by omega))
      have hS2 : ∀ i, S i → w.heap.size ≤ i := fun i hi => by have := hS i hi; omega
      have HPL := hidp (planted_is hD2 (n + 1) h 1 t HV.out.lev HV.out.fil hb HN.out hb02 hS2 R)
      have HG := hidp (And.intro g1 (And.intro g2 (And.intro g3 (And.intro g4 (And.intro hb02 (And.intro hS2 trivial))))))
      clear R g1 g2 g3 g4 hb2 hS HM hb02 hS2
      go_wp2_with fail
      refine HPL.out.mono ?_
      rintro e w3 ⟨S', s', m, ids, rfl, hE, R', e1, e2, T, hd, _, _⟩
      obtain ⟨_, r, hr, _, _, hcnt, _⟩ := T.root
      have hDP := II.doorPlant_is R' hr
      rw [e1] at hDP
      have HDP := hidp hDP
      have HT := hidp (And.intro T (And.intro hd (And.intro hcnt (And.intro e1 (And.intro e2 hE)))))
      clear R' T hd hcnt hr hDP hE HPL
      go_wp2_with fail
      refine HDP.out.mono ?_
      rintro e w4 ⟨rfl, hE4, R4⟩
      have HF := hidp (And.intro hE4 R4)
      clear hE4 R4 HDP
      go_wp2
      go_ret
      obtain ⟨hE4, R4⟩ := HF.out
      obtain ⟨T, hd, hcnt, e1, e2, hE⟩ := HT.out
      obtain ⟨g1, g2, g3, g4, hb02, hS2, _⟩ := HG.out
      refine ⟨S', _, by rw [← e1]; rfl, ⟨⟨R4, HV.out.srt, ?_, .inr ⟨by show s'.mp.mn = _; rw [e2]; exact g3, by show s'.mp.mx = _; rw [e2]; exact g4⟩, .inr ⟨h, m, _, ids, rfl, by show Tr s'.nd s'.mp.iso h m _ ids; rw [e2]; exact T, hd, HV.out.ok, HV.out.all.symm⟩⟩, .inr ⟨h, m, ids, HV.out, rfl, by show Tr s'.nd s'.mp.iso h m _ ids; rw [e2]; exact T, hd⟩⟩, ?_, fun i hi => ?_⟩
      · show r.count = _
        rw [hcnt, HV.out.all]
      · refine hb02.trans (((hE.trans hE4).fr.below hb02.size hS2))
      · rcases hE.new i hi with h | h
        · exact hS2 i h
        · have := hb02.size; omega
    · have hp1 : (0 : Int) < (p : Int) := by omega
      go_enter Try.func44, Try.ntmps44
      go_wp2_with fail
      rw [← HW1.out]
      refine HM.out.mono ?_
      rintro e w2 ⟨S, s, rfl, R, g1, g2, g3, g4, hb2, hS⟩
      obtain ⟨y0, y1, y2⟩ := HC1.out.below hb2 hlt0
      have hb02 : Below w.heap.size w w2 := HB1.out.trans (hb2.mono (by omega))
      have hS2 : ∀ i, S i → w.heap.size ≤ i := fun i hi => by have := hS i hi; omega
      have HPL := hidp (planted_is hD2 (n + 1) h 1 t HV.out.lev HV.out.fil hb HN.out hb02 hS2 R)
      have HG := hidp (And.intro g1 (And.intro g2 (And.intro g3 (And.intro g4 (And.intro hb02 (And.intro hS2 trivial))))))
      clear R g1 g2 g3 g4 hb2 hS HM hb02 hS2
      go_wp2_with fail
      refine HPL.out.mono ?_
      rintro e w3 ⟨S', s', m, ids, rfl, hE, R', e1, e2, T, hd, _, _⟩
      obtain ⟨_, r, hr, _, _, hcnt, _⟩ := T.root
      have hDP := II.doorPlant_is R' hr
      rw [e1] at hDP
      have HDP := hidp hDP
      have HT := hidp (And.intro T (And.intro hd (And.intro hcnt (And.intro e1 (And.intro e2 hE)))))
      clear R' T hd hcnt hr hDP hE HPL
      go_wp2_with fail
      refine HDP.out.mono ?_
      rintro e w4 ⟨rfl, hE4, R4⟩
      have HF := hidp (And.intro hE4 R4)
      clear hE4 R4 HDP
      go_wp2
      go_ret
      obtain ⟨hE4, R4⟩ := HF.out
      obtain ⟨T, hd, hcnt, e1, e2, hE⟩ := HT.out
      obtain ⟨g1, g2, g3, g4, hb02, hS2, _⟩ := HG.out
      refine ⟨S', _, by rw [← e1]; rfl, ⟨⟨R4, HV.out.srt, ?_, .inr ⟨by show s'.mp.mn = _; rw [e2]; exact g3, by show s'.mp.mx = _; rw [e2]; exact g4⟩, .inr ⟨h, m, _, ids, rfl, by show Tr s'.nd s'.mp.iso h m _ ids; rw [e2]; exact T, hd, HV.out.ok, HV.out.all.symm⟩⟩, .inr ⟨h, m, ids, HV.out, rfl, by show Tr s'.nd s'.mp.iso h m _ ids; rw [e2]; exact T, hd⟩⟩, ?_, fun i hi => ?_⟩
      · show r.count = _
        rw [hcnt, HV.out.all]
      · refine hb02.trans (((hE.trans hE4).fr.below hb02.size hS2))
      · rcases hE.new i hi with h | h
        · exact hS2 i h
        · have := hb02.size; omega
end Go.Proofs.Ytehnobbiiokcgaa.Bt.ND
