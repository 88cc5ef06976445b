/- Nodes as data: a map that stands on a node. Nodes as data: DKeyValues, NodeHeight, and what the laws ask. Nodes as data: the tree of three items, and what the laws ask. -/
import Derived.Test.YtehnobbiiokcgaaBtNl
namespace Go.Proofs.Ytehnobbiiokcgaa.Bt.ND
set_option linter.unusedVariables false
set_option linter.unusedSimpArgs false
open Go Go.RowKit Go.Proofs.Ytehnobbiiokcgaa.Bt

theorem newMap_raw {w : World} {D : Nat} (h1 : 2 ≤ D) (h2 : D ≤ 1000) : Calls Try.prog 56 #[.int .i64 D] w (fun e w' => ∃ S s, e = .returned (.pointer (some ⟨s.m, 0, none⟩)) ∧ RepS II.E S w' s ∧ s.mp.root = none ∧ s.mp.count = 0 ∧ s.mp.mn = ((D - 1 : Nat) : Int) ∧ s.mp.mx = ((2 * D - 1 : Nat) : Int) ∧ Below w.heap.size w w' ∧ (∀ i, S i → w.heap.size ≤ i)) := by
  have hb := Bx.new w (mapCells II.E (II.noMap w.heap.size).mp) 122
  have ht := bty_alloc_new w (mapCells II.E (II.noMap w.heap.size).mp).toArray 122
  have HN := hidp (II.new_rep hb ht)
  have HI := hidp (II.init_new (II.new_rep hb ht) rfl (d := (D : Int)) (D := D) (.inr ⟨rfl, h1, h2⟩))
  clear hb ht
  go_enter Try.func56, Try.ntmps56
  go_wp2_with fail
  refine HI.out.mono ?_
  rintro e w' ⟨rfl, hE, R⟩
  have HF := hidp (And.intro hE R)
  clear hE R HI
  go_wp2
  go_ret
  refine ⟨(· = w.heap.size), _, rfl, HF.out.2, rfl, rfl, rfl, rfl, ?_, fun i hi => Nat.le_of_eq hi.symm⟩
  exact ((Below.refl _ _).alloc (Nat.le_refl _) _).trans (HF.out.1.below (by rw [World.size_alloc]; omega) (fun i hi => Nat.le_of_eq hi.symm))

/-- A valid node that is not empty. -/
structure VTree (D : Nat) {n : Nat} (t : DT (n + 1)) (h : Nat) : Prop where
  lev : lev (n + 1) t = (h + 1, true)
  fil : filled D 1 (n + 1) t = true
  ris : rising (dAll (n + 1) t)
theorem VTree.ok {D n h : Nat} {t : DT (n + 1)} (v : VTree D t h) : BT.ok (D - 1) (2 * D - 1) 1 h (toBT h (n + 1) t) := toBT_ok h (n + 1) 1 t v.lev v.fil
theorem VTree.all {D n h : Nat} {t : DT (n + 1)} (v : VTree D t h) : BT.all h (toBT h (n + 1) t) = dAll (n + 1) t := toBT_all h (n + 1) t v.lev
theorem VTree.srt {D n h : Nat} {t : DT (n + 1)} (v : VTree D t h) : Srt II.lt (dAll (n + 1) t) := v.ris.imp fun h => by simpa [II.lt] using h
theorem valid_cases {D n : Nat} {t : DT (n + 1)} (h : validB D (n + 1) t = true) : (t.1.length = 0 ∧ t.2.1.length = 0) ∨ (¬ (t.1.length = 0 ∧ t.2.1.length = 0) ∧ ∃ h, VTree D t h) := by
  by_cases h0 : t.1.length = 0 ∧ t.2.1.length = 0
  · exact .inl h0
  · refine .inr ⟨h0, ?_⟩
    have h1 : (t.1.isEmpty && t.2.1.isEmpty || ((lev (n + 1) t).2 && filled D 1 (n + 1) t && decide (rising (dAll (n + 1) t)))) = true := h
    rw [is_empty, is_empty] at h1
    have h2 : (decide (t.1.length = 0) && decide (t.2.1.length = 0)) = false := by
      by_cases h3 : t.1.length = 0
      · rw [decide_eq_false (show ¬ t.2.1.length = 0 from fun h => h0 ⟨h3, h⟩)]; simp
      · rw [decide_eq_false h3]; simp
    rw [h2, Bool.false_or, Bool.and_eq_true, Bool.and_eq_true, decide_eq_true_eq] at h1
    have := lev_pos (n + 1) t h1.1.1
    exact ⟨(lev (n + 1) t).1 - 1, Prod.ext (by show _ = (lev (n + 1) t).1 - 1 + 1; omega) h1.1.1, h1.1.2, h1.2⟩
/-- The map s stands on the node t. -/
structure Stands (D : Nat) {n : Nat} (t : DT (n + 1)) (S : Nat → Prop) (w : World) (s : Sto II.It) : Prop where
  mp : II.MapIs D S w s (dAll (n + 1) t)
  tree : (t.1.length = 0 ∧ t.2.1.length = 0 ∧ s.mp.root = none) ∨ ∃ h m ids, VTree D t h ∧ s.mp.root = some m ∧ Tr s.nd s.mp.iso h m (toBT h (n + 1) t) ids ∧ ids.Nodup

theorem dAll_nil {n : Nat} {t : DT (n + 1)} (h1 : t.1.length = 0) (h2 : t.2.1.length = 0) : dAll (n + 1) t = [] := by
  show weave t.1 (t.2.1.map (dAll n)) = []
  rw [List.eq_nil_of_length_eq_zero h1, List.eq_nil_of_length_eq_zero h2]; rfl

set_option maxHeartbeats 2000000 in
set_option maxRecDepth 100000 in
/-- 'standMap' -/
theorem stand_is {D : Nat} (hD : 2 ≤ D) (hD2 : D ≤ 1000) {n : Nat} {t : DT (n + 1)} (hv : validB D (n + 1) t = true) {w : World} {vi vk : Value} {c : Int} (hN : NodeAt w (n + 1) t vi vk c) (hb : bulk (n + 1) t ≤ 10000000) :
    Calls Try.prog 44 #[.int .i64 D, .agg #[vi, vk, .int .i64 c]] w (fun e w' => ∃ S s, e = .returned (.pointer (some ⟨s.m, 0, none⟩)) ∧ Stands D t S w' s ∧ Below w.heap.size w w' ∧ ∀ i, S i → w.heap.size ≤ i) := by
  obtain ⟨p, hp⟩ : ∃ p, p = t.1.length := ⟨_, rfl⟩
  obtain ⟨q, hq⟩ : ∃ q, q = t.2.1.length := ⟨_, rfl⟩
  obtain ⟨ia, icap, a, cap, hvi, hvk⟩ : ∃ ia icap a cap, vi = .slice ia p icap ∧ vk = .slice a q cap := by
    obtain ⟨hcx, ⟨ia, icap, hvi, _, _⟩, a, cap, hvk, hlc, _⟩ := hN
    exact ⟨ia, icap, a, cap, by rw [hp]; exact hvi, by rw [hq]; exact hvk⟩
  subst hvi; subst hvk
  have HN := hidp hN
  have hB1 := (Below.refl w.heap.size w).alloc (Nat.le_refl _) (.cells #[.slice ia p icap, .slice a q cap, .int .i64 c] 25)
  have hbx := Bx.new w [.slice ia p icap, .slice a q cap, .int .i64 c] 25
  obtain ⟨w1, hw1⟩ : ∃ w1, w1 = w.alloc (.cells #[.slice ia p icap, .slice a q cap, .int .i64 c] 25) := ⟨_, rfl⟩
  have hsz1 : w1.heap.size = w.heap.size + 1 := by rw [hw1]; simp
  have HC1 : Hid (Cells3 w1 w.heap.size (.slice ia p icap) (.slice a q cap) c) := hidp (by rw [hw1]; exact ⟨hbx.cell 0 rfl, hbx.cell 1 rfl, hbx.cell 2 rfl⟩)
  rw [← hw1] at hB1
  have HB1 := hidp hB1
  have HW1 := hidp hw1
  have HM := hidp (newMap_raw (w := w1) hD hD2)
  have hlt0 : w.heap.size < w1.heap.size := by omega
  clear hbx hw1 hB1 hN
  rcases valid_cases hv with ⟨h1, h2⟩ | ⟨h0, h, V⟩
  · rw [← hp] at h1
    rw [← hq] at h2
    have hal := dAll_nil (t := t) (by omega) (by omega)
    have HAL := hidp (And.intro hal (And.intro hp hq))
    subst h1; subst h2
    clear hp hq hal hv
    go_enter Try.func44, Try.ntmps44
    go_wp2_with fail
    rw [← HW1.out]
    refine HM.out.mono ?_
    rintro e w2 ⟨S, s, rfl, R, g1, g2, g3, g4, hb2, hS⟩
    obtain ⟨y0, y1, y2⟩ := HC1.out.below hb2 hlt0
    have HF := hidp (And.intro R (And.intro g1 (And.intro g2 (And.intro g3 (And.intro g4 (And.intro hb2 hS))))))
    clear R g1 g2 g3 g4 hb2 hS HM
    go_wp2
    go_ret
    obtain ⟨R, g1, g2, g3, g4, hb2, hS⟩ := HF.out
    obtain ⟨hal, e1, e2⟩ := HAL.out
    refine ⟨S, s, rfl, ⟨⟨R, by rw [hal]; exact List.Pairwise.nil, by rw [hal]; exact g2, .inr ⟨g3, g4⟩, .inl ⟨g1, hal⟩⟩, .inl ⟨e1.symm, e2.symm, g1⟩⟩, HB1.out.trans (hb2.mono (by omega)), fun i hi => by have := hS i hi; omega⟩
  · have HV := hidp V
    have HP := hidp (And.intro hp hq)
    have hpq : ¬ (p = 0 ∧ q = 0) := by omega
    clear V hp hq hv h0
    by_cases hp0 : p = 0
    · subst hp0
      have hq0 : (0 : Int) < (q : Int) := by omega
      go_enter Try.func44, Try.ntmps44
      go_wp2_with fail
      rw [← HW1.out]
      refine HM.out.mono ?_
      rintro e w2 ⟨S, s, rfl, R, g1, g2, g3, g4, hb2, hS⟩
      obtain ⟨y0, y1, y2⟩ := HC1.out.below hb2 hlt0
      have hb02 : Below w.heap.size w w2 := HB1.out.trans (hb2.mono (by omega))
      have hS2 : ∀ i, S i → w.heap.size ≤ i := fun i hi => by have := hS i hi; omega
      have HPL := hidp (planted_is hD2 (n + 1) h 1 t HV.out.lev HV.out.fil hb HN.out hb02 hS2 R)
      have HG := hidp (And.intro g1 (And.intro g2 (And.intro g3 (And.intro g4 (And.intro hb02 (And.intro hS2 trivial))))))
      clear R g1 g2 g3 g4 hb2 hS HM hb02 hS2
      go_wp2_with fail
      refine HPL.out.mono ?_
      rintro e w3 ⟨S', s', m, ids, rfl, hE, R', e1, e2, T, hd, _, _⟩
      obtain ⟨_, r, hr, _, _, hcnt, _⟩ := T.root
      have hDP := II.doorPlant_is R' hr
      rw [e1] at hDP
      have HDP := hidp hDP
      have HT := hidp (And.intro T (And.intro hd (And.intro hcnt (And.intro e1 (And.intro e2 hE)))))
      clear R' T hd hcnt hr hDP hE HPL
      go_wp2_with fail
      refine HDP.out.mono ?_
      rintro e w4 ⟨rfl, hE4, R4⟩
      have HF := hidp (And.intro hE4 R4)
      clear hE4 R4 HDP
      go_wp2
      go_ret
      obtain ⟨hE4, R4⟩ := HF.out
      obtain ⟨T, hd, hcnt, e1, e2, hE⟩ := HT.out
      obtain ⟨g1, g2, g3, g4, hb02, hS2, _⟩ := HG.out
      refine ⟨S', _, by rw [← e1]; rfl, ⟨⟨R4, HV.out.srt, ?_, .inr ⟨by show s'.mp.mn = _; rw [e2]; exact g3, by show s'.mp.mx = _; rw [e2]; exact g4⟩, .inr ⟨h, m, _, ids, rfl, by show Tr s'.nd s'.mp.iso h m _ ids; rw [e2]; exact T, hd, HV.out.ok, HV.out.all.symm⟩⟩, .inr ⟨h, m, ids, HV.out, rfl, by show Tr s'.nd s'.mp.iso h m _ ids; rw [e2]; exact T, hd⟩⟩, ?_, fun i hi => ?_⟩
      · show r.count = _
        rw [hcnt, HV.out.all]
      · refine hb02.trans (((hE.trans hE4).fr.below hb02.size hS2))
      · rcases hE.new i hi with h | h
        · exact hS2 i h
        · have := hb02.size; omega
    · have hp1 : (0 : Int) < (p : Int) := by omega
      go_enter Try.func44, Try.ntmps44
      go_wp2_with fail
      rw [← HW1.out]
      refine HM.out.mono ?_
      rintro e w2 ⟨S, s, rfl, R, g1, g2, g3, g4, hb2, hS⟩
      obtain ⟨y0, y1, y2⟩ := HC1.out.below hb2 hlt0
      have hb02 : Below w.heap.size w w2 := HB1.out.trans (hb2.mono (by omega))
      have hS2 : ∀ i, S i → w.heap.size ≤ i := fun i hi => by have := hS i hi; omega
      have HPL := hidp (planted_is hD2 (n + 1) h 1 t HV.out.lev HV.out.fil hb HN.out hb02 hS2 R)
      have HG := hidp (And.intro g1 (And.intro g2 (And.intro g3 (And.intro g4 (And.intro hb02 (And.intro hS2 trivial))))))
      clear R g1 g2 g3 g4 hb2 hS HM hb02 hS2
      go_wp2_with fail
      refine HPL.out.mono ?_
      rintro e w3 ⟨S', s', m, ids, rfl, hE, R', e1, e2, T, hd, _, _⟩
      obtain ⟨_, r, hr, _, _, hcnt, _⟩ := T.root
      have hDP := II.doorPlant_is R' hr
      rw [e1] at hDP
      have HDP := hidp hDP
      have HT := hidp (And.intro T (And.intro hd (And.intro hcnt (And.intro e1 (And.intro e2 hE)))))
      clear R' T hd hcnt hr hDP hE HPL
      go_wp2_with fail
      refine HDP.out.mono ?_
      rintro e w4 ⟨rfl, hE4, R4⟩
      have HF := hidp (And.intro hE4 R4)
      clear hE4 R4 HDP
      go_wp2
      go_ret
      obtain ⟨hE4, R4⟩ := HF.out
      obtain ⟨T, hd, hcnt, e1, e2, hE⟩ := HT.out
      obtain ⟨g1, g2, g3, g4, hb02, hS2, _⟩ := HG.out
      refine ⟨S', _, by rw [← e1]; rfl, ⟨⟨R4, HV.out.srt, ?_, .inr ⟨by show s'.mp.mn = _; rw [e2]; exact g3, by show s'.mp.mx = _; rw [e2]; exact g4⟩, .inr ⟨h, m, _, ids, rfl, by show Tr s'.nd s'.mp.iso h m _ ids; rw [e2]; exact T, hd, HV.out.ok, HV.out.all.symm⟩⟩, .inr ⟨h, m, ids, HV.out, rfl, by show Tr s'.nd s'.mp.iso h m _ ids; rw [e2]; exact T, hd⟩⟩, ?_, fun i hi => ?_⟩
      · show r.count = _
        rw [hcnt, HV.out.all]
      · refine hb02.trans (((hE.trans hE4).fr.below hb02.size hS2))
      · rcases hE.new i hi with h | h
        · exact hS2 i h
        · have := hb02.size; omega
end Go.Proofs.Ytehnobbiiokcgaa.Bt.ND

namespace Go.Proofs.Ytehnobbiiokcgaa.Bt.ND
set_option linter.unusedVariables false
set_option linter.unusedSimpArgs false
open Go Go.RowKit Go.Proofs.Ytehnobbiiokcgaa.Bt

/-- The height of the tree of a root. -/
def hgt {n : Nat} (t : DT (n + 1)) : Nat := if t.1.length = 0 then 0 else (lev (n + 1) t).1
theorem VTree.hgt {D n h : Nat} {t : DT (n + 1)} (v : VTree D t h) : hgt t = h + 1 := by
  have h1 := v.fil
  unfold filled at h1
  rw [Bool.and_eq_true, Bool.and_eq_true, decide_eq_true_eq, decide_eq_true_eq] at h1
  unfold ND.hgt
  rw [if_neg (by omega), v.lev]
theorem Stands.below {D n : Nat} {t : DT (n + 1)} {S : Nat → Prop} {w w' : World} {s : Sto II.It} (h : Stands D t S w s) (hb : Below w.heap.size w w') : Stands D t S w' s :=
  ⟨⟨h.mp.rep.below hb h.mp.rep.rep.lt, h.mp.srt, h.mp.cnt, h.mp.mm, h.mp.tree⟩, h.tree⟩
theorem lev_bulk : ∀ (n : Nat) (t : DT n), (lev n t).1 ≤ bulk n t
  | 0, _ => Nat.zero_le _
  | n + 1, t => by
    show _ ≤ 1 + t.1.length + (t.2.1.map (bulk n)).sum
    cases hk : t.2.1 with
    | nil => unfold lev; rw [hk]; simp only; omega
    | cons k ks =>
      rw [lev_cons hk]
      split
      · have := lev_bulk n k
        simp only [List.map_cons, List.sum_cons]; omega
      · simp
theorem height_is {D n : Nat} {t : DT (n + 1)} {S : Nat → Prop} {w : World} {s : Sto II.It} (h : Stands D t S w s) (hb : bulk (n + 1) t ≤ 10000000) :
    Calls Try.prog 47 #[.pointer (some ⟨s.m, 0, none⟩)] w (fun e w' => e = .returned (.int .i64 (hgt t : Nat)) ∧ w' = w) := by
  rcases h.tree with ⟨h1, h2, h3⟩ | ⟨k, m, ids, V, hr, T, _⟩
  · have e : hgt t = 0 := by unfold hgt; rw [if_pos h1]
    rw [e]
    exact II.height_nil h.mp.rep h3
  · have e : hgt t = k + 1 := V.hgt
    rw [e]
    have hl := lev_bulk (n + 1) t
    rw [V.lev] at hl
    exact II.height_tr h.mp.rep hr T V.ok (by simp only at hl; omega)

set_option maxHeartbeats 2000000 in
set_option maxRecDepth 100000 in
/-- 'DKeyValues' -/
theorem dkv_is {D : Nat} (hD : 2 ≤ D) (hD2 : D ≤ 1000) {n : Nat} {t : DT (n + 1)} (hv : validB D (n + 1) t = true) {w : World} {vi vk : Value} {c : Int} (hN : NodeAt w (n + 1) t vi vk c) (hb : bulk (n + 1) t ≤ 10000000) :
    Calls Try.prog 15 #[.int .i64 D, .agg #[vi, vk, .int .i64 c]] w (fun e w' => ∃ u v, e = .returned (.tuple #[u, v, .int .i64 (dAll (n + 1) t).length, .int .i64 (hgt t : Nat)]) ∧ II.Rows2 w.heap.size w' u v (II.kv (dAll (n + 1) t)) (II.vv (dAll (n + 1) t)) ∧ Below w.heap.size w w') := by
  obtain ⟨⟨i1, i2, icap, rfl⟩, q1, q2, kcap, rfl⟩ := hN.vals
  have hB1 := (Below.refl w.heap.size w).alloc (Nat.le_refl _) (.cells #[.slice i1 i2 icap, .slice q1 q2 kcap, .int .i64 c] 25)
  have hlen : (dAll (n + 1) t).length ≤ 10000000 := by have := dAll_bulk (n + 1) t; omega
  have HST := hidp (stand_is hD hD2 hv (hN.below hB1) (by omega))
  have HB1 := hidp hB1
  have hsz : w.heap.size ≤ (w.alloc (.cells #[.slice i1 i2 icap, .slice q1 q2 kcap, .int .i64 c] 25)).heap.size := by rw [World.size_alloc]; omega
  clear hN hB1 hv
  go_enter Try.func15, Try.ntmps15
  go_wp2_with fail
  refine HST.out.mono ?_
  rintro e w2 ⟨S, s, rfl, St, hb2, _⟩
  have hB2 : Below w.heap.size w w2 := HB1.out.trans (hb2.mono hsz)
  have HS := hidp St
  have HB2 := hidp hB2
  have HKV := hidp (II.KeyValues_is St.mp (by omega))
  clear St hb2 hB2 HST
  go_wp2_with fail
  refine HKV.out.mono ?_
  rintro e w3 ⟨u, v, rfl, hrows, hb3⟩
  have hS3 := HS.out.below hb3
  have HS3 := hidp hS3
  have HR3 := hidp (And.intro hrows (HB2.out.trans (hb3.mono HB2.out.size)))
  have hL := II.len_is hS3.mp.rep
  rw [hS3.mp.cnt] at hL
  have HL := hidp hL
  clear hrows hb3 hS3 hL HKV HS
  go_wp2_with fail
  refine HL.out.mono ?_
  rintro e w' ⟨rfl, rfl⟩
  have HH := hidp (height_is HS3.out hb)
  go_wp2_with fail
  refine HH.out.mono ?_
  rintro e w' ⟨rfl, rfl⟩
  go_wp2
  refine bodyPost_ret (v := .tuple #[u, v, .int .i64 (dAll (n + 1) t).length, .int .i64 (hgt t : Nat)]) (by simp [results, Try.results15, go_sem]) rfl ?_
  obtain ⟨g1, g2, r1, r2, hne, h1, h2⟩ := HR3.out.1
  have hsz2 := HB2.out.size
  exact ⟨u, v, rfl, ⟨g1, g2, r1, r2, hne, by omega, by omega⟩, HR3.out.2⟩
end Go.Proofs.Ytehnobbiiokcgaa.Bt.ND

namespace Go.Proofs.Ytehnobbiiokcgaa.Bt.ND
set_option linter.unusedVariables false
set_option linter.unusedSimpArgs false
open Go Go.RowKit Go.Proofs.Ytehnobbiiokcgaa.Bt

def exT : DT 2 := ([(4, 1)], [([(2, 2)], [], 0), ([(6, 3)], [], 0)], 0)
theorem bx_at {w : World} {k : Nat} (h : w.heap.size = k) (c : List Value) (t : TypeId) : Bx (w.alloc (.cells c.toArray t)) k c := h ▸ Bx.new w c t
theorem its_one {w : World} {b : Nat} {x : Im} (h : Bx w b [.int .i64 x.1, .int .i64 x.2]) : Its w (.slice (some ⟨b, 0, none⟩) 1 1) [x] :=
  ⟨_, 1, rfl, Nat.le_refl _, fun j y hj => by
    cases j with
    | zero =>
      obtain rfl := Option.some.inj hj
      exact ⟨b, 0, rfl, h.cell 0 rfl, h.cell 1 rfl⟩
    | succ j => simp at hj⟩
theorem leaf_one {w : World} {b : Nat} {x : Im} (h : Bx w b [.int .i64 x.1, .int .i64 x.2]) : NodeAt w 1 ([x], [], 0) (.slice (some ⟨b, 0, none⟩) 1 1) (.slice none 0 0) 0 :=
  ⟨rfl, its_one h, none, 0, rfl, Nat.le_refl _, fun j k hj => by simp at hj⟩
set_option maxHeartbeats 2000000 in
/-- 'exNode' -/
theorem exNode_is (w : World) : Calls Try.prog 43 #[] w (fun e w' => ∃ vi vk, e = .returned (.agg #[vi, vk, .int .i64 0]) ∧ NodeAt w' 2 exT vi vk 0 ∧ Below w.heap.size w w') := by
  go_enter Try.func43, Try.ntmps43
  go_wp2
  refine bodyPost_ret (v := .agg #[.slice (some ⟨w.heap.size + 1, 0, none⟩) 1 1, .slice (some ⟨w.heap.size + 1 + 1 + 1 + 1, 0, none⟩) 2 2, .int .i64 0]) (by simp [results, Try.results43, go_sem]) rfl ?_
  have b1 := (((bx_at (w := w.alloc (.cells #[.slice (some ⟨w.heap.size + 1, 0, none⟩) 1 1, .slice (some ⟨w.heap.size + 1 + 1 + 1 + 1, 0, none⟩) 2 2, .int .i64 0] 25)) (k := w.heap.size + 1) (by simp) [.int .i64 4, .int .i64 1] 35).alloc (.cells #[.int .i64 2, .int .i64 2] 35)).alloc (.cells #[.int .i64 6, .int .i64 3] 35)).alloc (.cells #[.slice (some ⟨w.heap.size + 1 + 1, 0, none⟩) 1 1, .slice none 0 0, .int .i64 0, .slice (some ⟨w.heap.size + 1 + 1 + 1, 0, none⟩) 1 1, .slice none 0 0, .int .i64 0] 25)
  have b2 := ((bx_at (w := (w.alloc (.cells #[.slice (some ⟨w.heap.size + 1, 0, none⟩) 1 1, .slice (some ⟨w.heap.size + 1 + 1 + 1 + 1, 0, none⟩) 2 2, .int .i64 0] 25)).alloc (.cells #[.int .i64 4, .int .i64 1] 35)) (k := w.heap.size + 1 + 1) (by simp) [.int .i64 2, .int .i64 2] 35).alloc (.cells #[.int .i64 6, .int .i64 3] 35)).alloc (.cells #[.slice (some ⟨w.heap.size + 1 + 1, 0, none⟩) 1 1, .slice none 0 0, .int .i64 0, .slice (some ⟨w.heap.size + 1 + 1 + 1, 0, none⟩) 1 1, .slice none 0 0, .int .i64 0] 25)
  have b3 := (bx_at (w := ((w.alloc (.cells #[.slice (some ⟨w.heap.size + 1, 0, none⟩) 1 1, .slice (some ⟨w.heap.size + 1 + 1 + 1 + 1, 0, none⟩) 2 2, .int .i64 0] 25)).alloc (.cells #[.int .i64 4, .int .i64 1] 35)).alloc (.cells #[.int .i64 2, .int .i64 2] 35)) (k := w.heap.size + 1 + 1 + 1) (by simp) [.int .i64 6, .int .i64 3] 35).alloc (.cells #[.slice (some ⟨w.heap.size + 1 + 1, 0, none⟩) 1 1, .slice none 0 0, .int .i64 0, .slice (some ⟨w.heap.size + 1 + 1 + 1, 0, none⟩) 1 1, .slice none 0 0, .int .i64 0] 25)
  have b4 := bx_at (w := (((w.alloc (.cells #[.slice (some ⟨w.heap.size + 1, 0, none⟩) 1 1, .slice (some ⟨w.heap.size + 1 + 1 + 1 + 1, 0, none⟩) 2 2, .int .i64 0] 25)).alloc (.cells #[.int .i64 4, .int .i64 1] 35)).alloc (.cells #[.int .i64 2, .int .i64 2] 35)).alloc (.cells #[.int .i64 6, .int .i64 3] 35)) (k := w.heap.size + 1 + 1 + 1 + 1) (by simp) [.slice (some ⟨w.heap.size + 1 + 1, 0, none⟩) 1 1, .slice none 0 0, .int .i64 0, .slice (some ⟨w.heap.size + 1 + 1 + 1, 0, none⟩) 1 1, .slice none 0 0, .int .i64 0] 25
  refine ⟨_, _, rfl, ⟨rfl, its_one (x := (4, 1)) b1, _, 2, rfl, Nat.le_refl _, fun j k hj => ?_⟩, ?_⟩
  · match j, hj with
    | 0, hj =>
      obtain rfl := Option.some.inj hj
      exact ⟨_, 0, _, _, 0, rfl, b4.cell 0 rfl, b4.cell 1 rfl, b4.cell 2 rfl, leaf_one (x := (2, 2)) b2⟩
    | 1, hj =>
      obtain rfl := Option.some.inj hj
      exact ⟨_, 0, _, _, 0, rfl, b4.cell 3 rfl, b4.cell 4 rfl, b4.cell 5 rfl, leaf_one (x := (6, 3)) b3⟩
    | j + 2, hj => simp [exT] at hj
  · exact ((((((Below.refl _ _).alloc (Nat.le_refl _) _).alloc (by simp) _).alloc (by simp; omega) _).alloc (by simp; omega) _).alloc (by simp; omega) _)

set_option maxHeartbeats 2000000 in
set_option maxRecDepth 100000 in
/-- 'aliveD' -/
theorem aliveD_is (w : World) : Calls Try.prog 13 #[] w (fun e w' => e = .returned (.bool true) ∧ Below w.heap.size w w') := by
  have HX := hidp (exNode_is w)
  go_enter Try.func13, Try.ntmps13
  go_wp2_with fail
  refine HX.out.mono ?_
  rintro e w2 ⟨vi, vk, rfl, hN, hb2⟩
  have HK := hidp (dkv_is (D := 2) (by decide) (by decide) (t := exT) (by decide) hN (by decide))
  have HB2 := hidp hb2
  clear hN hb2 HX
  go_wp2_with fail
  refine HK.out.mono ?_
  rintro e w3 ⟨u, v, rfl, hrows, hb3⟩
  have HB3 := hidp (HB2.out.trans (hb3.mono HB2.out.size))
  obtain ⟨g1, g2, r1, r2, _, _, _⟩ := hrows
  obtain ⟨ua, uc, rfl⟩ := r1.len
  obtain ⟨va, vc, rfl⟩ := r2.len
  have e1 : (dAll 2 exT).length = 3 := by decide
  have e2 : hgt exT = 2 := by decide
  have e3 : (II.kv (dAll 2 exT)).length = 3 := by decide
  have e4 : (II.vv (dAll 2 exT)).length = 3 := by decide
  clear r1 r2 hb3 HK HB2
  rw [e1, e2, e3, e4]
  go_wp2
  go_ret
  exact ⟨rfl, HB3.out⟩

/-- 'zzFits3' -/
theorem fits3_is {n : Nat} {t : DT (n + 1)} {w : World} {vi vk : Value} {c : Int} (hN : NodeAt w (n + 1) t vi vk c) (hb : bulk (n + 1) t ≤ 10000000) :
    Calls Try.prog 11 #[.agg #[vi, vk, .int .i64 c]] w (fun e w' => e = .returned (.bool true) ∧ Below w.heap.size w w') := by
  obtain ⟨hc, ⟨ia, icap, rfl, _, hi⟩, a, cap, rfl, hlc, hk⟩ := hN
  have hkl := Nat.le_trans (kids_len t (fun k _ => bulk_pos' k)) hb
  have hil : t.1.length ≤ 10000000 := by have : t.1.length ≤ bulk (n + 1) t := (by show t.1.length ≤ 1 + t.1.length + (t.2.1.map (bulk n)).sum; omega); omega
  have HB := hidp ((Below.refl w.heap.size w).alloc (Nat.le_refl _) (.cells #[.slice ia t.1.length icap, .slice a t.2.1.length cap, .int .i64 c] 25))
  have h1 : ¬ (2147483647 : Int) < (t.1.length : Int) := by omega
  have h2 : ¬ (2147483647 : Int) < (t.2.1.length : Int) := by omega
  clear hc hi hk hkl hil hlc
  go_enter Try.func11, Try.ntmps11
  go_wp2
  go_ret
  exact ⟨rfl, HB.out⟩
/-- 'NodeHeight' -/
theorem nodeHeight_is {n : Nat} {t : DT (n + 1)} {w : World} {vi vk : Value} {c : Int} (hN : NodeAt w (n + 1) t vi vk c) (hb : bulk (n + 1) t ≤ 10000000) :
    Calls Try.prog 16 #[.agg #[vi, vk, .int .i64 c]] w (fun e w' => e = .returned (.int .i64 (hgt t : Nat)) ∧ Below w.heap.size w w') := by
  obtain ⟨p, hp⟩ : ∃ p, p = t.1.length := ⟨_, rfl⟩
  obtain ⟨ia, icap, hvi⟩ : ∃ ia icap, vi = .slice ia p icap := by
    obtain ⟨hcx, ⟨ia, icap, hvi, _, _⟩, _⟩ := hN
    exact ⟨ia, icap, by rw [hp]; exact hvi⟩
  obtain ⟨_, q1, q2, q3, rfl⟩ := hN.vals
  subst hvi
  have hB1 := (Below.refl w.heap.size w).alloc (Nat.le_refl _) (.cells #[.slice ia p icap, .slice q1 q2 q3, .int .i64 c] 25)
  have HB1 := hidp hB1
  have HL := hidp (levels_is (n + 1) t (hN.below hB1) hb)
  have hsz : (w.alloc (.cells #[.slice ia p icap, .slice q1 q2 q3, .int .i64 c] 25)).heap.size = w.heap.size + 1 := by simp
  unfold hgt
  by_cases h0 : p = 0
  · rw [if_pos (by omega)]
    subst h0
    clear hB1 hp hN HL
    go_enter Try.func16, Try.ntmps16
    go_wp2
    go_ret
    exact ⟨rfl, HB1.out⟩
  · rw [if_neg (by omega)]
    have h1 : ¬ (p : Int) = 0 := by omega
    clear hB1 hp hN
    go_enter Try.func16, Try.ntmps16
    go_wp2_with fail
    refine HL.out.mono ?_
    rintro e w2 ⟨rfl, hb2⟩
    have HB2 := hidp (HB1.out.trans (hb2.mono (by rw [hsz]; omega)))
    clear hb2 HL
    go_wp2
    go_ret
    exact ⟨rfl, HB2.out⟩
/-- 'validD' -/
theorem validD_is (d : Int) {n : Nat} {t : DT (n + 1)} {w : World} {vi vk : Value} {c : Int} (hN : NodeAt w (n + 1) t vi vk c) (hb : bulk (n + 1) t ≤ 10000000) :
    Calls Try.prog 12 #[.int .i64 d, .agg #[vi, vk, .int .i64 c]] w (fun e w' => e = .returned (.bool (decide (2 ≤ d ∧ d ≤ 128) && validB d.toNat (n + 1) t)) ∧ Below w.heap.size w w') := by
  obtain ⟨⟨i1, i2, icap, rfl⟩, q1, q2, kcap, rfl⟩ := hN.vals
  have hB1 := (Below.refl w.heap.size w).alloc (Nat.le_refl _) (.cells #[.slice i1 i2 icap, .slice q1 q2 kcap, .int .i64 c] 25)
  have HB1 := hidp hB1
  have hsz : (w.alloc (.cells #[.slice i1 i2 icap, .slice q1 q2 kcap, .int .i64 c] 25)).heap.size = w.heap.size + 1 := by simp
  have HF := hidp (fit_is (w.alloc (.cells #[.slice i1 i2 icap, .slice q1 q2 kcap, .int .i64 c] 25)) d)
  have HN := hidp (hN.below hB1)
  clear hB1 hN
  by_cases hd : 2 ≤ d ∧ d ≤ 128
  · obtain ⟨D, rfl⟩ : ∃ D : Nat, d = (D : Int) := ⟨d.toNat, by omega⟩
    rw [decide_eq_true hd] at HF ⊢
    have HV := hidp (valid_is (D := D) (by omega) (by omega) HN.out hb)
    clear hd HN
    go_enter Try.func12, Try.ntmps12
    go_wp2_with fail
    refine HF.out.mono ?_
    rintro e w2 ⟨rfl, rfl⟩
    go_wp2_with fail
    refine HV.out.mono ?_
    rintro e w3 ⟨rfl, hb3⟩
    have HB3 := hidp (HB1.out.trans (hb3.mono (by rw [hsz]; omega)))
    clear hb3 HV HF
    go_wp2
    go_ret
    exact ⟨by simp, HB3.out⟩
  · rw [decide_eq_false hd] at HF ⊢
    clear hd HN
    go_enter Try.func12, Try.ntmps12
    go_wp2_with fail
    refine HF.out.mono ?_
    rintro e w2 ⟨rfl, rfl⟩
    go_wp2
    go_ret
    exact ⟨rfl, HB1.out⟩
end Go.Proofs.Ytehnobbiiokcgaa.Bt.ND
