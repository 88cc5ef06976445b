/- Nodes as data: DRebalance. -/
import Derived.Test.YtehnobbiiokcgaaBtLb
import Derived.Test.YtehnobbiiokcgaaBtNo
import Derived.Test.YtehnobbiiokcgaaBtIIr7
namespace Go.Proofs.Ytehnobbiiokcgaa.Bt.ND
set_option linter.unusedVariables false
set_option linter.unusedSimpArgs false
open Go Go.RowKit Go.Proofs.Ytehnobbiiokcgaa.Bt

variable {S : Nat → Prop} {w : World} {s : Sto II.It}
set_option maxHeartbeats 1000000 in
set_option maxRecDepth 100000 in
/-- 'DoorNodeRebalance' -/
theorem doorReb_is {D : Nat} (hD : 2 ≤ D) (hD2 : D ≤ 400) (R : RepS II.E S w s) {h n : Nat} {t : BT Im (h + 1)} {ids : List Nat} (T : Tr s.nd s.mp.iso (h + 1) n t ids) (hd : ids.Nodup) (hkl : t.2.length = t.1.length + 1) (h0 : 0 < t.1.length) (hhi : t.1.length ≤ 2 * D - 1) (hk : ∀ c ∈ t.2, BT.ok (D - 1) (2 * D - 1) 0 h c) (hmx : s.mp.mx = ((2 * D - 1 : Nat) : Int)) (hb : (BT.all (h + 1) t).length ≤ 100000000000)
    {p : Nat} (hp : p ≤ t.1.length) (hall : (BT.all (h + 1) (reb (2 * D - 1) t p)).length = (BT.all (h + 1) t).length) :
    Calls Try.prog 58 #[.pointer (some ⟨s.m, 0, none⟩), II.dv n, .int .i64 p] w (fun e w' => e = .returned (.tuple #[]) ∧ ∃ S' s', Ext S w S' w' ∧ RepS II.E S' w' s' ∧ s'.m = s.m ∧ s'.mp = s.mp ∧ ∃ ids', Tr s'.nd s.mp.iso (h + 1) n (reb (2 * D - 1) t p) ids') := by
  have HRB := hidp (II.reb_tr (mn := D - 1) (L := 2 * D - 1) (by omega) (by omega) (R.alloc (.cells #[Value.pointer (some ⟨n, 0, none⟩)] 96)) T hd hkl h0 hhi hk hmx hb hp hall)
  have HE1 := hidp ((Ext.refl S w).alloc (.cells #[Value.pointer (some ⟨n, 0, none⟩)] 96))
  clear R T hd hk hmx hb hall hkl
  unfold II.dv
  go_enter Try.func58, Try.ntmps58
  go_wp2_with fail
  refine HRB.out.mono ?_
  rintro e w' ⟨rfl, S', s', hE, R', hm, hmp, ids', T', _⟩
  have HF := hidp (And.intro (HE1.out.trans hE) (And.intro R' (And.intro hm (And.intro hmp T'))))
  clear hE R' hm hmp T' HRB
  go_wp2
  go_end0
  exact ⟨rfl, S', s', HF.out.1, HF.out.2.1, HF.out.2.2.1, HF.out.2.2.2.1, ids', HF.out.2.2.2.2⟩

set_option maxHeartbeats 4000000 in
set_option maxRecDepth 100000 in
/-- 'DRebalance' -/
theorem drebal_is {D : Nat} (hD : 2 ≤ D) (hD2 : D ≤ 400) {n : Nat} {t : DT (n + 2)} {i : Int} {p : Nat} (L : LackP D t i p) {w : World} {vi vk : Value} {c : Int} (hN : NodeAt w (n + 2) t vi vk c) (hb : bulk (n + 2) t ≤ 10000000) :
    Calls Try.prog 21 #[.int .i64 D, .agg #[vi, vk, .int .i64 c], .int .i64 p] w (fun e w' => ∃ h ui uk c', lev (n + 2) t = (h + 2, true) ∧ e = .returned (.agg #[ui, uk, .int .i64 c']) ∧
      NodeQ (fun b => w.heap.size ≤ b ∧ b < w'.heap.size) w' (h + 2) (ofBT (h + 1) (reb (2 * D - 1) (toBT (h + 1) (n + 2) t) p)) ui uk c' ∧ Below w.heap.size w w') := by
  obtain ⟨h, hl, hkids, hkl, hall, hok, _⟩ := lack_tree hD L
  obtain ⟨_, hkl2⟩ := lev_two hl
  obtain ⟨⟨i1, i2, icap, rfl⟩, q1, q2, kcap, rfl⟩ := hN.vals
  obtain ⟨w1, hw1⟩ : ∃ w1, w1 = (w.alloc (.cells #[.slice i1 i2 icap, .slice q1 q2 kcap, .int .i64 c] 25)).alloc (.cells #[.slice none 0 0, .slice none 0 0, .int .i64 0] 25) := ⟨_, rfl⟩
  have hsz1 : w1.heap.size = w.heap.size + 2 := by rw [hw1]; simp
  have hB1 : Below w.heap.size w w1 := by rw [hw1]; exact ((Below.refl _ _).alloc (Nat.le_refl _) _).alloc (by rw [World.size_alloc]; omega) _
  have hx0 : Bx w1 w.heap.size [.slice i1 i2 icap, .slice q1 q2 kcap, .int .i64 c] := by rw [hw1]; exact (Bx.new w [.slice i1 i2 icap, .slice q1 q2 kcap, .int .i64 c] 25).alloc _
  have hx1 : Bx w1 (w.heap.size + 1) [.slice none 0 0, .slice none 0 0, .int .i64 0] := by
    rw [hw1]
    have h := Bx.new (w.alloc (.cells #[.slice i1 i2 icap, .slice q1 q2 kcap, .int .i64 c] 25)) [.slice none 0 0, .slice none 0 0, .int .i64 0] 25
    rw [World.size_alloc] at h
    exact h
  have hlen : (dAll (n + 2) t).length ≤ 10000000 := by have := dAll_bulk (n + 2) t; omega
  have hTall := toBT_all (h + 1) (n + 2) t hl
  have HX0 := hidp hx0
  have HX1 := hidp hx1
  have HB1 := hidp hB1
  have HSZ := hidp hsz1
  have HM := hidp (newMap_raw (w := w1) hD (show D ≤ 1000 by omega))
  have HN := hidp hN
  have HLV := hidp (And.intro hl (And.intro hkids (And.intro hkl (And.intro hall (And.intro hok (And.intro hkl2 hTall))))))
  have HL := hidp L
  clear hx0 hx1 hB1 hsz1 hN hl hkids hkl hall hok hkl2 hTall L
  go_enter Try.func21, Try.ntmps21
  go_wp2_with fail
  rw [← hw1]
  clear hw1
  refine HM.out.mono ?_
  rintro e w2 ⟨S, s, rfl, R, g1, g2, g3, g4, hb2, hS⟩
  have hx2 := Bx.below HX0.out hb2 HX0.out.1
  have HX1b := hidp (Bx.below HX1.out hb2 HX1.out.1)
  have hB2 : Below w.heap.size w w2 := HB1.out.trans (hb2.mono HB1.out.size)
  have hS2 : ∀ i, S i → w.heap.size + 2 ≤ i := fun i hi => by have := hS i hi; have := HSZ.out; omega
  have HPL : Hid (Calls Try.prog 57 #[.pointer (some ⟨s.m, 0, none⟩), .agg #[.slice i1 i2 icap, .slice q1 q2 kcap, .int .i64 c]] w2 (Planted S w2 s (h + 1) (toBT (h + 1) (n + 2) t))) := hidp (by
    have hN := HN.out
    obtain ⟨hc, ⟨ia, icap', e1, _, hi⟩, a, cap, e2, hlc, hk⟩ := hN
    obtain ⟨hl, hkids, hkl, hall, hok, hkl2, hTall⟩ := HLV.out
    injection e1 with e11 e12 e13
    injection e2 with e21 e22 e23
    subst e11; subst e12; subst e13; subst e21; subst e22; subst e23
    have e3 := all_length (toBT (h + 1) (n + 2) t)
    rw [hTall] at e3
    have hkk := kids_len t (fun k _ => bulk_pos' k)
    refine planted_inner (D := D) (planted_is (by omega) (n + 1)) (its := t.1) (kids := t.2.1) (by have := HL.out.hi; omega) (fun e => by have h1 := HL.out.lt; rw [e] at h1; simp at h1) (by have := HL.out.hi; omega) (fun k hkm => ?_) ?_ hi hk hB2 (fun i hi => by have := hS2 i hi; omega) R
    · obtain ⟨j, hj⟩ := List.mem_iff_getElem?.1 hkm
      have h1 := bulk_kid (t := t) hj
      have h2 : bulk (n + 1 + 1) t ≤ 10000000 := hb
      exact ⟨hkl2 k hkm, ⟨_, HL.out.fil j k hj⟩, by omega⟩
    · have e4 : ((dAll (n + 2) t).length : Int) = (t.1.length : Int) + (cnts (t.2.1.map (toBT h (n + 1)))).sum := e3
      omega)
  have y0 := hx2.cell 0 rfl
  have y1 := hx2.cell 1 rfl
  have y2 := hx2.cell 2 rfl
  have HG := hidp (And.intro g4 (And.intro hB2 (And.intro hS2 (R.rep.lt))))
  clear R g1 g2 g3 g4 hb2 hS hB2 hS2 hx2 HM
  go_wp2_with fail
  refine HPL.out.mono ?_
  rintro e w3 ⟨S', s', q, ids, rfl, hE, R', e1, e2, T, hd, hids, _⟩
  have hb23 : Below w.heap.size w2 w3 := hE.fr.below HG.out.2.1.size (fun i hi => by have := HG.out.2.2.1 i hi; omega)
  have hn1 : ¬ S' (w.heap.size + 1) := hE.notin HX1b.out.1 (fun h => by have := HG.out.2.2.1 _ h; omega)
  have hS3 : ∀ i, S' i → w.heap.size + 2 ≤ i := fun i hi => by
    rcases hE.new i hi with h | h
    · exact HG.out.2.2.1 i h
    · have h1 := HX1b.out.1; omega
  have hx3 := hE.bx HX1b.out (fun h => by have := HG.out.2.2.1 _ h; omega)
  have HB3 := hidp (HG.out.2.1.trans (hb23.mono (Nat.le_refl _)))
  obtain ⟨w4, hw4⟩ : ∃ w4, w4 = w3.alloc (.cells #[Value.pointer (some ⟨q, 0, none⟩)] 96) := ⟨_, rfl⟩
  have hx8 : Bx w4 w3.heap.size [Value.pointer (some ⟨q, 0, none⟩)] := by rw [hw4]; exact Bx.new w3 [Value.pointer (some ⟨q, 0, none⟩)] 96
  have HX1c : Hid (Bx w4 (w.heap.size + 1) [.slice none 0 0, .slice none 0 0, .int .i64 0]) := hidp (by rw [hw4]; exact hx3.alloc _)
  have HB4 : Hid (Below w.heap.size w w4) := hidp (by rw [hw4]; exact HB3.out.alloc HB3.out.size _)
  have R4 : RepS II.E S' w4 s' := by rw [hw4]; exact R'.alloc _
  have hn8 : ¬ S' w3.heap.size := fun h => by have := R'.rep.lt _ h; omega
  have HRB : Hid (Calls Try.prog 58 #[.pointer (some ⟨s.m, 0, none⟩), II.dv q, .int .i64 p] w4 (fun e w' => e = .returned (.tuple #[]) ∧ ∃ S5 s5, Ext S' w4 S5 w' ∧ RepS II.E S5 w' s5 ∧ ∃ ids', Tr s5.nd s.mp.iso (h + 1) q (reb (2 * D - 1) (toBT (h + 1) (n + 2) t) p) ids')) := hidp (by
    obtain ⟨hl, hkids, hkl, hall, hok, hkl2, hTall⟩ := HLV.out
    have hR := doorReb_is hD hD2 R4 (t := toBT (h + 1) (n + 2) t) (ids := ids) (by rw [e2]; exact T) hd (by show (t.2.1.map _).length = t.1.length + 1; rw [List.length_map]; exact hkl) HL.out.lo HL.out.hi hkids (by rw [e2]; exact HG.out.1) (by rw [hTall]; omega) (p := p) (by show p ≤ t.1.length; have := HL.out.lt; omega) (by rw [hall])
    rw [e1] at hR
    refine hR.mono ?_
    rintro e w' ⟨rfl, S5, s5, hE5, R5, _, _, ids', T'⟩
    rw [e2] at T'
    exact ⟨rfl, S5, s5, hE5, R5, ids', T'⟩)
  have HS3 := hidp hS3
  have HN1 := hidp hn1
  have HN8 := hidp hn8
  have HX8 := hidp hx8
  have HW4 := hidp hw4
  have k8 := hx8.cell 0 rfl
  have hl8 := hx8.1
  unfold II.dv at HRB
  clear hE R' e1 e2 T hd hids hb23 hn1 hS3 hx3 hx8 R4 hn8 HPL y0 y1 y2
  unfold II.dv
  go_wp2_with fail
  rw [← hw4]
  clear hw4
  refine HRB.out.mono ?_
  rintro e w5 ⟨rfl, S5, s5, hE5, R5, ids', T5⟩
  have hx8b := hE5.bx HX8.out HN8.out
  have HX1d := hidp (hE5.bx HX1c.out HN1.out)
  have HB5 := hidp (HB4.out.trans (hE5.fr.below HB4.out.size (fun i hi => by have := HS3.out i hi; omega)))
  have HLF := hidp (lifted_is (mn := D - 1) (mx := 2 * D - 1) (by omega) (h + 1) R5 T5 HLV.out.2.2.2.2.1)
  unfold II.dv at HLF
  have k8b := hx8b.cell 0 rfl
  clear hE5 R5 T5 hx8b HRB k8 hl8
  go_wp2_with fail
  refine HLF.out.mono ?_
  rintro e w6 ⟨ui, uk, c', rfl, hq, hb6⟩
  obtain ⟨⟨a1, a2, a3, rfl⟩, p1, p2, p3, rfl⟩ := hq.vals
  have hxb := Bx.below HX1d.out hb6 HX1d.out.1
  have j0 := hxb.cell 0 rfl
  have j1 := hxb.cell 1 rfl
  have j2 := hxb.cell 2 rfl
  have f0 := hxb.froz 0 (v := .slice none 0 0) rfl
  have f1 := hxb.froz 1 (v := .slice none 0 0) rfl
  have f2 := hxb.froz 2 (v := .int .i64 0) rfl
  have hlx := hxb.1
  have hub := Bx.upd3 hxb (.slice a1 a2 a3) (.slice p1 p2 p3) (.int .i64 c')
  have HQ := hidp (hq.keep (Q' := fun b => w.heap.size ≤ b ∧ b < w6.heap.size) hub.fr (fun b hb => ⟨fun (h : b = w.heap.size + 1) => by have h1 := hb.1; have h2 := HX1d.out.1; omega, by have h1 := hb.1; have h2 := HB5.out.size; omega, hb.2⟩))
  have HSS := hidp hub.size
  have HB6 := hidp (HB5.out.trans (hb6.mono HB5.out.size))
  clear hq hxb hub hb6 HLF k8b
  go_wp2
  refine bodyPost_ret (v := .agg #[.slice a1 a2 a3, .slice p1 p2 p3, .int .i64 c']) (by simp [results, Try.results21, go_sem, j0, j1, j2, f0, f1, f2]) rfl ?_
  refine ⟨h, _, _, c', HLV.out.1, rfl, ?_, ?_⟩
  · have h := HQ.out
    exact h.mono (fun b hb => ⟨hb.1, Nat.lt_of_lt_of_eq hb.2 HSS.out.symm⟩)
  · exact ((HB6.out.setCell (by show w.heap.size ≤ w.heap.size + 1; omega) _).setCell (by show w.heap.size ≤ w.heap.size + 1; omega) _).setCell (by show w.heap.size ≤ w.heap.size + 1; omega) _
end Go.Proofs.Ytehnobbiiokcgaa.Bt.ND
