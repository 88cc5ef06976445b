/- Nodes as data: the law FnDRebalance. -/
import Derived.Test.YtehnobbiiokcgaaBtLa
import Derived.Test.YtehnobbiiokcgaaBtLc
import Derived.Test.YtehnobbiiokcgaaBtLf
import Derived.Test.YtehnobbiiokcgaaBtLg
import Derived.Test.YtehnobbiiokcgaaBtRt
import Derived.Test.YtehnobbiiokcgaaBtOd
import Derived.Test.YtehnobbiiokcgaaBtOb
namespace Go.Proofs.Ytehnobbiiokcgaa.Bt.ND
set_option linter.unusedVariables false
set_option linter.unusedSimpArgs false
open Go Go.RowKit Go.Proofs.Ytehnobbiiokcgaa.Bt

theorem bulk_retype : ∀ (h n : Nat) (t : DT n), bulk (h + 1) (ofBT h (toBT h n t)) ≤ bulk n t
  | _, 0, t => t.elim
  | 0, n + 1, t => by
    show 1 + t.1.length + 0 ≤ 1 + t.1.length + (t.2.1.map (bulk n)).sum
    omega
  | h + 1, n + 1, t => by
    have h1 : ∀ l : List (DT n), (((l.map (toBT h n)).map (ofBT h)).map (bulk (h + 1))).sum ≤ (l.map (bulk n)).sum := fun l => by
      induction l with
      | nil => exact Nat.le_refl _
      | cons x l ih =>
        have h2 := bulk_retype h n x
        simp only [List.map_cons, List.sum_cons]
        omega
    have h3 := h1 t.2.1
    show 1 + t.1.length + (((t.2.1.map (toBT h n)).map (ofBT h)).map (bulk (h + 1))).sum ≤ 1 + t.1.length + (t.2.1.map (bulk n)).sum
    omega

set_option maxHeartbeats 4000000 in
set_option maxRecDepth 100000 in
/-- The law. -/
theorem law_drebalance (d i : Int) {n : Nat} {t : DT (n + 1)} {w : World} {vi vk : Value} {c : Int} (hN : NodeAt w (n + 1) t vi vk c) (hb : bulk (n + 1) t ≤ 4000000) :
    Calls Try.prog 5 #[.int .i64 d, .agg #[vi, vk, .int .i64 c], .int .i64 i] w (fun e w' => e = .returned (.bool true) ∧ Below w.heap.size w w') := by
  obtain ⟨⟨i1, i2, icap, rfl⟩, q1, q2, kcap, rfl⟩ := hN.vals
  obtain ⟨w1, hw1⟩ : ∃ w1, w1 = w.alloc (.cells #[.slice i1 i2 icap, .slice q1 q2 kcap, .int .i64 c] 25) := ⟨_, rfl⟩
  have hB1 : Below w.heap.size w w1 := by rw [hw1]; exact (Below.refl _ _).alloc (Nat.le_refl _) _
  have hx0 : Bx w1 w.heap.size [.slice i1 i2 icap, .slice q1 q2 kcap, .int .i64 c] := by rw [hw1]; exact Bx.new w [.slice i1 i2 icap, .slice q1 q2 kcap, .int .i64 c] 25
  have HX0 := hidp hx0
  have HB1 := hidp hB1
  have HN := hidp hN
  have HZ := hidp (fits3_is (hN.below hB1) (by omega))
  have a0 := hx0.cell 0 rfl
  have a1 := hx0.cell 1 rfl
  have a2 := hx0.cell 2 rfl
  clear hx0 hB1 hN
  go_enter Try.func5, Try.ntmps5
  go_wp2_with fail
  rw [← hw1]
  clear hw1
  refine HZ.out.mono ?_
  rintro e w2 ⟨rfl, hb2⟩
  have HX0b := hidp (Bx.below HX0.out hb2 HX0.out.1)
  have HB2 := hidp (HB1.out.trans (hb2.mono HB1.out.size))
  have HF := hidp (fit_is w2 d)
  have b0 := HX0b.out.cell 0 rfl
  have b1 := HX0b.out.cell 1 rfl
  have b2 := HX0b.out.cell 2 rfl
  clear hb2 HZ a0 a1 a2
  by_cases hd : 2 ≤ d ∧ d ≤ 128
  · obtain ⟨D, rfl⟩ : ∃ D : Nat, d = (D : Int) := ⟨d.toNat, by omega⟩
    have hD1 : 2 ≤ D := by omega
    have hD2 : D ≤ 400 := by omega
    rw [decide_eq_true hd] at HF
    clear hd
    have HLK := hidp (lacks_is hD1 (show D ≤ 1000 by omega) (HN.out.below HB2.out) (by omega) i)
    go_wp2_with fail
    refine HF.out.mono ?_
    rintro e w' ⟨rfl, rfl⟩
    go_wp2_with fail
    refine HLK.out.mono ?_
    rintro e w3 ⟨b, rfl, hL, hb3⟩
    have HB3 := hidp (HB2.out.trans (hb3.mono HB2.out.size))
    have HX0c := hidp (Bx.below HX0b.out hb3 HX0b.out.1)
    have HL := hidp hL
    clear hb3 hL HLK HF b0 b1 b2
    cases b with
    | false =>
      have HA := hidp (aliveD_is w3)
      go_wp2_with fail
      refine HA.out.mono ?_
      rintro e w4 ⟨rfl, hb4⟩
      have HB4 := hidp (HB3.out.trans (hb4.mono HB3.out.size))
      clear hb4 HA
      go_wp2
      go_ret
      exact ⟨rfl, HB4.out⟩
    | true =>
      obtain ⟨p, L⟩ := HL.out rfl
      have hi := L.ix
      subst hi
      cases n with
      | zero =>
        have h1 := L.lt
        exact (t.2.1[p]'h1).elim
      | succ n =>
        obtain ⟨h, hl, _, hkl, hall, hok, a, b, m, em, ea, eb, ereb⟩ := lack_tree hD1 L
        have hkids := (lev_two hl).2
        have la := hkids a (List.mem_of_getElem? ea)
        have lb := hkids b (List.mem_of_getElem? eb)
        have hkk : (a.2.1.length = 0 ∧ b.2.1.length = 0) ∨ (a.2.1.length = a.1.length + 1 ∧ b.2.1.length = b.1.length + 1) := by
          cases h with
          | zero => exact .inl ⟨by rw [lev_one la]; rfl, by rw [lev_one lb]; rfl⟩
          | succ h => exact .inr ⟨(lev_two la).1, (lev_two lb).1⟩
        have hb2 : bulk (n + 2) t ≤ 4000000 := hb
        have HDR : Hid (Calls Try.prog 21 #[.int .i64 D, .agg #[.slice i1 i2 icap, .slice q1 q2 kcap, .int .i64 c], .int .i64 p] w3 (fun e w' => ∃ ui uk c', e = .returned (.agg #[ui, uk, .int .i64 c']) ∧
            NodeQ (fun b => w3.heap.size ≤ b ∧ b < w'.heap.size) w' (h + 2) (ofBT (h + 1) (reb (2 * D - 1) (toBT (h + 1) (n + 2) t) p)) ui uk c' ∧ Below w3.heap.size w3 w')) := hidp (by
          refine (drebal_is hD1 hD2 L (HN.out.below HB3.out) (by omega)).mono ?_
          rintro e w' ⟨h', ui, uk, c', hl', rfl, hq, hb4⟩
          obtain rfl : h' = h := by
            rw [hl] at hl'
            simp only [Prod.mk.injEq] at hl'
            omega
          exact ⟨ui, uk, c', rfl, hq, hb4⟩)
        have HBR := hidp (bulk_rebD (D := D) em ea eb)
        have HLR := hidp (lev_rebD hD1 hl em ea eb)
        have HRC : Hid (∀ w', Below w3.heap.size w3 w' → Calls Try.prog 23 #[.int .i64 D, .agg #[.slice i1 i2 icap, .slice q1 q2 kcap, .int .i64 c], .int .i64 p] w' (Lifted (wcn (n + 2) (rebD D t (jD t.1.length p) a b m)) w')) := hidp fun w' hb' => rebalanced_is hD1 (by omega) hkl L.lo L.lt em ea eb hkk (HN.out.below (HB3.out.trans (hb'.mono HB3.out.size))) hb
        have HER := hidp ereb
        have HALL := hidp (hall.trans (toBT_all (h + 1) (n + 2) t hl))
        obtain ⟨T, hT⟩ : ∃ T, T = reb (2 * D - 1) (toBT (h + 1) (n + 2) t) p := ⟨_, rfl⟩
        have HBT : Hid (bulk (h + 2) (ofBT (h + 1) T) ≤ 10000000) := hidp (by
          have h1 := bulk_retype (h + 1) (n + 2) (rebD D t (jD t.1.length p) a b m)
          rw [ereb, ← hT] at h1
          have h2 := HBR.out
          show bulk (h + 1 + 1) _ ≤ _
          omega)
        rw [← hT] at HALL HER HDR
        have HEQ : Hid (∀ (w : World) (v u : Value), Its w v (dAll (h + 2) (ofBT (h + 1) T)) → Its w u (dAll (n + 2) t) → Calls Try.prog 24 #[v, u] w (fun e w' => e = .returned (.bool true) ∧ ∃ a, w' = w.drewN a)) := hidp fun w v u h1 h2 => equal_its h1 (by rw [ofBT_all, HALL.out]; exact h2) (by have h1 := dAll_bulk (h + 2) (ofBT (h + 1) T); have h2 := HBT.out; omega)
        clear hkids la lb hkk hall hok em ea eb ereb hT hl hkl L HL
        have c0 := HX0c.out.cell 0 rfl
        have c1 := HX0c.out.cell 1 rfl
        have c2 := HX0c.out.cell 2 rfl
        go_wp2_with fail
        refine HDR.out.mono ?_
        rintro e w4 ⟨ui, uk, c', rfl, hq, hb4⟩
        obtain ⟨⟨a1, a2, a3, rfl⟩, p1, p2, p3, rfl⟩ := hq.vals
        have hNy := hq.at
        obtain ⟨w5, hw5⟩ : ∃ w5, w5 = w4.alloc (.cells #[.slice a1 a2 a3, .slice p1 p2 p3, .int .i64 c'] 25) := ⟨_, rfl⟩
        have hs4 := hb4.size
        have hy1 : Bx w5 w4.heap.size [.slice a1 a2 a3, .slice p1 p2 p3, .int .i64 c'] := by rw [hw5]; exact Bx.new w4 [.slice a1 a2 a3, .slice p1 p2 p3, .int .i64 c'] 25
        have hb45 : Below w4.heap.size w4 w5 := by rw [hw5]; exact (Below.refl _ _).alloc (Nat.le_refl _) _
        have hb5 : Below w3.heap.size w3 w5 := hb4.trans (hb45.mono hs4)
        have HY1 := hidp hy1
        have HX8 := hidp (Bx.below HX0c.out hb5 HX0c.out.1)
        have HB5 := hidp hb5
        have HNY := hidp (hNy.below hb45)
        have k0 := hy1.cell 0 rfl
        have k1 := hy1.cell 1 rfl
        have k2 := hy1.cell 2 rfl
        have l0 := HX8.out.cell 0 rfl
        have l1 := HX8.out.cell 1 rfl
        have l2 := HX8.out.cell 2 rfl
        have hl1 := hy1.1
        have hl0 := HX8.out.1
        clear hq hNy hb4 hb45 hb5 hy1 c0 c1 c2 HDR hs4
        go_wp2_with fail
        rw [← hw5]
        clear hw5
        go_region_held3 (fun w' => w'.cell? ⟨w4.heap.size, 0, none⟩ = some (.slice a1 a2 a3) ∧ w'.cell? ⟨w4.heap.size, 1, none⟩ = some (.slice p1 p2 p3) ∧ w'.cell? ⟨w4.heap.size, 2, none⟩ = some (.int .i64 c') ∧ w'.cell? ⟨w.heap.size, 0, none⟩ = some (.slice i1 i2 icap) ∧ w'.cell? ⟨w.heap.size, 1, none⟩ = some (.slice q1 q2 kcap) ∧ w'.cell? ⟨w.heap.size, 2, none⟩ = some (.int .i64 c)) (go_keep)
          ((first
            | (go_at_call 23
               refine (HRC.out _ (HB5.out.drew)).mono ?_
               rintro e w9 ⟨v1, v2, v3, rfl, hq9, hb9⟩
               have HNC : Hid (NodeAt w9 (h + 2) (ofBT (h + 1) T) v1 v2 v3) := hidp (by have h := retype (h + 1) (n + 2) _ HLR.out hq9.at; rw [HER.out] at h; exact h)
               obtain ⟨⟨x1, x2, x3, rfl⟩, y1, y2, y3, rfl⟩ := hq9.vals
               have HB9 := hidp ((Below.refl w5.heap.size w5).drew.trans hb9)
               have HX9 := hidp (Bx.below HX8.out.drew hb9 (HX8.out.drew).1)
               have HY9 := hidp (Bx.below HY1.out.drew hb9 (HY1.out.drew).1)
               have p90 := HX9.out.cell 0 rfl
               have p91 := HX9.out.cell 1 rfl
               have p92 := HX9.out.cell 2 rfl
               have q90 := HY9.out.cell 0 rfl
               have q91 := HY9.out.cell 1 rfl
               have q92 := HY9.out.cell 2 rfl
               clear hb9 hq9)
            | (go_at_call 22
               refine (same_is (h + 2) _ _ (HNY.out.below HB9.out) HNC.out HBT.out).mono ?_
               rintro e w10 ⟨rfl, hb10⟩
               rw [(deq_iff (h + 2) (ofBT (h + 1) T) (ofBT (h + 1) T)).2 rfl]
               have HB10 := hidp (HB9.out.trans (hb10.mono HB9.out.size))
               have HX10 := hidp (Bx.below HX9.out hb10 (HX9.out).1)
               have HY10 := hidp (Bx.below HY9.out hb10 (HY9.out).1)
               have p100 := HX10.out.cell 0 rfl
               have p101 := HX10.out.cell 1 rfl
               have p102 := HX10.out.cell 2 rfl
               have q100 := HY10.out.cell 0 rfl
               have q101 := HY10.out.cell 1 rfl
               have q102 := HY10.out.cell 2 rfl
               clear hb10)
            | (go_at_call 14
               refine (items_is (n + 2) t (HN.out.below (HB3.out.trans ((HB5.out.trans (HB11.out.mono HB5.out.size)).mono HB3.out.size))) (by omega)).mono ?_
               rintro e w12 ⟨u12, rfl, ho⟩
               have HI12 := hidp ho.its
               obtain ⟨_, _, _, hb12⟩ := ho
               obtain ⟨g3, g4, rfl, _⟩ := HI12.out
               have HI12b := hidp (HI11.out.below hb12)
               have HB12 := hidp (HB11.out.trans (hb12.mono HB11.out.size))
               have HX12 := hidp (Bx.below HX11.out hb12 (HX11.out).1)
               have HY12 := hidp (Bx.below HY11.out hb12 (HY11.out).1)
               have p120 := HX12.out.cell 0 rfl
               have p121 := HX12.out.cell 1 rfl
               have p122 := HX12.out.cell 2 rfl
               have q120 := HY12.out.cell 0 rfl
               have q121 := HY12.out.cell 1 rfl
               have q122 := HY12.out.cell 2 rfl
               clear hb12)
            | (go_at_call 14
               refine (items_is (h + 2) _ (HNY.out.below HB10.out) HBT.out).mono ?_
               rintro e w11 ⟨u11, rfl, ho⟩
               have HI11 := hidp ho.its
               obtain ⟨_, _, _, hb11⟩ := ho
               obtain ⟨g1, g2, rfl, _⟩ := HI11.out
               have HB11 := hidp (HB10.out.trans (hb11.mono HB10.out.size))
               have HX11 := hidp (Bx.below HX10.out hb11 (HX10.out).1)
               have HY11 := hidp (Bx.below HY10.out hb11 (HY10.out).1)
               have p110 := HX11.out.cell 0 rfl
               have p111 := HX11.out.cell 1 rfl
               have p112 := HX11.out.cell 2 rfl
               have q110 := HY11.out.cell 0 rfl
               have q111 := HY11.out.cell 1 rfl
               have q112 := HY11.out.cell 2 rfl
               clear hb11)
            | (go_at_call 13
               refine (aliveD_is _).mono ?_
               rintro e w14 ⟨rfl, hb14⟩
               have HB14 := hidp (HB13.out.trans (hb14.mono HB13.out.size))
               have HX14 := hidp (Bx.below HX13.out hb14 (HX13.out).1)
               have HY14 := hidp (Bx.below HY13.out hb14 (HY13.out).1)
               have p140 := HX14.out.cell 0 rfl
               have p141 := HX14.out.cell 1 rfl
               have p142 := HX14.out.cell 2 rfl
               have q140 := HY14.out.cell 0 rfl
               have q141 := HY14.out.cell 1 rfl
               have q142 := HY14.out.cell 2 rfl
               clear hb14)
            | (go_at_call 24
               refine (HEQ.out _ _ _ HI12b.out HI12.out).mono ?_
               rintro e w13 ⟨rfl, an, rfl⟩
               have HB13 := hidp (Below.drewN HB12.out an)
               have hb13 : Below w12.heap.size w12 (w12.drewN an) := Below.drewN (Below.refl _ _) an
               have HX13 := hidp (Bx.below HX12.out hb13 (HX12.out).1)
               have HY13 := hidp (Bx.below HY12.out hb13 (HY12.out).1)
               have p130 := HX13.out.cell 0 rfl
               have p131 := HX13.out.cell 1 rfl
               have p132 := HX13.out.cell 2 rfl
               have q130 := HY13.out.cell 0 rfl
               have q131 := HY13.out.cell 1 rfl
               have q132 := HY13.out.cell 2 rfl
               clear hb13)))
        have HBZ := hidp (HB3.out.trans ((HB5.out.trans (HB14.out.mono HB5.out.size)).mono HB3.out.size))
        go_wp2
        go_ret
        exact ⟨rfl, HBZ.out⟩
  · rw [decide_eq_false hd] at HF
    clear hd
    have HA := hidp (aliveD_is w2)
    go_wp2_with fail
    refine HF.out.mono ?_
    rintro e w' ⟨rfl, rfl⟩
    go_wp2_with fail
    refine HA.out.mono ?_
    rintro e w4 ⟨rfl, hb4⟩
    have HB4 := hidp (HB2.out.trans (hb4.mono HB2.out.size))
    clear hb4 HA
    go_wp2
    go_ret
    exact ⟨rfl, HB4.out⟩
end Go.Proofs.Ytehnobbiiokcgaa.Bt.ND
