/- Nodes as data: the law FnDKeyValues. -/
import Derived.Test.YtehnobbiiokcgaaBtNo
namespace Go.Proofs.Ytehnobbiiokcgaa.Bt.ND
set_option linter.unusedVariables false
set_option linter.unusedSimpArgs false
open Go Go.RowKit Go.Proofs.Ytehnobbiiokcgaa.Bt

theorem Row.at {w : World} {v : Value} {n : Nat} {xs : List Value} {g : Nat} (h : Row 1 w v n xs (some g)) : ∃ cap, v = .slice (some ⟨g, 0, none⟩) n cap ∧ g < w.heap.size ∧ ∀ j u, xs[j]? = some u → w.cell? ⟨g, j, none⟩ = some u := by
  rcases h.2 with ⟨_, _, h⟩ | ⟨b, cap, e, ev, _, _, h3, hok⟩
  · cases h
  · obtain rfl := Option.some.inj e
    exact ⟨cap, ev, h3, fun j u hu => by
      have := hok.val j u hu
      rw [Nat.zero_add] at this
      exact M_cell this⟩

set_option maxHeartbeats 4000000 in
set_option maxRecDepth 100000 in
/-- The law. -/
theorem law_dkv (d : Int) {n : Nat} {t : DT (n + 1)} {w : World} {vi vk : Value} {c : Int} (hN : NodeAt w (n + 1) t vi vk c) (hb : bulk (n + 1) t ≤ 10000000) :
    Calls Try.prog 3 #[.int .i64 d, .agg #[vi, vk, .int .i64 c]] w (fun e w' => e = .returned (.bool true) ∧ Below w.heap.size w w') := by
  obtain ⟨⟨i1, i2, icap, rfl⟩, q1, q2, kcap, rfl⟩ := hN.vals
  have hbx := Bx.new w [.slice i1 i2 icap, .slice q1 q2 kcap, .int .i64 c] 25
  obtain ⟨w1, hw1⟩ : ∃ w1, w1 = w.alloc (.cells #[.slice i1 i2 icap, .slice q1 q2 kcap, .int .i64 c] 25) := ⟨_, rfl⟩
  have hsz1 : w1.heap.size = w.heap.size + 1 := by rw [hw1]; simp
  have hB1 : Below w.heap.size w w1 := by rw [hw1]; exact (Below.refl _ _).alloc (Nat.le_refl _) _
  have HC1 : Hid (Cells3 w1 w.heap.size (.slice i1 i2 icap) (.slice q1 q2 kcap) c) := hidp (by rw [hw1]; exact ⟨hbx.cell 0 rfl, hbx.cell 1 rfl, hbx.cell 2 rfl⟩)
  have HB1 := hidp hB1
  have HN := hidp hN
  have HW1 := hidp hw1
  have HZ := hidp (fits3_is (hN.below hB1) hb)
  have hlt1 : w.heap.size < w1.heap.size := by omega
  clear hbx hw1 hB1 hN
  go_enter Try.func3, Try.ntmps3
  go_wp2_with fail
  rw [← HW1.out]
  refine HZ.out.mono ?_
  rintro e w2 ⟨rfl, hb2⟩
  have hB2 : Below w.heap.size w w2 := HB1.out.trans (hb2.mono (by omega))
  have HC2 := hidp (HC1.out.below hb2 hlt1)
  obtain ⟨x0, x1, x2⟩ := HC2.out
  have hlt2 : w.heap.size < w2.heap.size := by have := hb2.size; omega
  have HV := hidp (validD_is d (HN.out.below hB2) hb)
  have HB2 := hidp hB2
  clear hb2 hB2 HZ
  cases hv : (decide (2 ≤ d ∧ d ≤ 128) && validB d.toNat (n + 1) t) with
  | false =>
    rw [hv] at HV
    go_wp2_with fail
    refine HV.out.mono ?_
    rintro e w3 ⟨rfl, hb3⟩
    have HB3 := hidp (HB2.out.trans (hb3.mono (by omega)))
    have HA := hidp (aliveD_is w3)
    clear hb3 HV
    go_wp2_with fail
    refine HA.out.mono ?_
    rintro e w4 ⟨rfl, hb4⟩
    have HB4 := hidp (HB3.out.trans (hb4.mono HB3.out.size))
    clear hb4 HA
    go_wp2
    go_ret
    exact ⟨rfl, HB4.out⟩
  | true =>
    rw [hv] at HV
    rw [Bool.and_eq_true, decide_eq_true_eq] at hv
    obtain ⟨D, rfl⟩ : ∃ D : Nat, d = (D : Int) := ⟨d.toNat, by omega⟩
    obtain ⟨⟨hD1, hD2⟩, hvb⟩ := hv
    have hvb' : validB D (n + 1) t = true := hvb
    have HVB := hidp hvb'
    clear hvb hvb'
    go_wp2_with fail
    refine HV.out.mono ?_
    rintro e w3 ⟨rfl, hb3⟩
    have hB3 : Below w.heap.size w w3 := HB2.out.trans (hb3.mono (by omega))
    have HC3 := hidp (HC2.out.below hb3 hlt2)
    obtain ⟨y0, y1, y2⟩ := HC3.out
    have hlt3 : w.heap.size < w3.heap.size := by have := hb3.size; omega
    have HIT := hidp (items_is (n + 1) t (HN.out.below hB3) hb)
    have HB3 := hidp hB3
    clear hb3 hB3 HV x0 x1 x2
    go_wp2_with fail
    refine HIT.out.mono ?_
    rintro e w4 ⟨u4, rfl, ho⟩
    have hits := ho.its
    obtain ⟨_, _, _, hb4⟩ := ho
    have hB4 : Below w.heap.size w w4 := HB3.out.trans (hb4.mono (by omega))
    have HC4 := hidp (HC3.out.below hb4 hlt3)
    obtain ⟨z0, z1, z2⟩ := HC4.out
    have hlt4 : w.heap.size < w4.heap.size := by have := hb4.size; omega
    have HKV := hidp (dkv_is (D := D) (by omega) (by omega) HVB.out (HN.out.below hB4) hb)
    obtain ⟨ua, ucap, hu4, hlc, hit⟩ := hits
    have HIC := hidp hit
    have HB4 := hidp hB4
    subst hu4
    clear hb4 hB4 HIT y0 y1 y2 hit hlc
    go_wp2_with fail
    refine HKV.out.mono ?_
    rintro e w5 ⟨ku, vu, rfl, ⟨g1, g2, r1, r2, _, _, _⟩, hb5⟩
    have hB5 : Below w.heap.size w w5 := HB4.out.trans (hb5.mono (by omega))
    have HC5 := hidp (HC4.out.below hb5 hlt4)
    obtain ⟨s0, s1, s2⟩ := HC5.out
    have hlt5 : w.heap.size < w5.heap.size := by have := hb5.size; omega
    obtain ⟨kc, rfl, kl, kat⟩ := Row.at r1
    obtain ⟨vc, rfl, vl, vat⟩ := Row.at r2
    have e1 : (II.kv (dAll (n + 1) t)).length = (dAll (n + 1) t).length := List.length_map _
    have e2 : (II.vv (dAll (n + 1) t)).length = (dAll (n + 1) t).length := List.length_map _
    have HRD := hidp (And.intro kat (And.intro vat hb5))
    have HH := hidp (nodeHeight_is (HN.out.below hB5) hb)
    have hlen : (dAll (n + 1) t).length ≤ 10000000 := by have := dAll_bulk (n + 1) t; omega
    have HB5 := hidp hB5
    rw [e1, e2]
    clear hb5 hB5 HKV z0 z1 z2 r1 r2 kat vat e1 e2
    generalize hl : dAll (n + 1) t = l at *
    go_wp2_with fail
    refine HH.out.mono ?_
    rintro e w6 ⟨rfl, hb6⟩
    have hall : ∀ j x, l[j]? = some x → ∃ b off, ua = some ⟨b, off, none⟩ ∧ w6.cell? ⟨b, off + j * 2, none⟩ = some (.int .i64 x.1) ∧ w6.cell? ⟨b, off + j * 2 + 1, none⟩ = some (.int .i64 x.2) ∧ w6.cell? ⟨g1, j, none⟩ = some (.int .i64 x.1) ∧ w6.cell? ⟨g2, j, none⟩ = some (.int .i64 x.2) := fun j x hx => by
      obtain ⟨b, off, e, f1, f2⟩ := HIC.out j x hx
      obtain ⟨kat, vat, hb5⟩ := HRD.out
      have hbl : b < w4.heap.size := World.block_lt_of_cell? w4 _ f1
      have hbl5 : b < w5.heap.size := by have := hb5.size; omega
      refine ⟨b, off, e, ?_, ?_, ?_, ?_⟩
      · exact (hb6.cell (p := ⟨b, off + j * 2, none⟩) hbl5).trans ((hb5.cell (p := ⟨b, off + j * 2, none⟩) hbl).trans f1)
      · exact (hb6.cell (p := ⟨b, off + j * 2 + 1, none⟩) hbl5).trans ((hb5.cell (p := ⟨b, off + j * 2 + 1, none⟩) hbl).trans f2)
      · exact (hb6.cell (p := ⟨g1, j, none⟩) kl).trans (kat j _ (by unfold II.kv; rw [List.getElem?_map, hx]; rfl))
      · exact (hb6.cell (p := ⟨g2, j, none⟩) vl).trans (vat j _ (by unfold II.vv; rw [List.getElem?_map, hx]; rfl))
    have HALL := hidp hall
    have HB6 := hidp (HB5.out.trans (hb6.mono (by omega)))
    clear hall hb6 HH HIC HRD s0 s1 s2
    go_wp2
    go_loopw [56] (fun i wr => ∃ j : Nat, j ≤ l.length ∧ i = .int .i64 j ∧ Hid (Below w6.heap.size w6 wr)) (fun i _ => l.length - (intOf i).toNat)
    case atStart => exact ⟨0, Nat.zero_le _, rfl, hidp (Below.refl _ _)⟩
    case round =>
      obtain ⟨j, hj, rfl, HBR⟩ := hrel
      have hs6 := HBR.out.size
      by_cases hlt : j < l.length
      · obtain ⟨x, hx⟩ : ∃ x, l[j]? = some x := ⟨l[j], List.getElem?_eq_getElem hlt⟩
        obtain ⟨b, off, rfl, f1, f2, f3, f4⟩ := HALL.out j x hx
        have c1 := (HBR.out.cell (p := ⟨b, off + j * 2, none⟩) (World.block_lt_of_cell? w6 _ f1)).trans f1
        have c2 := (HBR.out.cell (p := ⟨b, off + j * 2 + 1, none⟩) (World.block_lt_of_cell? w6 _ f2)).trans f2
        have c3 := (HBR.out.cell (p := ⟨g1, j, none⟩) (World.block_lt_of_cell? w6 _ f3)).trans f3
        have c4 := (HBR.out.cell (p := ⟨g2, j, none⟩) (World.block_lt_of_cell? w6 _ f4)).trans f4
        have jlt : (j : Int) < (l.length : Int) := by omega
        clear f1 f2 f3 f4 hx
        have hba := HBR.out.alloc hs6 (.cells #[.int .i64 x.1, .int .i64 x.2] 35)
        have m3 : (wr.alloc (.cells #[.int .i64 x.1, .int .i64 x.2] 35)).cell? ⟨g1, j, none⟩ = some (.int .i64 x.1) := (World.cell?_alloc_lt _ _ _ (World.block_lt_of_cell? wr _ c3)).trans c3
        have m4 : (wr.alloc (.cells #[.int .i64 x.1, .int .i64 x.2] 35)).cell? ⟨g2, j, none⟩ = some (.int .i64 x.2) := (World.cell?_alloc_lt _ _ _ (World.block_lt_of_cell? wr _ c4)).trans c4
        have m0 := (Bx.new wr [.int .i64 x.1, .int .i64 x.2] 35).cell 0 rfl
        have m1 := (Bx.new wr [.int .i64 x.1, .int .i64 x.2] 35).cell 1 rfl
        have HBA := hidp hba
        clear hba c3 c4
        go_wp2
        go_quiet (fail)
        go_wp2
        go_roundw
        case rel => exact ⟨j + 1, by omega, by go_num, hidp (Below.drewN HBA.out _)⟩
        case measure => simp [intOf]; omega
      · obtain rfl : j = l.length := by omega
        have HA := hidp (aliveD_is wr)
        go_wp2_with fail
        refine HA.out.mono ?_
        rintro e w7 ⟨rfl, hb7⟩
        have HB7 := hidp (HB6.out.trans ((HBR.out.trans (hb7.mono hs6)).mono HB6.out.size))
        clear hb7 HA
        go_wp2
        go_ret
        exact ⟨rfl, HB7.out⟩
end Go.Proofs.Ytehnobbiiokcgaa.Bt.ND
