/- Nodes as data: the law FnDGet. -/
import Derived.Test.YtehnobbiiokcgaaBtNr
namespace Go.Proofs.Ytehnobbiiokcgaa.Bt.ND
set_option linter.unusedVariables false
set_option linter.unusedSimpArgs false
open Go Go.RowKit Go.Proofs.Ytehnobbiiokcgaa.Bt

theorem look_key {l : List Im} {k : Int} {y : Im} (h : look II.lt l (k, 0) = some y) : l[pos II.lt l (k, 0)]? = some y ∧ pos II.lt l (k, 0) < l.length ∧ y.1 = k := by
  obtain ⟨h1, h2, h3⟩ := look_some h
  have h4 := pos_at (lt := II.lt) h1
  refine ⟨h1, h3, ?_⟩
  simp [II.lt] at h2 h4
  omega

set_option maxHeartbeats 4000000 in
set_option maxRecDepth 100000 in
/-- The law. -/
theorem law_dget (d k : Int) {n : Nat} {t : DT (n + 1)} {w : World} {vi vk : Value} {c : Int} (hN : NodeAt w (n + 1) t vi vk c) (hb : bulk (n + 1) t ≤ 10000000) :
    Calls Try.prog 4 #[.int .i64 d, .agg #[vi, vk, .int .i64 c], .int .i64 k] w (fun e w' => e = .returned (.bool true) ∧ Below w.heap.size w w') := by
  obtain ⟨⟨i1, i2, icap, rfl⟩, q1, q2, kcap, rfl⟩ := hN.vals
  have hbx := Bx.new w [.slice i1 i2 icap, .slice q1 q2 kcap, .int .i64 c] 25
  obtain ⟨w1, hw1⟩ : ∃ w1, w1 = w.alloc (.cells #[.slice i1 i2 icap, .slice q1 q2 kcap, .int .i64 c] 25) := ⟨_, rfl⟩
  have hsz1 : w1.heap.size = w.heap.size + 1 := by rw [hw1]; simp
  have hB1 : Below w.heap.size w w1 := by rw [hw1]; exact (Below.refl _ _).alloc (Nat.le_refl _) _
  have HC1 : Hid (Cells3 w1 w.heap.size (.slice i1 i2 icap) (.slice q1 q2 kcap) c) := hidp (by rw [hw1]; exact ⟨hbx.cell 0 rfl, hbx.cell 1 rfl, hbx.cell 2 rfl⟩)
  have HB1 := hidp hB1
  have HN := hidp hN
  have HW1 := hidp hw1
  have HZ := hidp (fits3_is (hN.below hB1) hb)
  have hlt1 : w.heap.size < w1.heap.size := by omega
  clear hbx hw1 hB1 hN
  go_enter Try.func4, Try.ntmps4
  go_wp2_with fail
  rw [← HW1.out]
  refine HZ.out.mono ?_
  rintro e w2 ⟨rfl, hb2⟩
  have hB2 : Below w.heap.size w w2 := HB1.out.trans (hb2.mono (by omega))
  have HC2 := hidp (HC1.out.below hb2 hlt1)
  obtain ⟨x0, x1, x2⟩ := HC2.out
  have hlt2 : w.heap.size < w2.heap.size := by have := hb2.size; omega
  have HV := hidp (validD_is d (HN.out.below hB2) hb)
  have HB2 := hidp hB2
  clear hb2 hB2 HZ
  cases hv : (decide (2 ≤ d ∧ d ≤ 128) && validB d.toNat (n + 1) t) with
  | false =>
    rw [hv] at HV
    go_wp2_with fail
    refine HV.out.mono ?_
    rintro e w3 ⟨rfl, hb3⟩
    have HB3 := hidp (HB2.out.trans (hb3.mono (by omega)))
    have HA := hidp (aliveD_is w3)
    clear hb3 HV
    go_wp2_with fail
    refine HA.out.mono ?_
    rintro e w4 ⟨rfl, hb4⟩
    have HB4 := hidp (HB3.out.trans (hb4.mono HB3.out.size))
    clear hb4 HA
    go_wp2
    go_ret
    exact ⟨rfl, HB4.out⟩
  | true =>
    rw [hv] at HV
    rw [Bool.and_eq_true, decide_eq_true_eq] at hv
    obtain ⟨D, rfl⟩ : ∃ D : Nat, d = (D : Int) := ⟨d.toNat, by omega⟩
    obtain ⟨⟨hD1, hD2⟩, hvb⟩ := hv
    have hD1' : 2 ≤ D := by omega
    have hD2' : D ≤ 1000 := by omega
    have hvb' : validB D (n + 1) t = true := hvb
    have HVB := hidp hvb'
    clear hvb hvb'
    go_wp2_with fail
    refine HV.out.mono ?_
    rintro e w3 ⟨rfl, hb3⟩
    have hB3 : Below w.heap.size w w3 := HB2.out.trans (hb3.mono (by omega))
    have HC3 := hidp (HC2.out.below hb3 hlt2)
    obtain ⟨y0, y1, y2⟩ := HC3.out
    have hlt3 : w.heap.size < w3.heap.size := by have := hb3.size; omega
    have HIT := hidp (items_is (n + 1) t (HN.out.below hB3) hb)
    have HB3 := hidp hB3
    clear hb3 hB3 HV x0 x1 x2
    go_wp2_with fail
    refine HIT.out.mono ?_
    rintro e w4 ⟨u4, rfl, ho⟩
    have hits := ho.its
    obtain ⟨_, _, _, hb4⟩ := ho
    have hB4 : Below w.heap.size w w4 := HB3.out.trans (hb4.mono (by omega))
    have HC4 := hidp (HC3.out.below hb4 hlt3)
    have hlt4 : w.heap.size < w4.heap.size := by have := hb4.size; omega
    have HI4 := hidp hits
    have HB4 := hidp hB4
    obtain ⟨w5, hw5⟩ : ∃ w5, w5 = w4.alloc (.cells #[.int .i64 0, .int .i64 0, .bool false] 37) := ⟨_, rfl⟩
    have hx5 : Bx w5 w4.heap.size [.int .i64 0, .int .i64 0, .bool false] := by rw [hw5]; exact Bx.new w4 [.int .i64 0, .int .i64 0, .bool false] 37
    have hB5 : Below w4.heap.size w4 w5 := by rw [hw5]; exact (Below.refl w4.heap.size w4).alloc (Nat.le_refl _) _
    have hsz5 := hB5.size
    have HX5 := hidp hx5
    have HC5 := hidp (HC4.out.below hB5 hlt4)
    have HB5 := hidp (hB4.trans (hB5.mono (by omega)))
    have HW5 := hidp hw5
    have HBI := hidp hB5
    have HPL := hidp (place_nil (Its.below hits hB5) (by have := dAll_bulk (n + 1) t; omega) (k, 0))
    obtain ⟨ua, ucap, hu4, hlc, hit⟩ := hits
    have HIT4 := hidp hit
    have hlt5 : w.heap.size < w5.heap.size := by omega
    have hbd5 : w4.heap.size < w5.heap.size := hx5.1
    clear hb4 hB4 HIT y0 y1 y2 hx5 hw5 hB5 hit hlc
    subst hu4
    have hlen : (dAll (n + 1) t).length ≤ 10000000 := by have := dAll_bulk (n + 1) t; omega
    obtain ⟨y0, y1, y2⟩ := HC4.out
    go_wp2_with fail
    rw [← HW5.out]
    refine HPL.out.mono ?_
    rintro e w6 ⟨rfl, hb6⟩
    have HX6 := hidp (Bx.below HX5.out hb6 hbd5)
    have HC6 := hidp (HC5.out.below hb6 hlt5)
    have HB6 := hidp (HB5.out.trans (hb6.mono (by omega)))
    have hsz6 := hb6.size
    have HI6 : Hid (∀ (j : Nat) (y : Im), (dAll (n + 1) t)[j]? = some y → ∃ b off, ua = some ⟨b, off, none⟩ ∧ b < w4.heap.size ∧ w6.cell? ⟨b, off + j * 2, none⟩ = some (.int .i64 y.1) ∧ w6.cell? ⟨b, off + j * 2 + 1, none⟩ = some (.int .i64 y.2)) := hidp fun j y hy => by
      obtain ⟨b, off, e, f1, f2⟩ := HIT4.out j y hy
      have hbl : b < w4.heap.size := World.block_lt_of_cell? w4 _ f1
      exact ⟨b, off, e, hbl, (hb6.cell (p := ⟨b, off + j * 2, none⟩) (by show b < w5.heap.size; omega)).trans ((HBI.out.cell (p := ⟨b, off + j * 2, none⟩) hbl).trans f1), (hb6.cell (p := ⟨b, off + j * 2 + 1, none⟩) (by show b < w5.heap.size; omega)).trans ((HBI.out.cell (p := ⟨b, off + j * 2 + 1, none⟩) hbl).trans f2)⟩
    have HDG : Hid (∀ w' : World, Below w.heap.size w w' → Calls Try.prog 18 #[.int .i64 D, .agg #[.slice i1 i2 icap, .slice q1 q2 kcap, .int .i64 c], .int .i64 k] w' (fun e w2 => e = .returned (fo k (look II.lt (dAll (n + 1) t) (k, 0))) ∧ Below w'.heap.size w' w2)) := hidp fun w' hw' =>
      dget_is hD1' hD2' HVB.out (HN.out.below hw') hb k
    clear hb6 HPL HX5 HC5 y0 y1 y2
    obtain ⟨z0, z1, z2⟩ := HC6.out
    have d0 := HX6.out.cell 0 rfl
    have d1 := HX6.out.cell 1 rfl
    have d2 := HX6.out.cell 2 rfl
    have g0 := HX6.out.froz 0 (v := .int .i64 0) rfl
    have g1 := HX6.out.froz 1 (v := .int .i64 0) rfl
    have g2 := HX6.out.froz 2 (v := .bool false) rfl
    have hbd6 := HX6.out.1
    have hlt6 : w.heap.size < w6.heap.size := by omega
    cases ho2 : look II.lt (dAll (n + 1) t) (k, 0) with
    | none =>
      rw [ho2] at HDG
      rw [fnd_none ho2]
      clear ho2
      go_wp2_with fail
      go_region_held3 (fun w' => w'.cell? ⟨w.heap.size, 0, none⟩ = some (.slice i1 i2 icap) ∧ w'.cell? ⟨w.heap.size, 1, none⟩ = some (.slice q1 q2 kcap) ∧ w'.cell? ⟨w.heap.size, 2, none⟩ = some (.int .i64 c) ∧ w'.cell? ⟨w4.heap.size, 0, none⟩ = some (.int .i64 0) ∧ w'.cell? ⟨w4.heap.size, 1, none⟩ = some (.int .i64 0) ∧ w'.cell? ⟨w4.heap.size, 2, none⟩ = some (.bool false)) (go_keep)
        ((first
          | (go_at_call 18
             refine (HDG.out _ HB6.out.drew).mono ?_
             rintro e w7 ⟨rfl, hb7⟩
             simp only [fo, fdv]
             obtain ⟨k0, k1, k2⟩ := Cells3.below (w := w6.drew) HC6.out hb7 (by show w.heap.size < w6.heap.size; omega)
             have k3 := (hb7.cell (p := ⟨w4.heap.size, 0, none⟩) (by show w4.heap.size < w6.heap.size; omega)).trans d0
             have k4 := (hb7.cell (p := ⟨w4.heap.size, 1, none⟩) (by show w4.heap.size < w6.heap.size; omega)).trans d1
             have k5 := (hb7.cell (p := ⟨w4.heap.size, 2, none⟩) (by show w4.heap.size < w6.heap.size; omega)).trans d2
             have HB7 := hidp (HB6.out.drew.trans (hb7.mono (by show w.heap.size ≤ w6.heap.size; omega)))
             have hs7 : w6.heap.size ≤ w7.heap.size := hb7.size
             clear hb7)
          | (go_at_call 13
             refine (aliveD_is w7).mono ?_
             rintro e w8 ⟨rfl, hb8⟩
             have j0 := (hb8.cell (p := ⟨w.heap.size, 0, none⟩) (by show w.heap.size < w7.heap.size; omega)).trans k0
             have j1 := (hb8.cell (p := ⟨w.heap.size, 1, none⟩) (by show w.heap.size < w7.heap.size; omega)).trans k1
             have j2 := (hb8.cell (p := ⟨w.heap.size, 2, none⟩) (by show w.heap.size < w7.heap.size; omega)).trans k2
             have j3 := (hb8.cell (p := ⟨w4.heap.size, 0, none⟩) (by show w4.heap.size < w7.heap.size; omega)).trans k3
             have j4 := (hb8.cell (p := ⟨w4.heap.size, 1, none⟩) (by show w4.heap.size < w7.heap.size; omega)).trans k4
             have j5 := (hb8.cell (p := ⟨w4.heap.size, 2, none⟩) (by show w4.heap.size < w7.heap.size; omega)).trans k5
             have HB8 := hidp (HB7.out.trans (hb8.mono HB7.out.size))
             clear hb8)))
      go_wp2
      go_ret
      exact ⟨rfl, HB8.out⟩
    | some y =>
      rw [ho2] at HDG
      rw [fnd_some ho2]
      obtain ⟨hy, hpl, hyk⟩ := look_key ho2
      obtain ⟨p, hp⟩ : ∃ p, pos II.lt (dAll (n + 1) t) (k, 0) = p := ⟨_, rfl⟩
      rw [hp] at hy hpl
      obtain ⟨b, off, rfl, hbl, f1, f2⟩ := HI6.out p y hy
      rw [hyk] at f1
      rw [hp]
      have hp1 : (p : Int) < ((dAll (n + 1) t).length : Int) := by omega
      have HBX : Hid (Below w6.heap.size w6 w6) := hidp (Below.refl _ _)
      clear ho2 hy hp hyk
      go_wp2_with fail
      obtain ⟨wx, hwx⟩ : ∃ wx, wx = (((w6.setCell ⟨w4.heap.size, 0, none⟩ (.int .i64 k)).setCell ⟨w4.heap.size, 1, none⟩ (.int .i64 y.2)).setCell ⟨w4.heap.size, 2, none⟩ (.bool true)) := ⟨_, rfl⟩
      have hne : w.heap.size ≠ w4.heap.size := by omega
      have hu := (Upd.two w6 (b := w4.heap.size) (o := 0) (.int .i64 k) (.int .i64 y.2) (by rw [M_of d0 g0]; rfl) (by rw [M_of d1 g1]; rfl)).snoc (.bool true) rfl (by show (M w6 w4.heap.size 2).isSome = true; rw [M_of d2 g2]; rfl)
      have hu2 : Upd w6 wx w4.heap.size 0 [.int .i64 k, .int .i64 y.2, .bool true] := by rw [hwx]; exact hu
      have m0 : wx.cell? ⟨w4.heap.size, 0, none⟩ = some (.int .i64 k) := M_cell (hu2.M_at (j := 0) (by simp))
      have m1 : wx.cell? ⟨w4.heap.size, 1, none⟩ = some (.int .i64 y.2) := M_cell (hu2.M_at (j := 1) (by simp))
      have m2 : wx.cell? ⟨w4.heap.size, 2, none⟩ = some (.bool true) := M_cell (hu2.M_at (j := 2) (by simp))
      have HCX : Hid (Cells3 wx w.heap.size (.slice i1 i2 icap) (.slice q1 q2 kcap) c) := hidp (by
        rw [hwx]
        exact ⟨by simp [go_sem, z0, hne], by simp [go_sem, z1, hne], by simp [go_sem, z2, hne]⟩)
      have hszx : wx.heap.size = w6.heap.size := hu2.size
      have HBW := hidp (show Below w.heap.size w wx by rw [hwx]; exact ((HB6.out.setCell (by show w.heap.size ≤ w4.heap.size; omega) _).setCell (by show w.heap.size ≤ w4.heap.size; omega) _).setCell (by show w.heap.size ≤ w4.heap.size; omega) _)
      rw [← hwx]
      clear hu hu2 hwx d0 d1 d2 g0 g1 g2 z0 z1 z2 f1 f2
      obtain ⟨x0, x1, x2⟩ := HCX.out
      go_region_held3 (fun w' => w'.cell? ⟨w.heap.size, 0, none⟩ = some (.slice i1 i2 icap) ∧ w'.cell? ⟨w.heap.size, 1, none⟩ = some (.slice q1 q2 kcap) ∧ w'.cell? ⟨w.heap.size, 2, none⟩ = some (.int .i64 c) ∧ w'.cell? ⟨w4.heap.size, 0, none⟩ = some (.int .i64 k) ∧ w'.cell? ⟨w4.heap.size, 1, none⟩ = some (.int .i64 y.2) ∧ w'.cell? ⟨w4.heap.size, 2, none⟩ = some (.bool true)) (go_keep)
        ((first
          | (go_at_call 18
             refine (HDG.out _ HBW.out.drew).mono ?_
             rintro e w7 ⟨rfl, hb7⟩
             simp only [fo, fdv]
             obtain ⟨k0, k1, k2⟩ := Cells3.below (w := wx.drew) HCX.out hb7 (by show w.heap.size < wx.heap.size; omega)
             have k3 := (hb7.cell (p := ⟨w4.heap.size, 0, none⟩) (by show w4.heap.size < wx.heap.size; omega)).trans m0
             have k4 := (hb7.cell (p := ⟨w4.heap.size, 1, none⟩) (by show w4.heap.size < wx.heap.size; omega)).trans m1
             have k5 := (hb7.cell (p := ⟨w4.heap.size, 2, none⟩) (by show w4.heap.size < wx.heap.size; omega)).trans m2
             have HB7 := hidp (HBW.out.drew.trans (hb7.mono (by show w.heap.size ≤ wx.heap.size; omega)))
             have hs7 : wx.heap.size ≤ w7.heap.size := hb7.size
             clear hb7)
          | (go_at_call 13
             refine (aliveD_is w7).mono ?_
             rintro e w8 ⟨rfl, hb8⟩
             have j0 := (hb8.cell (p := ⟨w.heap.size, 0, none⟩) (by show w.heap.size < w7.heap.size; omega)).trans k0
             have j1 := (hb8.cell (p := ⟨w.heap.size, 1, none⟩) (by show w.heap.size < w7.heap.size; omega)).trans k1
             have j2 := (hb8.cell (p := ⟨w.heap.size, 2, none⟩) (by show w.heap.size < w7.heap.size; omega)).trans k2
             have j3 := (hb8.cell (p := ⟨w4.heap.size, 0, none⟩) (by show w4.heap.size < w7.heap.size; omega)).trans k3
             have j4 := (hb8.cell (p := ⟨w4.heap.size, 1, none⟩) (by show w4.heap.size < w7.heap.size; omega)).trans k4
             have j5 := (hb8.cell (p := ⟨w4.heap.size, 2, none⟩) (by show w4.heap.size < w7.heap.size; omega)).trans k5
             have HB8 := hidp (HB7.out.trans (hb8.mono HB7.out.size))
             clear hb8)))
      go_wp2
      go_ret
      exact ⟨rfl, HB8.out⟩
end Go.Proofs.Ytehnobbiiokcgaa.Bt.ND
