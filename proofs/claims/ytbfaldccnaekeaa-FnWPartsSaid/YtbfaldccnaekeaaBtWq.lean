/- Maps from strings: the law of parts. -/
import Derived.Test.YtbfaldccnaekeaaBtWz
import Derived.Test.YtbfaldccnaekeaaBtWm
namespace Go.Proofs.Ytbfaldccnaekeaa.Bt.W
set_option linter.unusedVariables false
set_option linter.unusedSimpArgs false
open Go Go.RowKit Go.Proofs.Ytbfaldccnaekeaa.Bt
open Go.Proofs.Ytbfaldccnaekeaa.Bt.SI (wscan_is wscanr_is wreverse_is)

variable {w : World}

/-- The lists that lie ready: the input, its keys, its values, its words. -/
def Mid (w0 wr : World) (v ku vu su : Value) (l m : List Wd) : Prop := Wds wr v l ∧ Strs wr ku (m.map (·.1)) ∧ Ints wr vu (m.map (·.2)) ∧ Wds wr su m ∧ Below w0.heap.size w0 wr
theorem Mid.next {w0 wr w2 : World} {v ku vu su : Value} {l m : List Wd} (h : Mid w0 wr v ku vu su l m) (hb : Below wr.heap.size wr w2) : Mid w0 w2 v ku vu su l m :=
  ⟨h.1.below hb, Sls.below h.2.1 hb, Sls.below h.2.2.1 hb, h.2.2.2.1.below hb, h.2.2.2.2.trans (hb.mono h.2.2.2.2.size)⟩

set_option maxHeartbeats 2000000 in
set_option maxRecDepth 100000 in
/-- 'FnWParts' -/
theorem law_wp {d : Int} (hd1 : -9223372036854775808 ≤ d) (hd2 : d ≤ 9223372036854775807) {v : Value} {l : List Wd} (hv : Wds w v l) (hl : l.length ≤ 9223372036854775807) (hx9 : ∀ x ∈ l, x.1.size ≤ 9223372036854775807) :
    Calls Try.prog 5 #[.int .i64 d, v] w (fun e w' => e = .returned (.bool true) ∧ Below w.heap.size w w') := by
  have HF := hidp (fits8_is hv hl hx9)
  cases hf : fits8 l with
  | false =>
    rw [hf] at HF
    clear hv
    go_enter Try.func5, Try.ntmps5
    go_wp2_with fail
    refine HF.out.mono ?_
    rintro e w1 ⟨rfl, hb1⟩
    have HB1 := hidp hb1
    clear hb1 HF
    go_wp2
    go_ret
    exact ⟨rfl, HB1.out⟩
  | true =>
    rw [hf] at HF
    have hl2 : l.length ≤ 2147483647 := by
      unfold fits8 at hf
      rw [Bool.and_eq_true] at hf
      exact of_decide_eq_true hf.1
    have HV := hidp hv
    have HT : Hid (∀ w1, Calls Try.prog 15 #[.int .i64 d] w1 (fun e w' => e = .returned (.bool (fitB d)) ∧ w1 = w')) := hidp fun w1 => fit_is d hd1 hd2
    have HA : Hid (∀ w1, Calls Try.prog 16 #[] w1 (fun e w' => e = .returned (.bool true) ∧ Below w1.heap.size w1 w')) := hidp fun w1 => alivew_is
    clear hv hf
    cases ht : fitB d with
    | false =>
      rw [ht] at HT
      go_enter Try.func5, Try.ntmps5
      go_wp2_with fail
      refine HF.out.mono ?_
      rintro e w1 ⟨rfl, hb1⟩
      have HB1 := hidp hb1
      clear hb1 HF
      go_wp2_with fail
      refine (HT.out w1).mono ?_
      rintro e w2 ⟨rfl, rfl⟩
      go_wp2_with fail
      refine (HA.out _).mono ?_
      rintro e w3 ⟨rfl, hb3⟩
      have HB3 := hidp (HB1.out.trans (hb3.mono HB1.out.size))
      clear hb3
      go_wp2
      go_ret
      exact ⟨rfl, HB3.out⟩
    | true =>
      rw [ht] at HT
      obtain ⟨D, rfl, hD, hD2⟩ : ∃ D : Nat, d = (D : Int) ∧ 2 ≤ D ∧ D ≤ 400 := by
        unfold fitB at ht
        rw [Bool.and_eq_true, decide_eq_true_eq, decide_eq_true_eq] at ht
        exact ⟨d.toNat, by omega, by omega, by omega⟩
      clear ht
      have hil := insW_length l
      go_enter Try.func5, Try.ntmps5
      go_wp2_with fail
      refine HF.out.mono ?_
      rintro e w1 ⟨rfl, hb1⟩
      have HB1 := hidp hb1
      have HV1 := hidp (HV.out.below hb1)
      clear hb1 HF HV
      go_wp2_with fail
      refine (HT.out w1).mono ?_
      rintro e w2 ⟨rfl, rfl⟩
      clear HT
      have HK := hidp (wkv_is hD hD2 HV1.out (by omega))
      go_wp2_with fail
      refine HK.out.mono ?_
      rintro e w2 ⟨u2, v2, rfl, hu2, hv2, hb2⟩
      have HV2 := hidp (HV1.out.below hb2)
      have HB2 := hidp (HB1.out.trans (hb2.mono HB1.out.size))
      have HU := hidp (And.intro hu2 hv2)
      obtain ⟨a2, c2, rfl, hq2⟩ := hu2
      obtain ⟨a3, c3, rfl, hq3⟩ := hv2
      clear hq2 hq3 hb2 HK HV1 HB1
      have HS := hidp (wscanr_is hD hD2 HV2.out (by omega))
      go_wp2_with fail
      refine HS.out.mono ?_
      rintro e w4 ⟨u4, rfl, ⟨g4, r4⟩, hb4⟩
      obtain ⟨m, hm⟩ : ∃ m, m = insW l := ⟨_, rfl⟩
      have HO := hidp (Own0.of_row r4)
      have HM : Hid (Mid w w4 v (.slice a2 ((insW l).map (·.1)).length c2) (.slice a3 ((insW l).map (·.2)).length c3) u4 l (insW l)) := hidp ⟨HV2.out.below hb4, Sls.below HU.out.1 hb4, Sls.below HU.out.2 hb4, Wds.of_row r4, HB2.out.trans (hb4.mono HB2.out.size)⟩
      clear r4 hb4 HS HU HB2 HV2
      have HMM := hidp hm
      rw [← hm] at HM HO hil
      rw [List.length_map, List.length_map] at HM
      try rw [← hm]
      clear hm
      obtain ⟨a4, c4, ev4, hc4⟩ := HM.out.2.2.2.1
      subst ev4
      obtain ⟨_, _, e2, hck⟩ := HM.out.2.1
      injection e2 with e2 q1 q2
      clear q1 q2
      subst e2
      obtain ⟨_, _, e3, hcv⟩ := HM.out.2.2.1
      injection e3 with e3 q1 q2
      clear q1 q2
      subst e3
      have HCC : Hid (∀ j x, m[j]? = some x → (∃ b off, a4 = some ⟨b, off, none⟩ ∧ b < w4.heap.size ∧ w4.cell? ⟨b, off + j * 2, none⟩ = some (.string x.1) ∧ w4.cell? ⟨b, off + j * 2 + 1, none⟩ = some (.int .i64 x.2)) ∧ (∃ b off, a2 = some ⟨b, off, none⟩ ∧ b < w4.heap.size ∧ w4.cell? ⟨b, off + j, none⟩ = some (.string x.1)) ∧ (∃ b off, a3 = some ⟨b, off, none⟩ ∧ b < w4.heap.size ∧ w4.cell? ⟨b, off + j, none⟩ = some (.int .i64 x.2))) := hidp fun j x hx => by
        obtain ⟨b, off, e1, k1, k2⟩ := hc4 j x hx
        obtain ⟨b', off', e1', k1'⟩ := hck j x.1 (by rw [List.getElem?_map, hx]; rfl)
        obtain ⟨b3, off3, e3, k3⟩ := hcv j x.2 (by rw [List.getElem?_map, hx]; rfl)
        exact ⟨⟨b, off, e1, World.block_lt_of_cell? w4 _ k1, k1, k2⟩, ⟨b', off', e1', World.block_lt_of_cell? w4 _ k1', k1'⟩, ⟨b3, off3, e3, World.block_lt_of_cell? w4 _ k3, k3⟩⟩
      clear hc4 hck hcv
      go_wp2
      go_loopw [40] (fun i wr => ∃ j : Nat, j ≤ m.length ∧ i = .int .i64 j ∧ Hid (Below w4.heap.size w4 wr)) (fun i _ => m.length - (intOf i).toNat)
      case atStart => exact ⟨0, Nat.zero_le _, rfl, hidp (Below.refl _ _)⟩
      case round =>
        obtain ⟨j, hj, rfl, HL⟩ := hrel
        by_cases hlt : j < m.length
        · obtain ⟨x, hx⟩ : ∃ x, m[j]? = some x := ⟨m[j], List.getElem?_eq_getElem hlt⟩
          obtain ⟨⟨b, off, rfl, hbl, cx, cy⟩, ⟨b', off', rfl, hbl', ck⟩, ⟨b3, off3, rfl, hbl3, cv⟩⟩ := HCC.out j x hx
          have hb := HL.out
          have cx' : wr.cell? ⟨b, off + j * 2, none⟩ = some (.string x.1) := (hb.cell (p := ⟨b, off + j * 2, none⟩) hbl).trans cx
          have cy' : wr.cell? ⟨b, off + j * 2 + 1, none⟩ = some (.int .i64 x.2) := (hb.cell (p := ⟨b, off + j * 2 + 1, none⟩) hbl).trans cy
          have ck' : wr.cell? ⟨b', off' + j, none⟩ = some (.string x.1) := (hb.cell (p := ⟨b', off' + j, none⟩) hbl').trans ck
          have cv' : wr.cell? ⟨b3, off3 + j, none⟩ = some (.int .i64 x.2) := (hb.cell (p := ⟨b3, off3 + j, none⟩) hbl3).trans cv
          have jlt : (j : Int) < (m.length : Int) := by omega
          have HX := hidp (hb.alloc hb.size (.cells #[.string x.1, .int .i64 x.2] 38))
          have hbz : Below wr.heap.size wr (wr.alloc (.cells #[.string x.1, .int .i64 x.2] 38)) := (Below.refl _ _).alloc (Nat.le_refl _) _
          have ck2 : (wr.alloc (.cells #[.string x.1, .int .i64 x.2] 38)).cell? ⟨b', off' + j, none⟩ = some (.string x.1) := (hbz.cell (p := ⟨b', off' + j, none⟩) (Nat.lt_of_lt_of_le hbl' hb.size)).trans ck'
          have cv2 : (wr.alloc (.cells #[.string x.1, .int .i64 x.2] 38)).cell? ⟨b3, off3 + j, none⟩ = some (.int .i64 x.2) := (hbz.cell (p := ⟨b3, off3 + j, none⟩) (Nat.lt_of_lt_of_le hbl3 hb.size)).trans cv'
          clear hx cx cy ck cv hb HCC hbz ck' cv'
          go_wp2
          go_quiet (fail)
          go_wp2
          go_roundw
          case rel => exact ⟨j + 1, by omega, by go_num, hidp (HX.out.trans ((below_drewN _ _).mono HX.out.size))⟩
          case measure => simp [intOf]; omega
        · obtain rfl : j = m.length := by omega
          have HM1 := hidp (HM.out.next HL.out)
          clear HCC HL HM
          have HK5 := hidp (iwkeys_is hD hD2 HM1.out.1 (by omega))
          go_wp2_with fail
          refine HK5.out.mono ?_
          rintro e w5 ⟨u5, rfl, hs5, hb5⟩
          rw [← HMM.out] at hs5
          have HM5 := hidp (And.intro (HM1.out.next hb5) hs5)
          have HQ5 := hidp (equal_is hs5 (Sls.below HM1.out.2.1 hb5) (by rw [List.length_map]; omega))
          clear hs5 hb5 HM1 HK5
          go_wp2_with fail
          refine HQ5.out.mono ?_
          rintro e _ ⟨rfl, n5, rfl⟩
          have HM6 := hidp (HM5.out.1.next (below_drewN w5 n5))
          clear HM5 HQ5
          generalize w5.drewN n5 = w6 at HM6 ⊢
          have HR6 := hidp (wreverse_is hD hD2 HM6.out.1 (by omega))
          go_wp2_with fail
          refine HR6.out.mono ?_
          rintro e w7 ⟨u7, rfl, hs7, hb7⟩
          rw [← HMM.out] at hs7
          have HM7 := hidp (And.intro (HM6.out.next hb7) hs7)
          clear hs7 hb7 HM6 HR6
          have HT7 := hidp (turnedW_is HM7.out.1.2.2.2.1 HO.out (by omega))
          go_wp2_with fail
          refine HT7.out.mono ?_
          rintro e w8 ⟨u8, rfl, hs8, hb8⟩
          have HQ8 := hidp (equalw_is (HM7.out.2.below hb8) hs8 (by rw [List.length_reverse]; omega))
          have HM8 := hidp (HM7.out.1.next hb8)
          clear hs8 hb8 HM7 HT7
          go_wp2_with fail
          refine HQ8.out.mono ?_
          rintro e _ ⟨rfl, n8, rfl⟩
          have HB9 := hidp (HM8.out.next (below_drewN w8 n8)).2.2.2.2
          clear HM8 HQ8
          generalize w8.drewN n8 = w9 at HB9 ⊢
          go_wp2_with fail
          refine (HA.out _).mono ?_
          rintro e w10 ⟨rfl, hb10⟩
          have HB10 := hidp (HB9.out.trans (hb10.mono HB9.out.size))
          clear hb10
          go_wp2
          go_ret
          exact ⟨rfl, HB10.out⟩
end Go.Proofs.Ytbfaldccnaekeaa.Bt.W
