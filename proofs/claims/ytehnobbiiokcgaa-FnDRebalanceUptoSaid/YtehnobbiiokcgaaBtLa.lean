/- Nodes as data: spec.Lacks. -/
import Derived.Test.YtehnobbiiokcgaaBtLb
import Derived.BigQuiet
import Derived.Deep.RegionHeld3
namespace Go.Proofs.Ytehnobbiiokcgaa.Bt.ND
set_option linter.unusedVariables false
set_option linter.unusedSimpArgs false
open Go Go.RowKit Go.Proofs.Ytehnobbiiokcgaa.Bt

theorem NodeAt.its_len {w : World} : ∀ {n : Nat} {t : DT n} {vi vk : Value} {c : Int}, NodeAt w n t vi vk c → ∃ a cap, vi = .slice a (dIts n t).length cap
  | 0, _, _, _, _, h => h.elim
  | _ + 1, _, _, _, _, h => by
    obtain ⟨_, ⟨a, cap, e, _⟩, _⟩ := h
    exact ⟨a, cap, e⟩
set_option maxHeartbeats 4000000 in
set_option maxRecDepth 100000 in
/-- 'spec.Lacks' -/
theorem lacks_is {D : Nat} (hD : 2 ≤ D) (hD2 : D ≤ 1000) {n : Nat} {t : DT (n + 1)} {w : World} {vi vk : Value} {c : Int} (hN : NodeAt w (n + 1) t vi vk c) (hb : bulk (n + 1) t ≤ 10000000) (i : Int) :
    Calls Try.prog 20 #[.agg #[.slice none 0 0, .int .i64 D, .bool false], .agg #[vi, vk, .int .i64 c], .int .i64 i] w (fun e w' => ∃ b, e = .returned (.bool b) ∧ (b = true → ∃ p, LackP D t i p) ∧ Below w.heap.size w w') := by
  have HN := hidp hN
  have hkl := Nat.le_trans (kids_len t (fun k _ => bulk_pos' k)) hb
  have hil : t.1.length ≤ 10000000 := by have : t.1.length ≤ bulk (n + 1) t := (by show t.1.length ≤ 1 + t.1.length + (t.2.1.map (bulk n)).sum; omega); omega
  obtain ⟨hc, ⟨ia, icap, rfl, _, hi⟩, a, cap, rfl, hlc, hk⟩ := hN
  have HK := hidp hk
  have HB := hidp hb
  clear hi hk hc hb
  obtain ⟨P, hP⟩ : ∃ P, P = t.1.length := ⟨_, rfl⟩
  obtain ⟨Q, hQ⟩ : ∃ Q, Q = t.2.1.length := ⟨_, rfl⟩
  rw [← hP] at hil HN ⊢
  rw [← hQ] at hkl hlc HN ⊢
  obtain ⟨w1, hw1⟩ : ∃ w1, w1 = (w.alloc (.cells #[.slice none 0 0, .int .i64 D, .bool false] 45)).alloc (.cells #[.slice ia P icap, .slice a Q cap, .int .i64 c] 25) := ⟨_, rfl⟩
  have hsz1 : w1.heap.size = w.heap.size + 2 := by rw [hw1]; simp
  have hB1 : Below w.heap.size w w1 := by rw [hw1]; exact ((Below.refl _ _).alloc (Nat.le_refl _) _).alloc (by rw [World.size_alloc]; omega) _
  have hx0 : Bx w1 w.heap.size [.slice none 0 0, .int .i64 D, .bool false] := by rw [hw1]; exact (Bx.new w [.slice none 0 0, .int .i64 D, .bool false] 45).alloc _
  have hx1 : Bx w1 (w.heap.size + 1) [.slice ia P icap, .slice a Q cap, .int .i64 c] := by
    rw [hw1]
    have h := Bx.new (w.alloc (.cells #[.slice none 0 0, .int .i64 D, .bool false] 45)) [.slice ia P icap, .slice a Q cap, .int .i64 c] 25
    rw [World.size_alloc] at h
    exact h
  have HX0 := hidp hx0
  have HX1 := hidp hx1
  have HB1 := hidp hB1
  have HPQ := hidp (And.intro hP hQ)
  have m1 := hx0.cell 1 rfl
  have n0 := hx1.cell 0 rfl
  have n1 := hx1.cell 1 rfl
  have HWD := hidp (width_is w1 hD)
  have hm1 : IntKind.i64.wrap (2 * (D : Int)) = 2 * (D : Int) := by rw [Last.i64_w, IntWalk.wrap64_in _ ⟨by omega, by omega⟩]
  have hm2 : IntKind.i64.wrap (2 * (D : Int) - 1) = 2 * (D : Int) - 1 := by rw [Last.i64_w, IntWalk.wrap64_in _ ⟨by omega, by omega⟩]
  have hm3 : IntKind.i64.wrap ((D : Int) - 2) = (D : Int) - 2 := by rw [Last.i64_w, IntWalk.wrap64_in _ ⟨by omega, by omega⟩]
  have hm4 : IntKind.i64.wrap ((D : Int) - 1) = (D : Int) - 1 := by rw [Last.i64_w, IntWalk.wrap64_in _ ⟨by omega, by omega⟩]
  have hlt0 : w.heap.size < w1.heap.size := by omega
  have hlt1 : w.heap.size + 1 < w1.heap.size := by omega
  clear hx0 hx1 hB1 hP hQ hsz1
  go_enter Try.func20, Try.ntmps20
  go_wp2_with fail
  rw [← hw1]
  clear hw1
  refine HWD.out.mono ?_
  rintro e w2 ⟨rfl, rfl⟩
  clear HWD m1
  by_cases hA : i < 0
  · go_wp2
    go_ret
    exact ⟨false, rfl, fun h => (by cases h), HB1.out⟩
  by_cases hA' : (Q : Int) ≤ i
  · go_wp2
    go_ret
    exact ⟨false, rfl, fun h => (by cases h), HB1.out⟩
  obtain ⟨p, rfl⟩ : ∃ p : Nat, i = (p : Int) := ⟨i.toNat, by omega⟩
  have hp0 : ¬ (p : Int) < 0 := by omega
  have hpq : (p : Int) < (Q : Int) := by omega
  clear hA
  by_cases hC : (P : Int) < 1
  · go_wp2
    go_ret
    exact ⟨false, rfl, fun h => (by cases h), HB1.out⟩
  by_cases hE : 2 * (D : Int) - 1 < (P : Int)
  · go_wp2
    go_ret
    exact ⟨false, rfl, fun h => (by cases h), HB1.out⟩
  obtain ⟨kp, hkp⟩ : ∃ kp, t.2.1[p]? = some kp := ⟨t.2.1[p]'(by have := HPQ.out.2; omega), List.getElem?_eq_getElem _⟩
  obtain ⟨b, off, vp, vq, cp, rfl, g1, g2, g3, hnp⟩ := HK.out p kp hkp
  obtain ⟨pa, pcap, rfl⟩ := hnp.its_len
  have hbl : b < w.heap.size := World.block_lt_of_cell? w _ g1
  have yp := (HB1.out.cell (p := ⟨b, off + p * 3, none⟩) hbl).trans g1
  obtain ⟨KP, hKP⟩ : ∃ KP, KP = (dIts n kp).length := ⟨_, rfl⟩
  rw [← hKP] at yp
  have HKP := hidp (And.intro hkp hKP)
  clear g1 g2 g3 hnp hkp hKP
  by_cases hF : (KP : Int) = (D : Int) - 2
  case neg =>
    have hFb : ((KP : Int) != (D : Int) - 2) = true := by simp [hF]
    go_wp2
    go_ret
    exact ⟨false, rfl, fun h => (by cases h), HB1.out⟩
  have hFb : ((KP : Int) != (D : Int) - 2) = false := by simp [hF]
  have HKF := hidp hF
  clear hF
  have hd1 : ((D - 1 : Nat) : Int) = (D : Int) - 1 := by omega
  have hd2 : ((D - 2 : Nat) : Int) = (D : Int) - 2 := by omega
  go_wp2
  (try generalize decide ((p : Int) < 0) = z1)
  (try generalize decide ((P : Int) < 1) = z2)
  (try generalize decide (2 * (D : Int) - 1 < (P : Int)) = z3)
  (try generalize ((KP : Int) != (D : Int) - 2) = z4)
  (try generalize decide (Q ≤ p) = z5)
  go_loopw [55] (fun i wr => ∃ j : Nat, j ≤ Q ∧ i = .int .i64 j ∧ Hid ((∀ j' k, j' < j → t.2.1[j']? = some k → filled D (if j' = p then D - 2 else D - 1) n k = true) ∧ Below w2.heap.size w2 wr)) (fun i _ => Q - (intOf i).toNat)
  case atStart => exact ⟨0, Nat.zero_le _, rfl, hidp ⟨fun j' k h => by omega, Below.refl _ _⟩⟩
  case round =>
    clear n0 yp hA' hFb hC hE
    obtain ⟨j, hj, rfl, HBR⟩ := hrel
    by_cases hlt : j < Q
    · obtain ⟨k', hk'⟩ : ∃ k', t.2.1[j]? = some k' := ⟨t.2.1[j]'(by have := HPQ.out.2; omega), List.getElem?_eq_getElem _⟩
      obtain ⟨b', off', vi', vk', c', hbe, g1, g2, g3, hn'⟩ := HK.out j k' hk'
      injection hbe with hbe
      injection hbe with hbe1 hbe2
      subst hbe1; subst hbe2
      have HBW := hidp (HB1.out.trans (HBR.out.2.mono HB1.out.size))
      have y1 := (HBW.out.cell (p := ⟨b, off + j * 3, none⟩) hbl).trans g1
      have y2 := (HBW.out.cell (p := ⟨b, off + j * 3 + 1, none⟩) hbl).trans g2
      have y3 := (HBW.out.cell (p := ⟨b, off + j * 3 + 2, none⟩) hbl).trans g3
      have hs0 := HBR.out.2.size
      obtain ⟨⟨i1, i2, icap', rfl⟩, q1, q2, kcap', rfl⟩ := hn'.vals
      have hBA := HBW.out.alloc HBW.out.size (.cells #[.slice i1 i2 icap', .slice q1 q2 kcap', .int .i64 c'] 25)
      have hBA2 := HBR.out.2.alloc hs0 (.cells #[.slice i1 i2 icap', .slice q1 q2 kcap', .int .i64 c'] 25)
      have hbk := bulk_kid (t := t) (j := j) (k := k') hk'
      have HI := hidp (filled_is hD hD2 n k' (if j = p then D - 2 else D - 1) (by split <;> omega) (hn'.below hBA) (by have := HB.out; omega))
      have HBA2 := hidp hBA2
      have HKJ := hidp hk'
      have jlt : (j : Int) < (Q : Int) := by omega
      have jps : (p : Int) < (Q : Int) := hpq
      clear g1 g2 g3 hBA hBA2 hk' hn' hbk HKP hpq
      have hdone : Hid (∀ wz, filled D (if j = p then D - 2 else D - 1) n k' = true → Below w2.heap.size w2 wz → (∀ j' k, j' < j + 1 → t.2.1[j']? = some k → filled D (if j' = p then D - 2 else D - 1) n k = true) ∧ Below w2.heap.size w2 wz) := hidp fun wz hf hbz => ⟨fun j' k hj' hk => by
        by_cases he : j' = j
        · subst he
          rw [HKJ.out] at hk
          obtain rfl := Option.some.inj hk
          exact hf
        · exact HBR.out.1 j' k (by omega) hk, hbz⟩
      by_cases hje : j = p
      · subst hje
        rw [if_pos rfl, hd2] at HI
        rw [if_pos rfl] at hdone
        cases hv : filled D (D - 2) n k' with
        | true =>
          rw [hv] at HI
          go_wp2_with fail
          refine HI.out.mono ?_
          rintro e w3 ⟨rfl, hb3⟩
          have HB3 := hidp (HBA2.out.trans (hb3.mono (by rw [World.size_alloc]; omega)))
          clear hb3 HI HBA2
          go_wp2
          go_roundw
          case rel => exact ⟨j + 1, by omega, by go_num, hidp (hdone.out _ hv HB3.out)⟩
          case measure => simp [intOf]; omega
        | false =>
          rw [hv] at HI
          go_wp2_with fail
          refine HI.out.mono ?_
          rintro e w3 ⟨rfl, hb3⟩
          have HB3 := hidp (HB1.out.trans ((HBA2.out.trans (hb3.mono (by rw [World.size_alloc]; omega))).mono HB1.out.size))
          clear hb3 HI HBA2
          go_wp2
          go_ret
          exact ⟨false, rfl, fun h => (by cases h), HB3.out⟩
      · have hjp : ¬ (j : Int) = (p : Int) := by omega
        rw [if_neg hje, hd1] at HI
        rw [if_neg hje] at hdone
        clear hje
        cases hv : filled D (D - 1) n k' with
        | true =>
          rw [hv] at HI
          go_wp2_with fail
          refine HI.out.mono ?_
          rintro e w3 ⟨rfl, hb3⟩
          have HB3 := hidp (HBA2.out.trans (hb3.mono (by rw [World.size_alloc]; omega)))
          clear hb3 HI HBA2
          go_wp2
          go_roundw
          case rel => exact ⟨j + 1, by omega, by go_num, hidp (hdone.out _ hv HB3.out)⟩
          case measure => simp [intOf]; omega
        | false =>
          rw [hv] at HI
          go_wp2_with fail
          refine HI.out.mono ?_
          rintro e w3 ⟨rfl, hb3⟩
          have HB3 := hidp (HB1.out.trans ((HBA2.out.trans (hb3.mono (by rw [World.size_alloc]; omega))).mono HB1.out.size))
          clear hb3 HI HBA2
          go_wp2
          go_ret
          exact ⟨false, rfl, fun h => (by cases h), HB3.out⟩
    · obtain rfl : j = Q := by omega
      have hxr := Bx.below HX1.out HBR.out.2 hlt1
      have hyr := Bx.below HX0.out HBR.out.2 hlt0
      have n0 := hxr.cell 0 rfl
      have n1' := hxr.cell 1 rfl
      have n2 := hxr.cell 2 rfl
      have HXR := hidp hxr
      have HYR := hidp hyr
      have HBW := hidp (HB1.out.trans (HBR.out.2.mono HB1.out.size))
      have HLV := hidp (levels_is (n + 1) t (HN.out.below HBW.out) HB.out)
      clear hxr hyr n1
      go_wp2_with fail
      refine HLV.out.mono ?_
      rintro e w3 ⟨rfl, hb3⟩
      have HX3 := hidp (Bx.below HXR.out hb3 HXR.out.1)
      have HY3 := hidp (Bx.below HYR.out hb3 HYR.out.1)
      have HB3 := hidp (HBW.out.trans (hb3.mono HBW.out.size))
      have o0 := HX3.out.cell 0 rfl
      have o1 := HX3.out.cell 1 rfl
      have o2 := HX3.out.cell 2 rfl
      have p0 := HY3.out.cell 0 rfl
      clear hb3 HLV n0 n1' n2
      cases hlv : (lev (n + 1) t).2 with
      | false =>
        go_wp2
        go_quiet (fail)
        go_wp2
        go_ret
        exact ⟨false, by simp [hlv], fun h => (by cases h), Below.drewN HB3.out _⟩
      | true =>
        go_wp2
        go_region_held3 (fun w' => w'.cell? ⟨w.heap.size + 1, 0, none⟩ = some (.slice ia P icap) ∧ w'.cell? ⟨w.heap.size + 1, 1, none⟩ = some (.slice (some ⟨b, off, none⟩) j cap) ∧ w'.cell? ⟨w.heap.size + 1, 2, none⟩ = some (.int .i64 c) ∧ w'.cell? ⟨w.heap.size, 0, none⟩ = some (.slice none 0 0)) (go_keep)
          ((first
            | (go_at_call 14
               refine (items_is (n + 1) t (HN.out.below HB3.out.drew) HB.out).mono ?_
               rintro e w4 ⟨u, rfl, ho⟩
               have HI4 := hidp ho.its
               obtain ⟨_, _, _, hb4⟩ := ho
               have HX4 := hidp (Bx.below HX3.out.drew hb4 HX3.out.1)
               have HY4 := hidp (Bx.below HY3.out.drew hb4 HY3.out.1)
               have HB4 := hidp (HB3.out.drew.trans (hb4.mono HB3.out.size))
               have k0 := HX4.out.cell 0 rfl
               have k1 := HX4.out.cell 1 rfl
               have k2 := HX4.out.cell 2 rfl
               have k3 := HY4.out.cell 0 rfl
               clear hb4)
            | (go_at_call 55
               refine (rising_is HI4.out (by have := dAll_bulk (n + 1) t; have := HB.out; omega)).mono ?_
               rintro e w5 ⟨rfl, hb5⟩
               have HX5 := hidp (Bx.below HX4.out hb5 HX4.out.1)
               have HY5 := hidp (Bx.below HY4.out hb5 HY4.out.1)
               have HB5 := hidp (HB4.out.trans (hb5.mono HB4.out.size))
               have i0 := HX5.out.cell 0 rfl
               have i1 := HX5.out.cell 1 rfl
               have i2 := HX5.out.cell 2 rfl
               have i3 := HY5.out.cell 0 rfl
               clear hb5)))
        go_wp2
        go_ret
        refine ⟨decide (rising (dAll (n + 1) t)), by simp [hlv], fun h => ⟨p, rfl, by have := HPQ.out.2; omega, by have := HPQ.out.1; omega, by have := HPQ.out.1; omega, fun k hk => ?_, fun j' k hk => ?_, hlv, of_decide_eq_true h⟩, HB5.out⟩
        · rw [HKP.out.1] at hk
          obtain rfl := Option.some.inj hk
          have h1 := HKP.out.2
          have h2 := HKF.out
          omega
        · exact HBR.out.1 j' k (by have h1 := (List.getElem?_eq_some_iff.1 hk).1; have := HPQ.out.2; omega) hk
end Go.Proofs.Ytehnobbiiokcgaa.Bt.ND
