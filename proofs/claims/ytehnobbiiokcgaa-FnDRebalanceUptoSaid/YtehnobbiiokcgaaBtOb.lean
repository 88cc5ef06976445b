/- The reference: RightCounts, slices.Equal of items, holds. -/
import Derived.Test.YtehnobbiiokcgaaBtNx
import Derived.BigQuiet
namespace Go.Proofs.Ytehnobbiiokcgaa.Bt.ND
set_option linter.unusedVariables false
set_option linter.unusedSimpArgs false
open Go Go.RowKit Go.Proofs.Ytehnobbiiokcgaa.Bt

set_option maxHeartbeats 1000000 in
set_option maxRecDepth 100000 in
/-- 'slices.Equal' of items -/
theorem equal_its {w : World} {v u : Value} {l : List Im} (hv : Its w v l) (hu : Its w u l) (hl : l.length ≤ 9223372036854775807) : Calls Try.prog 24 #[v, u] w (fun e w' => e = .returned (.bool true) ∧ ∃ a, w' = w.drewN a) := by
  obtain ⟨a, cap, rfl, _, hc⟩ := hv
  obtain ⟨a', cap', rfl, _, hc'⟩ := hu
  have HC := hidp hc
  have HC' := hidp hc'
  clear hc hc'
  go_enter Try.func24, Try.ntmps24
  go_wp2
  go_loopw [13] (fun i wr => ∃ j n : Nat, j ≤ l.length ∧ i = .int .i64 j ∧ wr = w.drewN n) (fun i _ => l.length - (intOf i).toNat)
  case atStart => exact ⟨0, 0, Nat.zero_le _, rfl, rfl⟩
  case round =>
    obtain ⟨j, n, hj, rfl, rfl⟩ := hrel
    by_cases hlt : j < l.length
    · obtain ⟨x, hx⟩ : ∃ x, l[j]? = some x := ⟨l[j], List.getElem?_eq_getElem hlt⟩
      obtain ⟨b, off, rfl, cx, cy⟩ := HC.out j x hx
      obtain ⟨b', off', rfl, cx', cy'⟩ := HC'.out j x hx
      have jlt : (j : Int) < (l.length : Int) := by omega
      clear hx
      go_wp2
      go_quiet (fail)
      go_wp2
      go_roundw
      case rel => exact ⟨j + 1, _, by omega, by go_num, rfl⟩
      case measure => simp [intOf]; omega
    · obtain rfl : j = l.length := by omega
      go_wp2
      go_ret
      exact ⟨rfl, _, rfl⟩

set_option maxHeartbeats 4000000 in
set_option maxRecDepth 100000 in
/-- 'RightCounts' of a node whose counts are right. -/
theorem rc_is : ∀ (n : Nat) (t : DT n) {w : World} {vi vk : Value} {c : Int}, rc n t = true → NodeAt w n t vi vk c → bulk n t ≤ 10000000 →
    Calls Try.prog 65 #[.agg #[vi, vk, .int .i64 c]] w (fun e w' => e = .returned (.bool true) ∧ Below w.heap.size w w')
  | 0, _, _, _, _, _, _, h, _ => h.elim
  | n + 1, t, w, vi, vk, c, hrc, hN0, hb => by
    have IH := fun (k : DT n) => @rc_is n k
    have hN := hN0
    obtain ⟨hc, ⟨ia, icap, rfl, _, hi⟩, a, cap, rfl, hlc, hk⟩ := hN
    have hkl := Nat.le_trans (kids_len t (fun k _ => bulk_pos' k)) hb
    have hr1 : t.2.1.all (rc n) = true ∧ c = ((dAll (n + 1) t).length : Nat) := by
      have h : (t.2.1.all (rc n) && decide (t.2.2 = (((dAll (n + 1) t).length : Nat) : Int))) = true := hrc
      rw [Bool.and_eq_true, decide_eq_true_eq] at h
      exact ⟨h.1, hc.trans h.2⟩
    have hB1 : Below w.heap.size w (w.alloc (.cells #[.slice ia t.1.length icap, .slice a t.2.1.length cap, .int .i64 c] 25)) := (Below.refl _ _).alloc (Nat.le_refl _) _
    obtain ⟨w1, hw1⟩ : ∃ w1, w1 = w.alloc (.cells #[.slice ia t.1.length icap, .slice a t.2.1.length cap, .int .i64 c] 25) := ⟨_, rfl⟩
    have hx : Bx w1 w.heap.size [.slice ia t.1.length icap, .slice a t.2.1.length cap, .int .i64 c] := by rw [hw1]; exact Bx.new w [.slice ia t.1.length icap, .slice a t.2.1.length cap, .int .i64 c] 25
    rw [← hw1] at hB1
    have HX := hidp hx
    have HB1 := hidp hB1
    have HK : Hid (∀ j k, t.2.1[j]? = some k → ∃ b off vi' vk' c', a = some ⟨b, off, none⟩ ∧ b < w1.heap.size ∧ w1.cell? ⟨b, off + j * 3, none⟩ = some vi' ∧ w1.cell? ⟨b, off + j * 3 + 1, none⟩ = some vk' ∧ w1.cell? ⟨b, off + j * 3 + 2, none⟩ = some (.int .i64 c') ∧ NodeAt w1 n k vi' vk' c') := hidp fun j k hj => by
      obtain ⟨b, off, vi', vk', c', e, g1, g2, g3, g4⟩ := hk j k hj
      have hbl : b < w.heap.size := World.block_lt_of_cell? w _ g1
      have := hB1.size
      exact ⟨b, off, vi', vk', c', e, by omega, (hB1.cell (p := ⟨b, off + j * 3, none⟩) hbl).trans g1, (hB1.cell (p := ⟨b, off + j * 3 + 1, none⟩) hbl).trans g2, (hB1.cell (p := ⟨b, off + j * 3 + 2, none⟩) hbl).trans g3, g4.below hB1⟩
    have HN := hidp (hN0.below hB1)
    have HRC := hidp hr1
    have HW1 := hidp hw1
    have HIH := hidp IH
    have x1 := hx.cell 1 rfl
    rw [hw1] at x1
    clear hi hk hB1 hx hN0 hrc hc hw1 IH hr1
    go_enter Try.func65, Try.ntmps65
    go_wp2
    rw [← HW1.out]
    clear x1
    go_loopw [8] (fun i wr => ∃ j : Nat, j ≤ t.2.1.length ∧ i = .int .i64 j ∧ Hid (Below w1.heap.size w1 wr)) (fun i _ => t.2.1.length - (intOf i).toNat)
    case atStart => exact ⟨0, Nat.zero_le _, rfl, hidp (Below.refl _ _)⟩
    case round =>
      obtain ⟨j, hj, rfl, HBR⟩ := hrel
      by_cases hlt : j < t.2.1.length
      · obtain ⟨k', hk'⟩ : ∃ k', t.2.1[j]? = some k' := ⟨t.2.1[j], List.getElem?_eq_getElem hlt⟩
        obtain ⟨b, off, vi', vk', c', rfl, hbl, g1, g2, g3, hn'⟩ := HK.out j k' hk'
        have y1 := (HBR.out.cell (p := ⟨b, off + j * 3, none⟩) hbl).trans g1
        have y2 := (HBR.out.cell (p := ⟨b, off + j * 3 + 1, none⟩) hbl).trans g2
        have y3 := (HBR.out.cell (p := ⟨b, off + j * 3 + 2, none⟩) hbl).trans g3
        have hs0 := HBR.out.size
        obtain ⟨⟨i1, i2, icap', rfl⟩, q1, q2, kcap', rfl⟩ := hn'.vals
        have hBA := HBR.out.alloc hs0 (.cells #[.slice i1 i2 icap', .slice q1 q2 kcap', .int .i64 c'] 25)
        have hbk := bulk_kid (t := t) (j := j) (k := k') hk'
        have HI := hidp (HIH.out k' (List.all_eq_true.1 HRC.out.1 k' (List.mem_of_getElem? hk')) (hn'.below hBA) (by omega))
        have HBA := hidp hBA
        have jlt : (j : Int) < (t.2.1.length : Int) := by omega
        clear g1 g2 g3 hBA hk' hn'
        go_wp2_with fail
        refine HI.out.mono ?_
        rintro e w3 ⟨rfl, hb3⟩
        have HB3 := hidp (HBA.out.trans (hb3.mono (by rw [World.size_alloc]; omega)))
        clear hb3 HI HBA
        go_wp2
        go_roundw
        case rel => exact ⟨j + 1, by omega, by go_num, HB3⟩
        case measure => simp [intOf]; omega
      · obtain rfl : j = t.2.1.length := by omega
        have hxr := Bx.below HX.out HBR.out HX.out.1
        have x0 := hxr.cell 0 rfl
        have x1 := hxr.cell 1 rfl
        have x2 := hxr.cell 2 rfl
        have hlr := hxr.1
        have hs0 := HBR.out.size
        have hlx := HX.out.1
        clear hxr
        go_wp2_with fail
        go_region_held3 (fun w' => w'.cell? ⟨w.heap.size, 0, none⟩ = some (.slice ia t.1.length icap) ∧ w'.cell? ⟨w.heap.size, 1, none⟩ = some (.slice a t.2.1.length cap) ∧ w'.cell? ⟨w.heap.size, 2, none⟩ = some (.int .i64 c)) (go_keep)
          ((go_at_call 14
            refine (items_is (n + 1) t (HN.out.below HBR.out.drew) hb).mono ?_
            rintro e w4 ⟨u, rfl, ho⟩
            obtain ⟨ua, ucap, hu, _, _⟩ := ho.its
            subst hu
            obtain ⟨_, _, _, hb4⟩ := ho
            have k0 := (hb4.cell (p := ⟨w.heap.size, 0, none⟩) hlr).trans x0
            have k1 := (hb4.cell (p := ⟨w.heap.size, 1, none⟩) hlr).trans x1
            have k2 := (hb4.cell (p := ⟨w.heap.size, 2, none⟩) hlr).trans x2
            have HB4 := hidp (HB1.out.trans ((HBR.out.drew.trans (hb4.mono hs0)).mono (by omega)))
            clear hb4))
        go_wp2
        go_ret
        refine ⟨?_, HB4.out⟩
        have hcc : c = ((dAll (n + 1) t).length : Nat) := HRC.out.2
        first | rfl | (rw [hcc]; simp)

set_option maxHeartbeats 4000000 in
set_option maxRecDepth 100000 in
/-- 'holds' of a node of which it holds. -/
theorem holds_is {D : Nat} (hD : 2 ≤ D) (hD2 : D ≤ 1000) {n : Nat} {t : DT (n + 1)} (hv : validB D (n + 1) t = true) (hr : rc (n + 1) t = true) {w : World} {vi vk : Value} {c : Int} (hN : NodeAt w (n + 1) t vi vk c) (hb : bulk (n + 1) t ≤ 10000000) {u : Value} (hu : Its w u (dAll (n + 1) t)) :
    Calls Try.prog 29 #[.agg #[.slice none 0 0, .int .i64 D, .bool false], .agg #[vi, vk, .int .i64 c], u] w (fun e w' => e = .returned (.bool true) ∧ Below w.heap.size w w') := by
  obtain ⟨⟨i1, i2, icap, rfl⟩, q1, q2, kcap, rfl⟩ := hN.vals
  have hus := hu
  obtain ⟨ua, ucap, hu0, _, _⟩ := hu
  subst hu0
  obtain ⟨w1, hw1⟩ : ∃ w1, w1 = (w.alloc (.cells #[.slice none 0 0, .int .i64 D, .bool false] 45)).alloc (.cells #[.slice i1 i2 icap, .slice q1 q2 kcap, .int .i64 c] 25) := ⟨_, rfl⟩
  have hsz1 : w1.heap.size = w.heap.size + 2 := by rw [hw1]; simp
  have hB1 : Below w.heap.size w w1 := by rw [hw1]; exact ((Below.refl _ _).alloc (Nat.le_refl _) _).alloc (by rw [World.size_alloc]; omega) _
  have hx0 : Bx w1 w.heap.size [.slice none 0 0, .int .i64 D, .bool false] := by rw [hw1]; exact (Bx.new w [.slice none 0 0, .int .i64 D, .bool false] 45).alloc _
  have hx1 : Bx w1 (w.heap.size + 1) [.slice i1 i2 icap, .slice q1 q2 kcap, .int .i64 c] := by
    rw [hw1]
    have h := Bx.new (w.alloc (.cells #[.slice none 0 0, .int .i64 D, .bool false] 45)) [.slice i1 i2 icap, .slice q1 q2 kcap, .int .i64 c] 25
    rw [World.size_alloc] at h
    exact h
  have HN := hidp (hN.below hB1)
  have HU := hidp (hus.below hB1)
  have HB1 := hidp hB1
  have HX0 := hidp hx0
  have HX1 := hidp hx1
  have HW1 := hidp hw1
  have HVR := hidp (And.intro hv hr)
  have hl1 := hx1.1
  have hl0 := hx0.1
  have a0 := hx0.cell 0 rfl
  have a1 := hx0.cell 1 rfl
  have a2 := hx0.cell 2 rfl
  have b0 := hx1.cell 0 rfl
  have b1 := hx1.cell 1 rfl
  have b2 := hx1.cell 2 rfl
  clear hN hus hB1 hx0 hx1 hv hr
  go_enter Try.func29, Try.ntmps29
  go_wp2_with fail
  rw [← hw1]
  clear hw1
  have hva := valid_is hD hD2 HN.out hb
  rw [HVR.out.1] at hva
  refine hva.mono ?_
  rintro e w2 ⟨rfl, hb2⟩
  clear hva a0 a1 a2 b0 b1 b2
  have HX1b := hidp (Bx.below HX1.out hb2 hl1)
  have HB2 := hidp hb2
  have d0 := HX1b.out.cell 0 rfl
  have d1 := HX1b.out.cell 1 rfl
  have d2 := HX1b.out.cell 2 rfl
  clear hb2
  go_wp2_with fail
  refine (rc_is (n + 1) t HVR.out.2 (HN.out.below HB2.out) hb).mono ?_
  rintro e w3 ⟨rfl, hb3⟩
  clear d0 d1 d2
  have HX1c := hidp (Bx.below HX1b.out hb3 HX1b.out.1)
  have HB3 := hidp (HB2.out.trans (hb3.mono HB2.out.size))
  have f0 := HX1c.out.cell 0 rfl
  have f1 := HX1c.out.cell 1 rfl
  have f2 := HX1c.out.cell 2 rfl
  clear hb3
  go_wp2_with fail
  refine (items_is (n + 1) t (HN.out.below HB3.out) hb).mono ?_
  rintro e w4 ⟨u4, rfl, ho⟩
  have HI4 := hidp ho.its
  obtain ⟨_, _, _, hb4⟩ := ho
  have HB4 := hidp (HB3.out.trans (hb4.mono HB3.out.size))
  clear hb4 f0 f1 f2
  go_wp2_with fail
  refine (equal_its HI4.out (HU.out.below HB4.out) (by have := dAll_bulk (n + 1) t; omega)).mono ?_
  rintro e w5 ⟨rfl, q5, rfl⟩
  go_wp2
  go_ret
  exact ⟨rfl, Below.drewN (HB1.out.trans (HB4.out.mono (by have := HB1.out.size; omega))) _⟩
end Go.Proofs.Ytehnobbiiokcgaa.Bt.ND
