/- Maps from strings: the law of WKeyValues, walked. -/
import Derived.Test.YtbfaldccnaekeaaBtWa
import Derived.Deep.QuietTactic
import Derived.BigQuiet
namespace Go.Proofs.Ytbfaldccnaekeaa.Bt.W
set_option linter.unusedVariables false
set_option linter.unusedSimpArgs false
open Go Go.RowKit Go.Proofs.Ytbfaldccnaekeaa.Bt

variable {w : World}

theorem infoI : (Try.prog.info? 3).map (fun i => (i.zero, i.size, i.bytes)) = some (some (.int .i64 0), 1, 8) := by kernel_rfl
def PostI (w : World) (m : List Int) (e : Ending) (w' : World) : Prop := ∃ u g, e = .returned u ∧ Row 1 w' u m.length (m.map (Value.int .i64)) g ∧ (∀ b, g = some b → w.heap.size ≤ b) ∧ Below w.heap.size w w'
set_option maxHeartbeats 2000000 in
set_option maxRecDepth 100000 in
/-- 'WValues' -/
theorem wvalues_is {v : Value} {l : List Wd} (hv : Wds w v l) (hl : l.length ≤ 4294967296) :
    Calls Try.prog 21 #[v] w (PostI w ((insW l).map (·.2))) := by
  have HW := hidp (words_is hv hl)
  have hlen := insW_length l
  clear hv
  obtain ⟨i0, hi0, hz0, hz1, hz2⟩ := info_parts infoI
  have HI0 := hidp hi0
  have HZ0 := hidp hz0
  have HZ1 := hidp hz1
  have HZ2 := hidp hz2
  clear hi0 hz0 hz1 hz2
  go_enter Try.func21, Try.ntmps21
  go_wp2_with fail
  refine HW.out.mono ?_
  rintro e w1 ⟨u, g, rfl, hr, _, hb1⟩
  clear HW
  obtain ⟨m, hm⟩ : ∃ m, m = insW l := ⟨_, rfl⟩
  rw [← hm] at hr hlen
  have HM := hidp hm
  clear hm
  have hs1 : w.heap.size ≤ w1.heap.size := hb1.size
  have HB1 := hidp hb1
  obtain ⟨a, cap, rfl, hc⟩ := Wds.of_row hr
  have hc' : ∀ j x, m[j]? = some x → ∃ b off, a = some ⟨b, off, none⟩ ∧ b < w1.heap.size ∧ w1.cell? ⟨b, off + j * 2, none⟩ = some (.string x.1) ∧ w1.cell? ⟨b, off + j * 2 + 1, none⟩ = some (.int .i64 x.2) := fun j x hx => by
    obtain ⟨b, off, e, h1, h2⟩ := hc j x hx
    exact ⟨b, off, e, World.block_lt_of_cell? w1 _ h1, h1, h2⟩
  have HC := hidp hc'
  clear hc hc' hr hb1
  go_wp2
  go_loopw [3, 9] (fun uk i wr => ∃ j : Nat, j ≤ m.length ∧ i = .int .i64 j ∧ Hid (∃ g, Row 1 wr uk j ((m.map fun x => Value.int .i64 x.2).take j) g ∧ (∀ b, g = some b → w1.heap.size ≤ b) ∧ Below w1.heap.size w1 wr)) (fun _ i _ => m.length - (intOf i).toNat)
  case atStart => exact ⟨0, Nat.zero_le _, rfl, hidp ⟨none, Row.nil _ _, (fun b h => by cases h), Below.refl _ _⟩⟩
  case round =>
    obtain ⟨j, hj, rfl, HR⟩ := hrel
    obtain ⟨g, r, hg, hb⟩ := HR.out
    clear HR
    by_cases hlt : j < m.length
    · obtain ⟨x, hx⟩ : ∃ x, m[j]? = some x := ⟨m[j], List.getElem?_eq_getElem hlt⟩
      obtain ⟨b, off, rfl, hbl, cx, cy⟩ := HC.out j x hx
      have cx' : wr.cell? ⟨b, off + j * 2, none⟩ = some (.string x.1) := (hb.cell (p := ⟨b, off + j * 2, none⟩) hbl).trans cx
      have cy' : wr.cell? ⟨b, off + j * 2 + 1, none⟩ = some (.int .i64 x.2) := (hb.cell (p := ⟨b, off + j * 2 + 1, none⟩) hbl).trans cy
      have jlt : (j : Int) < (m.length : Int) := by omega
      have HT : Hid ((m.map fun x => Value.int .i64 x.2).take (j + 1) = (m.map fun x => Value.int .i64 x.2).take j ++ [.int .i64 x.2]) := hidp (by rw [List.take_add_one, List.getElem?_map, hx]; simp)
      have hsr : w1.heap.size ≤ wr.heap.size := hb.size
      have HR := hidp (And.intro r (And.intro hg hb))
      clear hx cx cy r hg hb
      go_wp2_with (at_builtin; go_must (refine wpList_row rfl (.tmp 13) (.tmp 16) _ rfl 3 i0 _ 1 8 Try.underlying27 HI0.out HZ0.out HZ1.out HZ2.out rfl (by decide) u3 j _ g rfl ((HR.out.1.alloc _).alloc _) ⟨wr.heap.size + 1, 0, none⟩ 1 1 [.int .i64 x.2] rfl (by decide) rfl (fun q u hq => by rw [Addr.add_lit, Nat.zero_add]; have h := (Bx.new (wr.alloc (.cells #[.string x.1, .int .i64 x.2] 38)) [.int .i64 x.2] 3).cell q hq; rw [World.size_alloc] at h; exact h) (by simp [Value.oneCell']) (by unfold maxLen; omega) (by omega) ?_))
      intro v2 w2 g2 hr2 hg2 hF2
      have HN := hidp (And.intro hr2 (And.intro (app_ge hg2 (by omega) HR.out.2.1) (app_below HR.out.2.2 hsr HR.out.2.1 (((Below.refl _ _).alloc hsr _).alloc (by rw [World.size_alloc]; omega) _) hF2)))
      clear hr2 hg2 hF2 HR
      go_wp2
      go_roundw
      case rel => exact ⟨j + 1, by omega, by go_num, hidp ⟨_, by rw [HT.out]; exact HN.out.1, HN.out.2.1, HN.out.2.2⟩⟩
      case measure => simp [intOf]; omega
    · obtain rfl : j = m.length := by omega
      rw [List.take_of_length_le (by simp)] at r
      have HF := hidp (And.intro r (And.intro hg hb))
      clear r hg hb
      go_wp2
      go_ret
      refine ⟨_, g, rfl, ?_, fun b h => Nat.le_trans hs1 (HF.out.2.1 b h), HB1.out.trans (HF.out.2.2.mono hs1)⟩
      have := HF.out.1
      rw [← HM.out, List.length_map, List.map_map]; exact this
/-- 'slices.Equal' of equal lists. -/
theorem str_eql (x : ByteArray) : ((x.toList == x.toList) = true) := by simp
set_option maxHeartbeats 1000000 in
theorem equal_is {v u : Value} {l : List ByteArray} (hv : Strs w v l) (hu : Strs w u l) (hl : l.length ≤ 9223372036854775807) : Calls Try.prog 18 #[v, u] w (fun e w' => e = .returned (.bool true) ∧ ∃ a, w' = w.drewN a) := by
  obtain ⟨a, cap, rfl, hc⟩ := hv
  obtain ⟨a', cap', rfl, hc'⟩ := hu
  have HC := hidp hc
  have HC' := hidp hc'
  clear hc hc'
  go_enter Try.func18, Try.ntmps18
  go_wp2
  go_loopw [13] (fun i wr => ∃ j n : Nat, j ≤ l.length ∧ i = .int .i64 j ∧ wr = w.drewN n) (fun i _ => l.length - (intOf i).toNat)
  case atStart => exact ⟨0, 0, Nat.zero_le _, rfl, rfl⟩
  case round =>
    obtain ⟨j, n, hj, rfl, rfl⟩ := hrel
    by_cases hlt : j < l.length
    · obtain ⟨x, hx⟩ : ∃ x, l[j]? = some x := ⟨l[j], List.getElem?_eq_getElem hlt⟩
      obtain ⟨b, off, rfl, cx⟩ := HC.out j x hx
      obtain ⟨b', off', rfl, cx'⟩ := HC'.out j x hx
      have jlt : (j : Int) < (l.length : Int) := by omega
      clear hx
      go_wp2
      go_quiet (fail)
      go_wp2
      go_roundw
      case rel => exact ⟨j + 1, _, by omega, by go_num, rfl⟩
      case measure => simp [intOf]; omega
    · obtain rfl : j = l.length := by omega
      go_wp2
      go_ret
      exact ⟨rfl, _, rfl⟩
set_option maxHeartbeats 1000000 in
theorem equali_is {v u : Value} {l : List Int} (hv : Ints w v l) (hu : Ints w u l) (hl : l.length ≤ 9223372036854775807) : Calls Try.prog 20 #[v, u] w (fun e w' => e = .returned (.bool true) ∧ ∃ a, w' = w.drewN a) := by
  obtain ⟨a, cap, rfl, hc⟩ := hv
  obtain ⟨a', cap', rfl, hc'⟩ := hu
  have HC := hidp hc
  have HC' := hidp hc'
  clear hc hc'
  go_enter Try.func20, Try.ntmps20
  go_wp2
  go_loopw [13] (fun i wr => ∃ j n : Nat, j ≤ l.length ∧ i = .int .i64 j ∧ wr = w.drewN n) (fun i _ => l.length - (intOf i).toNat)
  case atStart => exact ⟨0, 0, Nat.zero_le _, rfl, rfl⟩
  case round =>
    obtain ⟨j, n, hj, rfl, rfl⟩ := hrel
    by_cases hlt : j < l.length
    · obtain ⟨x, hx⟩ : ∃ x, l[j]? = some x := ⟨l[j], List.getElem?_eq_getElem hlt⟩
      obtain ⟨b, off, rfl, cx⟩ := HC.out j x hx
      obtain ⟨b', off', rfl, cx'⟩ := HC'.out j x hx
      have jlt : (j : Int) < (l.length : Int) := by omega
      clear hx
      go_wp2
      go_quiet (fail)
      go_wp2
      go_roundw
      case rel => exact ⟨j + 1, _, by omega, by go_num, rfl⟩
      case measure => simp [intOf]; omega
    · obtain rfl : j = l.length := by omega
      go_wp2
      go_ret
      exact ⟨rfl, _, rfl⟩

/-- The words of the example. -/
def exW : List Wd := [(⟨#[98]⟩, 1), (⟨#[]⟩, 2), (⟨#[97, 98]⟩, 3)]
def exC : List Value := [.string ⟨#[98]⟩, .int .i64 1, .string ⟨#[]⟩, .int .i64 2, .string ⟨#[97, 98]⟩, .int .i64 3, .string ⟨#[98]⟩, .int .i64 4]
theorem exW_len : ((insW exW).map (·.1)).length = 3 := by kernel_rfl
theorem exWords_is : Calls Try.prog 60 #[] w (fun e w' => e = .returned (.slice (some ⟨w.heap.size, 0, none⟩) 4 4) ∧ w' = w.alloc (.cells exC.toArray 38)) := by
  go_enter Try.func60, Try.ntmps60
  go_wp2
  go_ret
  exact ⟨rfl, rfl⟩
theorem exW_wds : Wds (w.alloc (.cells exC.toArray 38)) (.slice (some ⟨w.heap.size, 0, none⟩) 3 4) exW := by
  have hB := Bx.new w exC 38
  refine ⟨_, 4, rfl, fun j x hx => ⟨_, 0, rfl, ?_⟩⟩
  match j, hx with
  | 0, hx => obtain rfl := Option.some.inj hx; exact ⟨hB.cell 0 rfl, hB.cell 1 rfl⟩
  | 1, hx => obtain rfl := Option.some.inj hx; exact ⟨hB.cell 2 rfl, hB.cell 3 rfl⟩
  | 2, hx => obtain rfl := Option.some.inj hx; exact ⟨hB.cell 4 rfl, hB.cell 5 rfl⟩
  | j + 3, hx => cases hx

set_option maxRecDepth 100000 in
/-- 'aliveW' -/
theorem alivew_is : Calls Try.prog 16 #[] w (fun e w' => e = .returned (.bool true) ∧ Below w.heap.size w w') := by
  have HI := hidp (iwkeys_is (D := 2) (by decide) (by decide) (exW_wds (w := w)) (by decide))
  have HE := hidp (exWords_is (w := w))
  have HB := hidp ((Below.refl w.heap.size w).alloc (Nat.le_refl _) (.cells exC.toArray 38))
  go_enter Try.func16, Try.ntmps16
  go_wp2_with fail
  refine HE.out.mono ?_
  rintro e w1 ⟨rfl, rfl⟩
  clear HE
  have hsz : w.heap.size ≤ (w.alloc (.cells exC.toArray 38)).heap.size := by rw [World.size_alloc]; omega
  generalize w.alloc (.cells exC.toArray 38) = w1 at HI HB hsz ⊢
  go_wp2_with fail
  refine HI.out.mono ?_
  rintro e w2 ⟨u, rfl, hs, hb⟩
  obtain ⟨a, cap, rfl, _⟩ := hs
  rw [exW_len]
  have HF := hidp (HB.out.trans (hb.mono hsz))
  clear hb HI
  go_wp2
  go_ret
  exact ⟨rfl, HF.out⟩

set_option maxHeartbeats 1000000 in
set_option maxRecDepth 100000 in
/-- 'FnExactWKeyValues' -/
theorem law_wkv {d : Int} (hd1 : -9223372036854775808 ≤ d) (hd2 : d ≤ 9223372036854775807) {v : Value} {l : List Wd} (hv : Wds w v l) (hl : l.length ≤ 9223372036854775807) (hx9 : ∀ x ∈ l, x.1.size ≤ 9223372036854775807) :
    Calls Try.prog 3 #[.int .i64 d, v] w (fun e w' => e = .returned (.bool true) ∧ Below w.heap.size w w') := by
  have HF := hidp (fits8_is hv hl hx9)
  cases hf : fits8 l with
  | false =>
    rw [hf] at HF
    clear hv
    go_enter Try.func3, Try.ntmps3
    go_wp2_with fail
    refine HF.out.mono ?_
    rintro e w1 ⟨rfl, hb1⟩
    have HB1 := hidp hb1
    clear hb1 HF
    go_wp2
    go_ret
    exact ⟨rfl, HB1.out⟩
  | true =>
    rw [hf] at HF
    have hl2 : l.length ≤ 2147483647 := by
      unfold fits8 at hf
      rw [Bool.and_eq_true] at hf
      exact of_decide_eq_true hf.1
    have HV := hidp hv
    have HT : Hid (∀ w1, Calls Try.prog 15 #[.int .i64 d] w1 (fun e w' => e = .returned (.bool (fitB d)) ∧ w1 = w')) := hidp fun w1 => fit_is d hd1 hd2
    have HA : Hid (∀ w1, Calls Try.prog 16 #[] w1 (fun e w' => e = .returned (.bool true) ∧ Below w1.heap.size w1 w')) := hidp fun w1 => alivew_is
    clear hv hf
    cases ht : fitB d with
    | false =>
      rw [ht] at HT
      go_enter Try.func3, Try.ntmps3
      go_wp2_with fail
      refine HF.out.mono ?_
      rintro e w1 ⟨rfl, hb1⟩
      have HB1 := hidp hb1
      clear hb1 HF
      go_wp2_with fail
      refine (HT.out w1).mono ?_
      rintro e w2 ⟨rfl, rfl⟩
      go_wp2_with fail
      refine (HA.out _).mono ?_
      rintro e w3 ⟨rfl, hb3⟩
      have HB3 := hidp (HB1.out.trans (hb3.mono HB1.out.size))
      clear hb3
      go_wp2
      go_ret
      exact ⟨rfl, HB3.out⟩
    | true =>
      rw [ht] at HT
      obtain ⟨D, rfl, hD, hD2⟩ : ∃ D : Nat, d = (D : Int) ∧ 2 ≤ D ∧ D ≤ 400 := by
        unfold fitB at ht
        rw [Bool.and_eq_true, decide_eq_true_eq, decide_eq_true_eq] at ht
        exact ⟨d.toNat, by omega, by omega, by omega⟩
      clear ht
      go_enter Try.func3, Try.ntmps3
      go_wp2_with fail
      refine HF.out.mono ?_
      rintro e w1 ⟨rfl, hb1⟩
      have HB1 := hidp hb1
      have HV1 := hidp (HV.out.below hb1)
      clear hb1 HF
      go_wp2_with fail
      refine (HT.out w1).mono ?_
      rintro e w2 ⟨rfl, rfl⟩
      clear HT
      have HK := hidp (wkv_is hD hD2 HV1.out (by omega))
      go_wp2_with fail
      refine HK.out.mono ?_
      rintro e w2 ⟨u2, v2, rfl, hu2, hv2, hb2⟩
      have HV2 := hidp (HV1.out.below hb2)
      have HB2 := hidp (HB1.out.trans (hb2.mono HB1.out.size))
      have HU := hidp (And.intro hu2 hv2)
      clear hu2 hv2 hb2 HK HV1 HB1
      have HW := hidp (wkeys_is HV2.out (by omega))
      go_wp2_with fail
      refine HW.out.mono ?_
      rintro e w3 ⟨u3, g3, rfl, hr3, _, hb3⟩
      have hs3 : Strs w3 u3 ((insW l).map (·.1)) := Row.sls hr3
      have hlen : ((insW l).map (·.1)).length ≤ 9223372036854775807 := by have := insW_length l; rw [List.length_map]; omega
      have HQ := hidp (equal_is (Sls.below HU.out.1 hb3) hs3 hlen)
      have HV3 := hidp (HV2.out.below hb3)
      have HB3 := hidp (HB2.out.trans (hb3.mono HB2.out.size))
      have HU3 := hidp (Sls.below HU.out.2 hb3)
      clear hr3 hs3 hb3 HW HV2 HB2 HU hlen
      go_wp2_with fail
      refine HQ.out.mono ?_
      rintro e _ ⟨rfl, n, rfl⟩
      have hb4 : Below w3.heap.size w3 (w3.drewN n) := ((Fr.refl (fun _ => False) w3).drewN n).below (Nat.le_refl _) (fun _ h => h.elim)
      have HV4 := hidp (HV3.out.below hb4)
      have HU4 := hidp (Sls.below HU3.out hb4)
      have HB4 := hidp (HB3.out.trans (hb4.mono HB3.out.size))
      clear hb4 HV3 HU3 HB3 HQ
      generalize w3.drewN n = w4 at HV4 HU4 HB4 ⊢
      have HW := hidp (wvalues_is HV4.out (by omega))
      go_wp2_with fail
      refine HW.out.mono ?_
      rintro e w5 ⟨u5, g5, rfl, hr5, _, hb5⟩
      have hs5 : Ints w5 u5 ((insW l).map (·.2)) := Row.sls hr5
      have hlen : ((insW l).map (·.2)).length ≤ 9223372036854775807 := by have := insW_length l; rw [List.length_map]; omega
      have HQ := hidp (equali_is (Sls.below HU4.out hb5) hs5 hlen)
      have HB5 := hidp (HB4.out.trans (hb5.mono HB4.out.size))
      clear hr5 hs5 hb5 HW HV4 HU4 HB4 hlen
      go_wp2_with fail
      refine HQ.out.mono ?_
      rintro e _ ⟨rfl, n, rfl⟩
      have hb6 : Below w5.heap.size w5 (w5.drewN n) := ((Fr.refl (fun _ => False) w5).drewN n).below (Nat.le_refl _) (fun _ h => h.elim)
      have HB6 := hidp (HB5.out.trans (hb6.mono HB5.out.size))
      clear hb6 HB5 HQ
      generalize w5.drewN n = w6 at HB6 ⊢
      go_wp2_with fail
      refine (HA.out _).mono ?_
      rintro e w7 ⟨rfl, hb7⟩
      have HB7 := hidp (HB6.out.trans (hb7.mono HB6.out.size))
      clear hb7
      go_wp2
      go_ret
      exact ⟨rfl, HB7.out⟩
end Go.Proofs.Ytbfaldccnaekeaa.Bt.W
