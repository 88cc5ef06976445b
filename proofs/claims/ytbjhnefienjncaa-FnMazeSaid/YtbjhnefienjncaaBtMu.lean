/- Sets of numbers: two together; slices.Equal of numbers; whether the package is alive. -/
import Derived.Test.YtbjhnefienjncaaBtMc
import Derived.Test.YtbjhnefienjncaaBtIr
namespace Go.Proofs.Ytbjhnefienjncaa.Bt.Z
set_option linter.unusedVariables false
set_option linter.unusedSimpArgs false
open Go Go.RowKit Go.Proofs.Ytbjhnefienjncaa.Bt Go.Proofs.Ytbjhnefienjncaa.Bt.IU

variable {w : World}
theorem Made.ints {w' : World} {l : List Int} {v : Value} {B : Nat} (h : w'.ownsRow B 3 1 v l.length (l.map (Value.int .i64))) : Ints w' v l := Sls.own h

set_option maxHeartbeats 1000000 in
set_option maxRecDepth 100000 in
/-- 'slices.Equal' of numbers -/
theorem equali_is {v u : Value} {l : List Int} (hv : Ints w v l) (hu : Ints w u l) (hl : l.length ≤ 9223372036854775807) : Calls Try.prog 11 #[v, u] w (fun e w' => e = .returned (.bool true) ∧ ∃ a, w' = w.drewN a) := by
  obtain ⟨a, cap, rfl, hc⟩ := hv
  obtain ⟨a', cap', rfl, hc'⟩ := hu
  have HC := hidp hc
  have HC' := hidp hc'
  clear hc hc'
  go_enter Try.func11, Try.ntmps11
  go_wp2
  go_loopw [13] (fun i wr => ∃ j n : Nat, j ≤ l.length ∧ i = .int .i64 j ∧ wr = w.drewN n) (fun i _ => l.length - (intOf i).toNat)
  case atStart => exact ⟨0, 0, Nat.zero_le _, rfl, rfl⟩
  case round =>
    obtain ⟨j, n, hj, rfl, rfl⟩ := hrel
    by_cases hlt : j < l.length
    · obtain ⟨x, hx⟩ : ∃ x, l[j]? = some x := ⟨l[j], List.getElem?_eq_getElem hlt⟩
      obtain ⟨b, off, rfl, cx⟩ := HC.out j x hx
      obtain ⟨b', off', rfl, cx'⟩ := HC'.out j x hx
      have jlt : (j : Int) < (l.length : Int) := by omega
      clear hx
      go_wp2
      go_quiet (fail)
      go_wp2
      go_roundw
      case rel => exact ⟨j + 1, _, by omega, by go_num, rfl⟩
      case measure => simp [intOf]; omega
    · obtain rfl : j = l.length := by omega
      go_wp2
      go_ret
      exact ⟨rfl, _, rfl⟩

set_option maxHeartbeats 1000000 in
set_option maxRecDepth 100000 in
/-- 'union' -/
theorem union_is {v u : Value} {l m : List Int} (hv : Ints w v l) (hu : Ints w u m) (hl : l.length ≤ 1000000) (hm : m.length ≤ 1000000) : Calls Try.prog 13 #[v, u] w (Made w (set (l ++ m))) := by
  have HCL := hidp (clone_is hv (by omega))
  obtain ⟨a, cap, A, rfl, ha, hi⟩ := ints_flat hu
  obtain ⟨i0, hi0, hz0, hz1, hz2⟩ := info_parts infoN
  have HI0 := hidp hi0
  have HZ0 := hidp hz0
  have HZ1 := hidp hz1
  have HZ2 := hidp hz2
  have HA := hidp ha
  have HIC := hidp hi
  have HOC := hidp (iv_one m)
  clear hi0 hz0 hz1 hz2 hi hv hu ha
  go_enter Try.func13, Try.ntmps13
  go_wp2_with fail
  refine HCL.out.mono ?_
  rintro e w1 ⟨u1, g1, rfl, hr1, hg1, hb1⟩
  have H1 := hidp (And.intro hr1 (And.intro hg1 hb1))
  obtain ⟨a1, c1, rfl⟩ := hr1.len
  clear hr1 hg1 hb1 HCL
  go_wp2_with (at_builtin; go_must (refine wpList_rowE rfl (.tmp 6) (.tmp 7) _ rfl 3 i0 _ 1 8 Try.underlying23 HI0.out HZ0.out HZ1.out HZ2.out rfl (by decide) (.slice a1 l.length c1) l.length (iv l) g1 rfl H1.out.1 A m.length cap (iv m) ⟨_, rfl, HA.out⟩ (by simp) (HIC.out _ H1.out.2.2) HOC.out (by unfold maxLen; omega) (by omega) ?_))
  intro v2 w2 g2 hr2 hg2 hF2
  have hB : Below w.heap.size w w2 := H1.out.2.2.trans (hF2.below H1.out.2.2.size (fun i hi => H1.out.2.1 i hi))
  have hs : Ints w2 v2 (l ++ m) := Row.sls (g := g2) (by rw [List.length_append, List.map_append]; exact hr2)
  have HS := hidp (insert_is hs (by rw [List.length_append]; omega))
  have HB := hidp hB
  clear hr2 hg2 hF2 hB hs H1
  go_wp2_with fail
  refine HS.out.mono ?_
  rintro e w3 ⟨v3, B, rfl, hB3, hown, hb3⟩
  have HF := hidp (And.intro hB3 (And.intro hown hb3))
  clear hB3 hown hb3 HS
  go_wp2
  go_ret
  have hs := HB.out.size
  exact ⟨_, B, rfl, by have := HF.out.1; omega, HF.out.2.1, HB.out.trans (HF.out.2.2.mono hs)⟩

set_option maxHeartbeats 1000000 in
set_option maxRecDepth 100000 in
/-- 'aliveS' -/
theorem aliveS_is (w : World) : Calls Try.prog 14 #[] w (fun e w' => e = .returned (.bool true) ∧ Below w.heap.size w w') := by
  have hbx := Bx.new w [.int .i64 5, .int .i64 3, .int .i64 9] 3
  have hv : Ints (w.alloc (.cells #[.int .i64 5, .int .i64 3, .int .i64 9] 3)) (.slice (some ⟨w.heap.size, 0, none⟩) 3 3) [5, 3, 9] := ⟨_, 3, rfl, fun j x hj => ⟨_, 0, rfl, by
    rw [Nat.zero_add]
    refine hbx.cell j ?_
    have e : ([.int .i64 5, .int .i64 3, .int .i64 9] : List Value) = ([5, 3, 9] : List Int).map (Value.int .i64) := rfl
    rw [e, List.getElem?_map, hj]; rfl⟩⟩
  have HS := hidp (insert_is hv (by decide))
  have HB := hidp ((Below.refl w.heap.size w).alloc (Nat.le_refl _) (.cells #[.int .i64 5, .int .i64 3, .int .i64 9] 3))
  have hl3 : set [5, 3, 9] = [3, 5, 9] := by
    refine Mz.ci_of (q := [3, 5, 9]) (set_inc _) (by decide) (fun x => ?_)
    rw [set_mem]
    constructor
    · intro h
      rcases List.mem_cons.1 h with rfl | h
      · exact ⟨5, rfl, by decide⟩
      rcases List.mem_cons.1 h with rfl | h
      · exact ⟨3, rfl, by decide⟩
      rcases List.mem_cons.1 h with rfl | h
      · exact ⟨9, rfl, by decide⟩
      · cases h
    · rintro ⟨n, rfl, h⟩
      rcases List.mem_cons.1 h with rfl | h
      · decide
      rcases List.mem_cons.1 h with rfl | h
      · decide
      rcases List.mem_cons.1 h with rfl | h
      · decide
      · cases h
  have HL3 := hidp hl3
  clear hbx hv hl3
  go_enter Try.func14, Try.ntmps14
  go_wp2_with fail
  refine HS.out.mono ?_
  rintro e w1 ⟨v, B, rfl, _, hown, hb⟩
  rw [HL3.out] at hown
  obtain ⟨a, cap, rfl, _⟩ := Made.ints (l := [3, 5, 9]) hown
  have HF := hidp (HB.out.trans (hb.mono HB.out.size))
  clear hown hb HS HB
  go_wp2
  go_ret
  exact ⟨rfl, HF.out⟩
end Go.Proofs.Ytbjhnefienjncaa.Bt.Z
