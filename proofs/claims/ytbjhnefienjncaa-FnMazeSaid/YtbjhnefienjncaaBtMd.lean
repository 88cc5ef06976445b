/- A maze of 64 cells: spec.Beside. -/
import Derived.Test.YtbjhnefienjncaaBtMz
import Derived.Test.YtbjhnefienjncaaProg
import Derived.WalkKit
import Derived.Test.YtbjhnefienjncaaBtRow
import Derived.Test.YtbjhnefienjncaaBtLast
import Derived.OwnWalk
import Derived.Deep.DeepMust
import Derived.Deep.DeepCutAuto
import Derived.Deep.RegionHeld3
namespace Go.Proofs.Ytbjhnefienjncaa.Bt.Mz
set_option linter.unusedVariables false
set_option linter.unusedSimpArgs false
open Go Go.RowKit Go.Proofs.Ytbjhnefienjncaa.Bt

theorem hidp {p : Prop} (h : p) : Hid p := h
theorem infoN : (Try.prog.info? 3).map (fun i => (i.zero, i.size, i.bytes)) = some (some (.int .i64 0), 1, 8) := by kernel_rfl
/-- Natural numbers in cells. -/
abbrev nv (l : List Nat) : List Value := l.map fun n : Nat => Value.int .i64 n
/-- A row of the call's own. -/
def NR (w wx : World) (u : Value) (l : List Nat) (g : Option Nat) : Prop := Row 1 wx u l.length (nv l) g ∧ (∀ k, g = some k → w.heap.size ≤ k) ∧ Below w.heap.size w wx
theorem NR.snoc {w wx w2 : World} {u v : Value} {l : List Nat} {g : Option Nat} {g2 x : Nat} {c : Array Value} {t : TypeId} (h : NR w wx u l g) (hr : Row 1 w2 v (l.length + 1) (nv l ++ [.int .i64 x]) (some g2)) (hg : g = some g2 ∨ wx.heap.size + 1 ≤ g2) (hF : Fr (fun k => g = some k) (wx.alloc (.cells c t)) w2) : NR w w2 v (l ++ [x]) (some g2) := by
  have h9 := h.2.2.size
  refine ⟨by unfold nv; rw [List.length_append, List.map_append]; exact hr, fun k hk => ?_, (h.2.2.alloc h9 _).trans (hF.below (by rw [World.size_alloc]; omega) (fun i hi => h.2.1 i hi))⟩
  obtain rfl := Option.some.inj hk
  rcases hg with h' | h'
  · exact h.2.1 _ h'
  · omega
theorem one_le (p : Prop) [Decidable p] (x : Nat) : (if p then [x] else ([] : List Nat)).length ≤ 1 := by split <;> simp

variable {w : World}
set_option maxHeartbeats 4000000 in
set_option maxRecDepth 100000 in
/-- 'Beside' -/
theorem beside_is (w : World) {c : Nat} (hc : c < 64) : Calls Try.prog 12 #[.int .i64 c] w (fun e w' => ∃ u g, e = .returned u ∧ NR w w' u (nb c) g) := by
  obtain ⟨i0, hi0, hz0, hz1, hz2⟩ := info_parts infoN
  have HI0 := hidp hi0
  have HZ0 := hidp hz0
  have HZ1 := hidp hz1
  have HZ2 := hidp hz2
  clear hi0 hz0 hz1 hz2
  have hrem : Int.tmod (c : Int) 8 = ((c % 8 : Nat) : Int) := by rw [Int.tmod_eq_emod_of_nonneg (by omega)]; omega
  have HS : Hid (NR w w (.slice none 0 0) [] none) := hidp ⟨Row.nil _ _, fun k h => by (cases h), Below.refl _ _⟩
  go_enter Try.func12, Try.ntmps12
  go_upto_if 5 with (fail)
  go_cut [3] from 5 to 10 (fun u wx => ∃ v g, v = u ∧ Hid (NR w wx v (if 8 ≤ c then [c - 8] else []) g))
  case first =>
    by_cases h : 8 ≤ c
    · have hi : (8 : Int) ≤ (c : Int) := by omega
      have hx : ((c - 8 : Nat) : Int) = (c : Int) - 8 := by omega
      have hwr : IntKind.i64.wrap ((c : Int) - 8) = (c : Int) - 8 := by rw [Last.i64_w, IntWalk.wrap64_in _ ⟨by omega, by omega⟩]
      have HL : Hid (([] : List Nat).length ≤ 10) := hidp (by decide)
      go_wp2_with (at_builtin; go_must (refine wpList_row rfl (.tmp 6) (.tmp 9) _ rfl 3 i0 _ 1 8 Try.underlying23 HI0.out HZ0.out HZ1.out HZ2.out rfl (by decide) (.slice none 0 0) ([] : List Nat).length (nv []) none rfl (HS.out.1.alloc _) ⟨w.heap.size, 0, none⟩ 1 1 [.int .i64 ((c : Int) - 8)] rfl (by decide) rfl (fun q u hq => by rw [Addr.add_lit, Nat.zero_add]; exact (Bx.new w [.int .i64 ((c : Int) - 8)] 3).cell q hq) (by simp [Value.oneCell']) (by unfold maxLen; have := HL.out; omega) (by have := HL.out; omega) ?_))
      intro v2 w2 g2 hr2 hg2 hF2
      have HN := hidp (HS.out.snoc (x := c - 8) (by rw [hx]; exact hr2) (by first | exact hg2 | exact .inr hg2) (by first | exact hF2 | exact hF2.mono (fun _ h => h.elim)))
      clear hr2 hg2 hF2
      go_wp2
      go_meet
      exact ⟨_, some g2, rfl, hidp (by rw [if_pos h]; exact HN.out)⟩
    · have hi : ¬ (8 : Int) ≤ (c : Int) := by omega
      go_wp2
      go_meet
      exact ⟨_, none, rfl, hidp (by rw [if_neg h]; exact HS.out)⟩
  case rest =>
    obtain ⟨v0, g0, rfl, H0⟩ := hcut
    obtain ⟨L0, hL0⟩ : ∃ L0 : List Nat, L0 = (if 8 ≤ c then [c - 8] else []) := ⟨_, rfl⟩
    rw [← hL0] at H0
    have HE0 := hidp hL0
    have HZL0 : Hid (L0.length ≤ 1) := hidp (by rw [hL0]; have a := one_le (8 ≤ c) (c - 8); omega)
    clear hL0
    go_upto_if 13 with (fail)
    go_cut [3] from 11 to 18 (fun u wx => ∃ v g, v = u ∧ Hid (NR w wx v (L0 ++ (if 0 < c % 8 then [c - 1] else [])) g))
    case first =>
      by_cases h : 0 < c % 8
      · have hi : (0 : Int) < ((c % 8 : Nat) : Int) := by omega
        have hx : ((c - 1 : Nat) : Int) = (c : Int) - 1 := by omega
        have hwr : IntKind.i64.wrap ((c : Int) - 1) = (c : Int) - 1 := by rw [Last.i64_w, IntWalk.wrap64_in _ ⟨by omega, by omega⟩]
        have HL : Hid ((L0 : List Nat).length ≤ 10) := hidp (by have b := HZL0.out; omega)
        go_wp2_with (at_builtin; go_must (refine wpList_row rfl (.tmp 14) (.tmp 17) _ rfl 3 i0 _ 1 8 Try.underlying23 HI0.out HZ0.out HZ1.out HZ2.out rfl (by decide) v0 (L0 : List Nat).length (nv L0) g0 rfl (H0.out.1.alloc _) ⟨wc.heap.size, 0, none⟩ 1 1 [.int .i64 ((c : Int) - 1)] rfl (by decide) rfl (fun q u hq => by rw [Addr.add_lit, Nat.zero_add]; exact (Bx.new wc [.int .i64 ((c : Int) - 1)] 3).cell q hq) (by simp [Value.oneCell']) (by unfold maxLen; have := HL.out; omega) (by have := HL.out; omega) ?_))
        intro v2 w2 g2 hr2 hg2 hF2
        have HN := hidp (H0.out.snoc (x := c - 1) (by rw [hx]; exact hr2) (by first | exact hg2 | exact .inr hg2) (by first | exact hF2 | exact hF2.mono (fun _ h => h.elim)))
        clear hr2 hg2 hF2
        go_wp2
        go_meet
        exact ⟨_, some g2, rfl, hidp (by rw [if_pos h]; exact HN.out)⟩
      · have hi : ¬ (0 : Int) < ((c % 8 : Nat) : Int) := by omega
        go_wp2
        go_meet
        exact ⟨_, g0, rfl, hidp (by rw [if_neg h]; rw [List.append_nil]; exact H0.out)⟩
    case rest =>
      obtain ⟨v1, g1, rfl, H1⟩ := hcut
      obtain ⟨L1, hL1⟩ : ∃ L1 : List Nat, L1 = (L0 ++ (if 0 < c % 8 then [c - 1] else [])) := ⟨_, rfl⟩
      rw [← hL1] at H1
      have HE1 := hidp hL1
      have HZL1 : Hid (L1.length ≤ 2) := hidp (by rw [hL1]; have a := one_le (0 < c % 8) (c - 1); simp only [List.length_append]; have b := HZL0.out; omega)
      clear hL1
      go_upto_if 21 with (fail)
      go_cut [3] from 19 to 26 (fun u wx => ∃ v g, v = u ∧ Hid (NR w wx v (L1 ++ (if c % 8 < 7 then [c + 1] else [])) g))
      case first =>
        by_cases h : c % 8 < 7
        · have hi : ((c % 8 : Nat) : Int) < 7 := by omega
          have hx : ((c + 1 : Nat) : Int) = (c : Int) + 1 := by omega
          have hwr : IntKind.i64.wrap ((c : Int) + 1) = (c : Int) + 1 := by rw [Last.i64_w, IntWalk.wrap64_in _ ⟨by omega, by omega⟩]
          have HL : Hid ((L1 : List Nat).length ≤ 10) := hidp (by have b := HZL1.out; omega)
          go_wp2_with (at_builtin; go_must (refine wpList_row rfl (.tmp 22) (.tmp 25) _ rfl 3 i0 _ 1 8 Try.underlying23 HI0.out HZ0.out HZ1.out HZ2.out rfl (by decide) v1 (L1 : List Nat).length (nv L1) g1 rfl (H1.out.1.alloc _) ⟨wc.heap.size, 0, none⟩ 1 1 [.int .i64 ((c : Int) + 1)] rfl (by decide) rfl (fun q u hq => by rw [Addr.add_lit, Nat.zero_add]; exact (Bx.new wc [.int .i64 ((c : Int) + 1)] 3).cell q hq) (by simp [Value.oneCell']) (by unfold maxLen; have := HL.out; omega) (by have := HL.out; omega) ?_))
          intro v2 w2 g2 hr2 hg2 hF2
          have HN := hidp (H1.out.snoc (x := c + 1) (by rw [hx]; exact hr2) (by first | exact hg2 | exact .inr hg2) (by first | exact hF2 | exact hF2.mono (fun _ h => h.elim)))
          clear hr2 hg2 hF2
          go_wp2
          go_meet
          exact ⟨_, some g2, rfl, hidp (by rw [if_pos h]; exact HN.out)⟩
        · have hi : ¬ ((c % 8 : Nat) : Int) < 7 := by omega
          go_wp2
          go_meet
          exact ⟨_, g1, rfl, hidp (by rw [if_neg h]; rw [List.append_nil]; exact H1.out)⟩
      case rest =>
        obtain ⟨v2, g2, rfl, H2⟩ := hcut
        obtain ⟨L2, hL2⟩ : ∃ L2 : List Nat, L2 = (L1 ++ (if c % 8 < 7 then [c + 1] else [])) := ⟨_, rfl⟩
        rw [← hL2] at H2
        have HE2 := hidp hL2
        have HZL2 : Hid (L2.length ≤ 3) := hidp (by rw [hL2]; have a := one_le (c % 8 < 7) (c + 1); simp only [List.length_append]; have b := HZL1.out; omega)
        clear hL2
        go_upto_if 28 with (fail)
        go_cut [3] from 27 to 33 (fun u wx => ∃ v g, v = u ∧ Hid (NR w wx v (L2 ++ (if c < 56 then [c + 8] else [])) g))
        case first =>
          by_cases h : c < 56
          · have hi : (c : Int) < 56 := by omega
            have hx : ((c + 8 : Nat) : Int) = (c : Int) + 8 := by omega
            have hwr : IntKind.i64.wrap ((c : Int) + 8) = (c : Int) + 8 := by rw [Last.i64_w, IntWalk.wrap64_in _ ⟨by omega, by omega⟩]
            have HL : Hid ((L2 : List Nat).length ≤ 10) := hidp (by have b := HZL2.out; omega)
            go_wp2_with (at_builtin; go_must (refine wpList_row rfl (.tmp 29) (.tmp 32) _ rfl 3 i0 _ 1 8 Try.underlying23 HI0.out HZ0.out HZ1.out HZ2.out rfl (by decide) v2 (L2 : List Nat).length (nv L2) g2 rfl (H2.out.1.alloc _) ⟨wc.heap.size, 0, none⟩ 1 1 [.int .i64 ((c : Int) + 8)] rfl (by decide) rfl (fun q u hq => by rw [Addr.add_lit, Nat.zero_add]; exact (Bx.new wc [.int .i64 ((c : Int) + 8)] 3).cell q hq) (by simp [Value.oneCell']) (by unfold maxLen; have := HL.out; omega) (by have := HL.out; omega) ?_))
            intro v2 w2 g2 hr2 hg2 hF2
            have HN := hidp (H2.out.snoc (x := c + 8) (by rw [hx]; exact hr2) (by first | exact hg2 | exact .inr hg2) (by first | exact hF2 | exact hF2.mono (fun _ h => h.elim)))
            clear hr2 hg2 hF2
            go_wp2
            go_meet
            exact ⟨_, some g2, rfl, hidp (by rw [if_pos h]; exact HN.out)⟩
          · have hi : ¬ (c : Int) < 56 := by omega
            go_wp2
            go_meet
            exact ⟨_, g2, rfl, hidp (by rw [if_neg h]; rw [List.append_nil]; exact H2.out)⟩
        case rest =>
          obtain ⟨v3, g3, rfl, H3⟩ := hcut
          obtain ⟨L3, hL3⟩ : ∃ L3 : List Nat, L3 = (L2 ++ (if c < 56 then [c + 8] else [])) := ⟨_, rfl⟩
          rw [← hL3] at H3
          have HE3 := hidp hL3
          have HZL3 : Hid (L3.length ≤ 4) := hidp (by rw [hL3]; have a := one_le (c < 56) (c + 8); simp only [List.length_append]; have b := HZL2.out; omega)
          clear hL3
          go_wp2
          go_ret
          exact ⟨_, g3, rfl, by have h := H3.out; rw [HE3.out, HE2.out, HE1.out, HE0.out] at h; exact h⟩
end Go.Proofs.Ytbjhnefienjncaa.Bt.Mz
