/- Nodes as data: which trees are valid. -/
import Derived.Test.YtehnobbiiokcgaaBtNh
import Derived.Deep.DeepMust
import Derived.Deep.QuietTactic
import Derived.BigQuiet
import Derived.IntWalk
namespace Go.Proofs.Ytehnobbiiokcgaa.Bt.ND
set_option linter.unusedVariables false
set_option linter.unusedSimpArgs false
open Go Go.RowKit Go.Proofs.Ytehnobbiiokcgaa.Bt

theorem Below.drewN {B : Nat} {a w : World} (h : Below B a w) (n : Nat) : Below B a (w.drewN n) := ⟨h.os, h.tape, h.output, h.size, h.block⟩
theorem Own.its {B : Nat} {w w' : World} {u : Value} {l : List Im} (h : Own B w w' u l) : Its w' u l := by
  obtain ⟨g, ⟨hl, h⟩, _, _⟩ := h
  rcases h with ⟨rfl, h0, _⟩ | ⟨b, cap, _, rfl, h1, _, _, hok⟩
  · obtain rfl : l = [] := List.eq_nil_of_length_eq_zero h0
    exact ⟨none, 0, rfl, Nat.le_refl _, fun j x hx => by simp at hx⟩
  · refine ⟨_, cap, rfl, h1, fun j x hx => ⟨b, 0, rfl, ?_, ?_⟩⟩
    · have := hok.val (j * 2) (.int .i64 x.1) (by
        have h2 := itemCells_get (E := EI) l j x hx 0 (by decide)
        simpa [EI] using h2)
      exact M_cell this
    · have := hok.val (j * 2 + 1) (.int .i64 x.2) (by
        have h2 := itemCells_get (E := EI) l j x hx 1 (by decide)
        simpa [EI] using h2)
      rw [Nat.add_assoc]
      exact M_cell this

/-! ### the order of the keys -/
theorem rank_nil (w : World) (k : Int) : Calls Try.prog 79 #[.slice none 0 0, .int .i64 k] w (fun e w' => e = .returned (.int .i64 k) ∧ w' = w) := by
  go_enter Try.func79, Try.ntmps79
  go_wp2
  go_ret
  exact ⟨rfl, rfl⟩

set_option maxHeartbeats 1000000 in
theorem before_nil (w : World) (a b c d : Int) : Calls Try.prog 49 #[.slice none 0 0, .agg #[.int .i64 a, .int .i64 b], .agg #[.int .i64 c, .int .i64 d]] w (fun e w' => e = .returned (.bool (decide (a < c))) ∧ Below w.heap.size w w') := by
  have hB : Below w.heap.size w ((w.alloc (.cells #[.int .i64 a, .int .i64 b] 35)).alloc (.cells #[.int .i64 c, .int .i64 d] 35)) := ((Below.refl _ _).alloc (Nat.le_refl _) _).alloc (by rw [World.size_alloc]; omega) _
  have HB := hidp hB
  clear hB
  go_enter Try.func49, Try.ntmps49
  go_wp2
  go_quiet ((go_at_call 79; exact Calls.quiet_of_same (rank_nil _ _)))
  go_wp2
  go_ret
  exact ⟨rfl, Below.drewN HB.out _⟩

instance (l : List Im) : Decidable (rising l) := by unfold rising; infer_instance
/-- Each item's key is below the next one's, for the first j items. -/
def Adj (l : List Im) (j : Nat) : Prop := ∀ i x y, i + 1 < j → l[i]? = some x → l[i + 1]? = some y → x.1 < y.1
theorem Adj.rising {l : List Im} (h : Adj l l.length) : rising l := by
  refine List.pairwise_iff_getElem.2 fun i j hi hj hij => ?_
  obtain ⟨d, rfl⟩ : ∃ d, j = i + 1 + d := ⟨j - i - 1, by omega⟩
  induction d with
  | zero => exact h i _ _ (by omega) (List.getElem?_eq_getElem hi) (List.getElem?_eq_getElem hj)
  | succ d ih =>
    have h1 := ih (by omega) (by omega)
    have h2 := h (i + 1 + d) _ _ (by omega) (List.getElem?_eq_getElem (by omega)) (List.getElem?_eq_getElem (by omega))
    exact Int.lt_trans h1 h2

set_option maxHeartbeats 2000000 in
set_option maxRecDepth 100000 in
theorem rising_is {w : World} {u : Value} {l : List Im} (h : Its w u l) (hl : l.length ≤ 100000000) : Calls Try.prog 55 #[.slice none 0 0, u] w (fun e w' => e = .returned (.bool (decide (rising l))) ∧ Below w.heap.size w w') := by
  obtain ⟨a, cap, rfl, hlc, hi⟩ := h
  have HI := hidp hi
  clear hi
  go_enter Try.func55, Try.ntmps55
  go_wp2
  go_loopw [5] (fun i wr => ∃ j : Nat, 0 < j ∧ (j ≤ l.length ∨ j = 1) ∧ i = .int .i64 j ∧ Hid (Adj l j ∧ Below w.heap.size w wr)) (fun i _ => l.length - (intOf i).toNat)
  case atStart => exact ⟨1, by omega, .inr rfl, rfl, hidp ⟨fun i x y h => by omega, Below.refl _ _⟩⟩
  case round =>
    obtain ⟨j, hj0, hj, rfl, HBR⟩ := hrel
    by_cases hlt : j < l.length
    · obtain ⟨i, hji⟩ : ∃ i, j = i + 1 := ⟨j - 1, by omega⟩
      obtain ⟨x, hx⟩ : ∃ x, l[i]? = some x := ⟨_, List.getElem?_eq_getElem (by omega)⟩
      obtain ⟨y, hy⟩ : ∃ y, l[j]? = some y := ⟨_, List.getElem?_eq_getElem hlt⟩
      obtain ⟨b, off, rfl, x1, x2⟩ := HI.out i x hx
      obtain ⟨b', off', e, y1, y2⟩ := HI.out j y hy
      injection e with e
      injection e with e1 e2 _
      subst e1; subst e2
      have hbl : b < w.heap.size := World.block_lt_of_cell? w _ x1
      have c1 := (HBR.out.2.cell (p := ⟨b, off + i * 2, none⟩) hbl).trans x1
      have c2 := (HBR.out.2.cell (p := ⟨b, off + i * 2 + 1, none⟩) hbl).trans x2
      have d1 := (HBR.out.2.cell (p := ⟨b, off + j * 2, none⟩) hbl).trans y1
      have d2 := (HBR.out.2.cell (p := ⟨b, off + j * 2 + 1, none⟩) hbl).trans y2
      have hs0 := HBR.out.2.size
      have jlt : (j : Int) < (l.length : Int) := by omega
      have ilt : (i : Int) < (l.length : Int) := by omega
      have ei : (j : Int) - 1 = (i : Int) := by omega
      have hw1 : IntKind.i64.wrap ((j : Int) - 1) = (i : Int) := by rw [ei, Last.i64_w]; exact IntWalk.wrap64_in _ ⟨by omega, by omega⟩
      have HXY := hidp (And.intro hx hy)
      have HJ := hidp hji
      clear x1 x2 y1 y2 hx hy HI ei hji
      go_wp2
      go_region_held3 (fun w' => w'.cell? ⟨b, off + i * 2, none⟩ = some (.int .i64 x.1) ∧ w'.cell? ⟨b, off + i * 2 + 1, none⟩ = some (.int .i64 x.2) ∧ w'.cell? ⟨b, off + j * 2, none⟩ = some (.int .i64 y.1) ∧ w'.cell? ⟨b, off + j * 2 + 1, none⟩ = some (.int .i64 y.2)) (go_keep)
        ((go_at_call 49
          refine (before_nil _ x.1 x.2 y.1 y.2).mono ?_
          rintro e w2 ⟨rfl, hb2⟩
          have k1 := (hb2.cell (p := ⟨b, off + i * 2, none⟩) (by show b < wr.heap.size; omega)).trans c1
          have k2 := (hb2.cell (p := ⟨b, off + i * 2 + 1, none⟩) (by show b < wr.heap.size; omega)).trans c2
          have k3 := (hb2.cell (p := ⟨b, off + j * 2, none⟩) (by show b < wr.heap.size; omega)).trans d1
          have k4 := (hb2.cell (p := ⟨b, off + j * 2 + 1, none⟩) (by show b < wr.heap.size; omega)).trans d2
          have HB2 := hidp (HBR.out.2.drew.trans (hb2.mono hs0))
          clear hb2))
      generalize hcc : decide (x.1 < y.1) = cc
      have HCC := hidp hcc
      clear hcc
      cases cc with
      | true =>
        go_wp2
        go_roundw
        case rel => exact ⟨j + 1, by omega, .inl (by omega), by go_num, hidp ⟨fun i' a b h ha hb => by
          obtain ⟨hx, hy⟩ := HXY.out
          have hji := HJ.out
          by_cases e : i' = i
          · subst e
            rw [hx] at ha
            rw [← hji, hy] at hb
            obtain rfl := Option.some.inj ha
            obtain rfl := Option.some.inj hb
            exact of_decide_eq_true HCC.out
          · exact HBR.out.1 i' a b (by omega) ha hb, HB2.out⟩⟩
        case measure => simp [intOf]; omega
      | false =>
        go_wp2
        go_ret
        refine ⟨?_, HB2.out⟩
        have hn : ¬ rising l := fun h => of_decide_eq_false HCC.out (by
          obtain ⟨hx, hy⟩ := HXY.out
          obtain ⟨h1, e1⟩ := List.getElem?_eq_some_iff.1 hx
          obtain ⟨h2, e2⟩ := List.getElem?_eq_some_iff.1 hy
          have := List.pairwise_iff_getElem.1 h i j h1 h2 (by have := HJ.out; omega)
          rwa [e1, e2] at this)
        rw [decide_eq_false hn]; try rfl
    · have jge : ¬ (j : Int) < (l.length : Int) := by omega
      go_wp2
      go_ret
      refine ⟨?_, HBR.out.2⟩
      rw [decide_eq_true (Adj.rising fun i' a b h ha hb => HBR.out.1 i' a b (by omega) ha hb)]; try rfl

theorem width_is (w : World) {D : Nat} (h : 2 ≤ D) : Calls Try.prog 53 #[.int .i64 D] w (fun e w' => e = .returned (.int .i64 D) ∧ w' = w) := by
  have h0 : ¬ (D : Int) = 0 := by omega
  go_enter Try.func53, Try.ntmps53
  go_wp2
  go_ret
  exact ⟨rfl, rfl⟩
/-- 'fit' -/
theorem fit_is (w : World) (d : Int) : Calls Try.prog 19 #[.int .i64 d] w (fun e w' => e = .returned (.bool (decide (2 ≤ d ∧ d ≤ 128))) ∧ w' = w) := by
  by_cases h0 : 0 < d
  · have hf : ∀ w1 : World, Calls Try.prog 52 #[.int .i64 d] w1 (fun e w' => e = .returned (.bool (decide (2 ≤ d ∧ d ≤ 128))) ∧ w' = w1) := fun w1 => by
      have hd0 : decide (d = 0) = false := decide_eq_false (by omega)
      have hz : ¬ d = 0 := by omega
      by_cases h2 : 2 ≤ d
      · by_cases h3 : d ≤ 128
        · go_enter Try.func52, Try.ntmps52
          go_wp2
          go_ret
          exact ⟨by simp [h2, h3, hz], rfl⟩
        · have hd3 : decide (d ≤ 128) = false := decide_eq_false h3
          go_enter Try.func52, Try.ntmps52
          go_wp2
          go_ret
          exact ⟨by simp [h3, hz], rfl⟩
      · have hd2 : decide (2 ≤ d) = false := decide_eq_false h2
        go_enter Try.func52, Try.ntmps52
        go_wp2
        go_ret
        exact ⟨by simp [h2, hz], rfl⟩
    go_enter Try.func19, Try.ntmps19
    go_wp2_with fail
    refine (hf w).mono ?_
    rintro e w2 ⟨rfl, rfl⟩
    go_wp2
    go_ret
    exact ⟨by simp [h0], rfl⟩
  · have hd : decide (0 < d) = false := decide_eq_false h0
    go_enter Try.func19, Try.ntmps19
    go_wp2
    go_ret
    exact ⟨by simp; omega, rfl⟩
end Go.Proofs.Ytehnobbiiokcgaa.Bt.ND
