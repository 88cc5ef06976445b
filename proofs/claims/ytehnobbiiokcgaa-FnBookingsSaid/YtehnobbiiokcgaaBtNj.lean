/- Nodes as data: which trees are valid. A region that draws its order, walked once in a class of worlds. Nodes as data: Valid, and what the laws ask of a node. -/
import Derived.Test.YtehnobbiiokcgaaBtNh
import Derived.Deep.DeepMust
import Derived.Deep.QuietTactic
import Derived.BigQuiet
import Derived.IntWalk
import Derived.Test.YtehnobbiiokcgaaProg
import Derived.WalkKit
namespace Go.Proofs.Ytehnobbiiokcgaa.Bt.ND
set_option linter.unusedVariables false
set_option linter.unusedSimpArgs false
open Go Go.RowKit Go.Proofs.Ytehnobbiiokcgaa.Bt

theorem Below.drewN {B : Nat} {a w : World} (h : Below B a w) (n : Nat) : Below B a (w.drewN n) := ⟨h.os, h.tape, h.output, h.size, h.block⟩
theorem Own.its {B : Nat} {w w' : World} {u : Value} {l : List Im} (h : Own B w w' u l) : Its w' u l := by
  obtain ⟨g, ⟨hl, h⟩, _, _⟩ := h
  rcases h with ⟨rfl, h0, _⟩ | ⟨b, cap, _, rfl, h1, _, _, hok⟩
  · obtain rfl : l = [] := List.eq_nil_of_length_eq_zero h0
    exact ⟨none, 0, rfl, Nat.le_refl _, fun j x hx => by simp at hx⟩
  · refine ⟨_, cap, rfl, h1, fun j x hx => ⟨b, 0, rfl, ?_, ?_⟩⟩
    · have := hok.val (j * 2) (.int .i64 x.1) (by
        have h2 := itemCells_get (E := EI) l j x hx 0 (by decide)
        simpa [EI] using h2)
      exact M_cell this
    · have := hok.val (j * 2 + 1) (.int .i64 x.2) (by
        have h2 := itemCells_get (E := EI) l j x hx 1 (by decide)
        simpa [EI] using h2)
      rw [Nat.add_assoc]
      exact M_cell this

/-! ### the order of the keys -/
theorem rank_nil (w : World) (k : Int) : Calls Try.prog 79 #[.slice none 0 0, .int .i64 k] w (fun e w' => e = .returned (.int .i64 k) ∧ w' = w) := by
  go_enter Try.func79, Try.ntmps79
  go_wp2
  go_ret
  exact ⟨rfl, rfl⟩

set_option maxHeartbeats 1000000 in
theorem before_nil (w : World) (a b c d : Int) : Calls Try.prog 49 #[.slice none 0 0, .agg #[.int .i64 a, .int .i64 b], .agg #[.int .i64 c, .int .i64 d]] w (fun e w' => e = .returned (.bool (decide (a < c))) ∧ Below w.heap.size w w') := by
  have hB : Below w.heap.size w ((w.alloc (.cells #[.int .i64 a, .int .i64 b] 35)).alloc (.cells #[.int .i64 c, .int .i64 d] 35)) := ((Below.refl _ _).alloc (Nat.le_refl _) _).alloc (by rw [World.size_alloc]; omega) _
  have HB := hidp hB
  clear hB
  go_enter Try.func49, Try.ntmps49
  go_wp2
  go_quiet ((go_at_call 79; exact Calls.quiet_of_same (rank_nil _ _)))
  go_wp2
  go_ret
  exact ⟨rfl, Below.drewN HB.out _⟩

instance (l : List Im) : Decidable (rising l) := by unfold rising; infer_instance
/-- Each item's key is below the next one's, for the first j items. -/
def Adj (l : List Im) (j : Nat) : Prop := ∀ i x y, i + 1 < j → l[i]? = some x → l[i + 1]? = some y → x.1 < y.1
theorem Adj.rising {l : List Im} (h : Adj l l.length) : rising l := by
  refine List.pairwise_iff_getElem.2 fun i j hi hj hij => ?_
  obtain ⟨d, rfl⟩ : ∃ d, j = i + 1 + d := ⟨j - i - 1, by omega⟩
  induction d with
  | zero => exact h i _ _ (by omega) (List.getElem?_eq_getElem hi) (List.getElem?_eq_getElem hj)
  | succ d ih =>
    have h1 := ih (by omega) (by omega)
    have h2 := h (i + 1 + d) _ _ (by omega) (List.getElem?_eq_getElem (by omega)) (List.getElem?_eq_getElem (by omega))
    exact Int.lt_trans h1 h2

set_option maxHeartbeats 2000000 in
set_option maxRecDepth 100000 in
theorem rising_is {w : World} {u : Value} {l : List Im} (h : Its w u l) (hl : l.length ≤ 100000000) : Calls Try.prog 55 #[.slice none 0 0, u] w (fun e w' => e = .returned (.bool (decide (rising l))) ∧ Below w.heap.size w w') := by
  obtain ⟨a, cap, rfl, hlc, hi⟩ := h
  have HI := hidp hi
  clear hi
  go_enter Try.func55, Try.ntmps55
  go_wp2
  go_loopw [5] (fun i wr => ∃ j : Nat, 0 < j ∧ (j ≤ l.length ∨ j = 1) ∧ i = .int .i64 j ∧ Hid (Adj l j ∧ Below w.heap.size w wr)) (fun i _ => l.length - (intOf i).toNat)
  case atStart => exact ⟨1, by omega, .inr rfl, rfl, hidp ⟨fun i x y h => by omega, Below.refl _ _⟩⟩
  case round =>
    obtain ⟨j, hj0, hj, rfl, HBR⟩ := hrel
    by_cases hlt : j < l.length
    · obtain ⟨i, hji⟩ : ∃ i, j = i + 1 := ⟨j - 1, by omega⟩
      obtain ⟨x, hx⟩ : ∃ x, l[i]? = some x := ⟨_, List.getElem?_eq_getElem (by omega)⟩
      obtain ⟨y, hy⟩ : ∃ y, l[j]? = some y := ⟨_, List.getElem?_eq_getElem hlt⟩
      obtain ⟨b, off, rfl, x1, x2⟩ := HI.out i x hx
      obtain ⟨b', off', e, y1, y2⟩ := HI.out j y hy
      injection e with e
      injection e with e1 e2 _
      subst e1; subst e2
      have hbl : b < w.heap.size := World.block_lt_of_cell? w _ x1
      have c1 := (HBR.out.2.cell (p := ⟨b, off + i * 2, none⟩) hbl).trans x1
      have c2 := (HBR.out.2.cell (p := ⟨b, off + i * 2 + 1, none⟩) hbl).trans x2
      have d1 := (HBR.out.2.cell (p := ⟨b, off + j * 2, none⟩) hbl).trans y1
      have d2 := (HBR.out.2.cell (p := ⟨b, off + j * 2 + 1, none⟩) hbl).trans y2
      have hs0 := HBR.out.2.size
      have jlt : (j : Int) < (l.length : Int) := by omega
      have ilt : (i : Int) < (l.length : Int) := by omega
      have ei : (j : Int) - 1 = (i : Int) := by omega
      have hw1 : IntKind.i64.wrap ((j : Int) - 1) = (i : Int) := by rw [ei, Last.i64_w]; exact IntWalk.wrap64_in _ ⟨by omega, by omega⟩
      have HXY := hidp (And.intro hx hy)
      have HJ := hidp hji
      clear x1 x2 y1 y2 hx hy HI ei hji
      go_wp2
      go_region_held3 (fun w' => w'.cell? ⟨b, off + i * 2, none⟩ = some (.int .i64 x.1) ∧ w'.cell? ⟨b, off + i * 2 + 1, none⟩ = some (.int .i64 x.2) ∧ w'.cell? ⟨b, off + j * 2, none⟩ = some (.int .i64 y.1) ∧ w'.cell? ⟨b, off + j * 2 + 1, none⟩ = some (.int .i64 y.2)) (go_keep)
        ((go_at_call 49
          refine (before_nil _ x.1 x.2 y.1 y.2).mono ?_
          rintro e w2 ⟨rfl, hb2⟩
          have k1 := (hb2.cell (p := ⟨b, off + i * 2, none⟩) (by show b < wr.heap.size; omega)).trans c1
          have k2 := (hb2.cell (p := ⟨b, off + i * 2 + 1, none⟩) (by show b < wr.heap.size; omega)).trans c2
          have k3 := (hb2.cell (p := ⟨b, off + j * 2, none⟩) (by show b < wr.heap.size; omega)).trans d1
          have k4 := (hb2.cell (p := ⟨b, off + j * 2 + 1, none⟩) (by show b < wr.heap.size; omega)).trans d2
          have HB2 := hidp (HBR.out.2.drew.trans (hb2.mono hs0))
          clear hb2))
      generalize hcc : decide (x.1 < y.1) = cc
      have HCC := hidp hcc
      clear hcc
      cases cc with
      | true =>
        go_wp2
        go_roundw
        case rel => exact ⟨j + 1, by omega, .inl (by omega), by go_num, hidp ⟨fun i' a b h ha hb => by
          obtain ⟨hx, hy⟩ := HXY.out
          have hji := HJ.out
          by_cases e : i' = i
          · subst e
            rw [hx] at ha
            rw [← hji, hy] at hb
            obtain rfl := Option.some.inj ha
            obtain rfl := Option.some.inj hb
            exact of_decide_eq_true HCC.out
          · exact HBR.out.1 i' a b (by omega) ha hb, HB2.out⟩⟩
        case measure => simp [intOf]; omega
      | false =>
        go_wp2
        go_ret
        refine ⟨?_, HB2.out⟩
        have hn : ¬ rising l := fun h => of_decide_eq_false HCC.out (by
          obtain ⟨hx, hy⟩ := HXY.out
          obtain ⟨h1, e1⟩ := List.getElem?_eq_some_iff.1 hx
          obtain ⟨h2, e2⟩ := List.getElem?_eq_some_iff.1 hy
          have := List.pairwise_iff_getElem.1 h i j h1 h2 (by have := HJ.out; omega)
          rwa [e1, e2] at this)
        rw [decide_eq_false hn]; try rfl
    · have jge : ¬ (j : Int) < (l.length : Int) := by omega
      go_wp2
      go_ret
      refine ⟨?_, HBR.out.2⟩
      rw [decide_eq_true (Adj.rising fun i' a b h ha hb => HBR.out.1 i' a b (by omega) ha hb)]; try rfl

theorem width_is (w : World) {D : Nat} (h : 2 ≤ D) : Calls Try.prog 53 #[.int .i64 D] w (fun e w' => e = .returned (.int .i64 D) ∧ w' = w) := by
  have h0 : ¬ (D : Int) = 0 := by omega
  go_enter Try.func53, Try.ntmps53
  go_wp2
  go_ret
  exact ⟨rfl, rfl⟩
/-- 'fit' -/
theorem fit_is (w : World) (d : Int) : Calls Try.prog 19 #[.int .i64 d] w (fun e w' => e = .returned (.bool (decide (2 ≤ d ∧ d ≤ 128))) ∧ w' = w) := by
  by_cases h0 : 0 < d
  · have hf : ∀ w1 : World, Calls Try.prog 52 #[.int .i64 d] w1 (fun e w' => e = .returned (.bool (decide (2 ≤ d ∧ d ≤ 128))) ∧ w' = w1) := fun w1 => by
      have hd0 : decide (d = 0) = false := decide_eq_false (by omega)
      have hz : ¬ d = 0 := by omega
      by_cases h2 : 2 ≤ d
      · by_cases h3 : d ≤ 128
        · go_enter Try.func52, Try.ntmps52
          go_wp2
          go_ret
          exact ⟨by simp [h2, h3, hz], rfl⟩
        · have hd3 : decide (d ≤ 128) = false := decide_eq_false h3
          go_enter Try.func52, Try.ntmps52
          go_wp2
          go_ret
          exact ⟨by simp [h3, hz], rfl⟩
      · have hd2 : decide (2 ≤ d) = false := decide_eq_false h2
        go_enter Try.func52, Try.ntmps52
        go_wp2
        go_ret
        exact ⟨by simp [h2, hz], rfl⟩
    go_enter Try.func19, Try.ntmps19
    go_wp2_with fail
    refine (hf w).mono ?_
    rintro e w2 ⟨rfl, rfl⟩
    go_wp2
    go_ret
    exact ⟨by simp [h0], rfl⟩
  · have hd : decide (0 < d) = false := decide_eq_false h0
    go_enter Try.func19, Try.ntmps19
    go_wp2
    go_ret
    exact ⟨by simp; omega, rfl⟩
end Go.Proofs.Ytehnobbiiokcgaa.Bt.ND

namespace Go.Proofs.Ytehnobbiiokcgaa.Bt
set_option linter.unusedVariables false
set_option linter.unusedSimpArgs false
open Go

/-- A region whose operations each yield one value in every world of the class C and leave a world of C. -/
theorem region_class {P : Program} {C : World → Prop} {id : Nat} {Q : Exit → Act → World → Prop} {a : Act} {w : World} {l : List Oper} (hm : P.follows .mixedOrders = true) (hB : Region.lexB .any l.toArray = true) (hC : C w.drew)
    (h : wpQuiet P l.toArray C (fun a' => ∀ w', C w' → Q .normal a' w') l a) : (Code.region id l.toArray true).wp P Q a w :=
  wp_region_quiet (C := C) hm hB hC (by simpa using h)
end Go.Proofs.Ytehnobbiiokcgaa.Bt

namespace Go.Proofs.Ytehnobbiiokcgaa.Bt.ND
set_option linter.unusedVariables false
set_option linter.unusedSimpArgs false
open Go Go.RowKit Go.Proofs.Ytehnobbiiokcgaa.Bt

def validB (D : Nat) : (n : Nat) → DT n → Bool
  | 0, _ => false
  | n + 1, t => (t.1.isEmpty && t.2.1.isEmpty) || ((lev (n + 1) t).2 && filled D 1 (n + 1) t && decide (rising (dAll (n + 1) t)))
theorem is_empty {α : Type} {l : List α} : l.isEmpty = decide (l.length = 0) := by cases l <;> simp

/-- The node's own three cells. -/
def Cells3 (w : World) (b : Nat) (vi vk : Value) (c : Int) : Prop := w.cell? ⟨b, 0, none⟩ = some vi ∧ w.cell? ⟨b, 1, none⟩ = some vk ∧ w.cell? ⟨b, 2, none⟩ = some (.int .i64 c)
theorem Cells3.below {w w' : World} {b B : Nat} {vi vk : Value} {c : Int} (h : Cells3 w b vi vk c) (hb : Below B w w') (hlt : b < B) : Cells3 w' b vi vk c :=
  ⟨(hb.cell (p := ⟨b, 0, none⟩) hlt).trans h.1, (hb.cell (p := ⟨b, 1, none⟩) hlt).trans h.2.1, (hb.cell (p := ⟨b, 2, none⟩) hlt).trans h.2.2⟩

set_option maxHeartbeats 4000000 in
set_option maxRecDepth 100000 in
/-- 'Valid' -/
theorem valid_is {D : Nat} (hD : 2 ≤ D) (hD2 : D ≤ 1000) {n : Nat} {t : DT (n + 1)} {w : World} {vi vk : Value} {c : Int} (hN : NodeAt w (n + 1) t vi vk c) (hb : bulk (n + 1) t ≤ 10000000) :
    Calls Try.prog 42 #[.agg #[.slice none 0 0, .int .i64 D, .bool false], .agg #[vi, vk, .int .i64 c]] w (fun e w' => e = .returned (.bool (validB D (n + 1) t)) ∧ Below w.heap.size w w') := by
  obtain ⟨p, hp⟩ : ∃ p, p = t.1.length := ⟨_, rfl⟩
  obtain ⟨q, hq⟩ : ∃ q, q = t.2.1.length := ⟨_, rfl⟩
  obtain ⟨ia, icap, a, cap, hvi, hvk⟩ : ∃ ia icap a cap, vi = .slice ia p icap ∧ vk = .slice a q cap := by
    obtain ⟨hcx, ⟨ia, icap, hvi, _, _⟩, a, cap, hvk, hlc, _⟩ := hN
    exact ⟨ia, icap, a, cap, by rw [hp]; exact hvi, by rw [hq]; exact hvk⟩
  subst hvi; subst hvk
  have HN := hidp hN
  have hB1 : Below w.heap.size w ((w.alloc (.cells #[.slice none 0 0, .int .i64 D, .bool false] 45)).alloc (.cells #[.slice ia p icap, .slice a q cap, .int .i64 c] 25)) := ((Below.refl _ _).alloc (Nat.le_refl _) _).alloc (by rw [World.size_alloc]; omega) _
  by_cases h0 : p = 0 ∧ q = 0
  · have e1 : validB D (n + 1) t = true := by
      show (t.1.isEmpty && t.2.1.isEmpty || _) = true
      rw [is_empty, is_empty, ← hp, ← hq, h0.1, h0.2]; rfl
    rw [e1]
    obtain ⟨h1, h2⟩ := h0
    clear hp hq e1 hN
    subst h1; subst h2
    have HB1 := hidp hB1
    clear hB1
    go_enter Try.func42, Try.ntmps42
    go_wp2
    go_ret
    exact ⟨rfl, HB1.out⟩
  · have e1 : validB D (n + 1) t = ((lev (n + 1) t).2 && filled D 1 (n + 1) t && decide (rising (dAll (n + 1) t))) := by
      show (t.1.isEmpty && t.2.1.isEmpty || _) = _
      rw [is_empty, is_empty, ← hp, ← hq]
      by_cases h1 : p = 0
      · rw [decide_eq_false (show ¬ q = 0 from fun h => h0 ⟨h1, h⟩)]; simp
      · rw [decide_eq_false h1]; simp
    rw [e1]
    clear e1 hp hq hN
    have hbx := Bx.new (w.alloc (.cells #[.slice none 0 0, .int .i64 D, .bool false] 45)) [.slice ia p icap, .slice a q cap, .int .i64 c] 25
    have hby := (Bx.new w [.slice none 0 0, .int .i64 D, .bool false] 45).alloc (.cells #[.slice ia p icap, .slice a q cap, .int .i64 c] 25)
    have hsz0 : (w.alloc (.cells #[.slice none 0 0, .int .i64 D, .bool false] 45)).heap.size = w.heap.size + 1 := by simp
    rw [hsz0] at hbx
    obtain ⟨w1, hw1⟩ : ∃ w1, w1 = (w.alloc (.cells #[.slice none 0 0, .int .i64 D, .bool false] 45)).alloc (.cells #[.slice ia p icap, .slice a q cap, .int .i64 c] 25) := ⟨_, rfl⟩
    have hsz1 : w1.heap.size = w.heap.size + 2 := by rw [hw1]; simp
    have HC1 : Hid (Cells3 w1 (w.heap.size + 1) (.slice ia p icap) (.slice a q cap) c) := hidp (by rw [hw1]; exact ⟨hbx.cell 0 rfl, hbx.cell 1 rfl, hbx.cell 2 rfl⟩)
    have HM1 : Hid (w1.cell? ⟨w.heap.size, 0, none⟩ = some (.slice none 0 0) ∧ w1.cell? ⟨w.heap.size, 1, none⟩ = some (.int .i64 D)) := hidp (by rw [hw1]; exact ⟨hby.cell 0 rfl, hby.cell 1 rfl⟩)
    rw [← hw1] at hB1
    have HB1 := hidp hB1
    have HW1 := hidp hw1
    have HLV := hidp (levels_is (n + 1) t (HN.out.below hB1) hb)
    have hlt0 : w.heap.size < w1.heap.size := by omega
    have hlt1 : w.heap.size + 1 < w1.heap.size := by omega
    clear hbx hby hsz0 hw1 hB1
    by_cases hp0 : p = 0
    · subst hp0
      have hq0 : ¬ (q : Int) = 0 := by omega
      have hq1 : ¬ q = 0 := by omega
      have hq2 : decide ((q : Int) = 0) = false := decide_eq_false hq0
      clear h0
      cases hlv : (lev (n + 1) t).2 with
      | false =>
        go_enter Try.func42, Try.ntmps42
        go_wp2_with fail
        rw [← HW1.out]
        refine HLV.out.mono ?_
        rintro e w2 ⟨rfl, hb2⟩
        rw [hlv]
        have HC2 := hidp (HC1.out.below hb2 hlt1)
        have m0 := (hb2.cell (p := ⟨w.heap.size, 0, none⟩) hlt0).trans HM1.out.1
        have m1 := (hb2.cell (p := ⟨w.heap.size, 1, none⟩) hlt0).trans HM1.out.2
        have HB2 := hidp (HB1.out.trans (hb2.mono (by omega)))
        obtain ⟨y0, y1, y2⟩ := HC2.out
        have hs2 : w.heap.size + 2 ≤ w2.heap.size := by have := hb2.size; omega
        clear hb2 HLV
        go_wp2
        go_quiet (fail)
        go_wp2
        go_ret
        exact ⟨by simp [hlv], Below.drewN HB2.out _⟩
      | true =>
        cases hfl : filled D 1 (n + 1) t with
        | false =>
          go_enter Try.func42, Try.ntmps42
          go_wp2_with fail
          rw [← HW1.out]
          refine HLV.out.mono ?_
          rintro e w2 ⟨rfl, hb2⟩
          rw [hlv]
          have HC2 := hidp (HC1.out.below hb2 hlt1)
          have m0 := (hb2.cell (p := ⟨w.heap.size, 0, none⟩) hlt0).trans HM1.out.1
          have m1 := (hb2.cell (p := ⟨w.heap.size, 1, none⟩) hlt0).trans HM1.out.2
          have HB2 := hidp (HB1.out.trans (hb2.mono (by omega)))
          obtain ⟨y0, y1, y2⟩ := HC2.out
          have hs2 : w.heap.size + 2 ≤ w2.heap.size := by have := hb2.size; omega
          clear hb2 HLV
          go_wp2
          refine region_class (C := fun w' => Cells3 w' (w.heap.size + 1) (.slice ia 0 icap) (.slice a q cap) c ∧ w'.cell? ⟨w.heap.size, 1, none⟩ = some (.int .i64 D) ∧ w'.cell? ⟨w.heap.size, 0, none⟩ = some (.slice none 0 0) ∧ Below w.heap.size w w' ∧ w.heap.size + 2 ≤ w'.heap.size) (by kernel_rfl) (by kernel_rfl) ⟨HC2.out, m1, m0, HB2.out.drew, hs2⟩ ?_
          repeat (first
            | go_big_quiet_skip
            | (go_big_quiet_want
               first
               | (go_big_quiet_op; go_big_quiet_on)
               | (apply Exists.intro
                  refine ⟨fun wq hq => ?_, ?_⟩
                  (obtain ⟨⟨f0, f1, f2⟩, f3, f4, f5, f6⟩ := hq
                   unfold Oper.quietAt
                   first
                   | (go_simp; done)
                   | (go_simp; with_reducible rfl)
                   | (go_simp
                      go_at_call 53
                      refine (width_is _ hD).mono ?_
                      rintro e w' ⟨rfl, rfl⟩
                      exact ⟨rfl, ⟨f0, f1, f2⟩, f3, f4, f5, f6⟩)
                   | (go_simp
                      go_at_call 54
                      have hF := filled_is hD hD2 (n + 1) t 1 (by omega) (HN.out.below f5) hb
                      rw [hfl] at hF
                      refine hF.mono ?_
                      rintro e w3 ⟨rfl, hb3⟩
                      have h7 := hb3.size
                      exact ⟨rfl, Cells3.below ⟨f0, f1, f2⟩ hb3 (by omega), (hb3.cell (p := ⟨w.heap.size, 1, none⟩) (by show w.heap.size < wq.heap.size; omega)).trans f3, (hb3.cell (p := ⟨w.heap.size, 0, none⟩) (by show w.heap.size < wq.heap.size; omega)).trans f4, f5.trans (hb3.mono (by omega)), by omega⟩))
                  try simp only [Act.put, List.setIfInBounds_toArray, List.set_cons_zero, List.set_cons_succ]
                  go_big_quiet_on)))
          refine wpQuiet_nil ?_
          intro w3 hq
          obtain ⟨_, _, _, h5, _⟩ := hq
          go_wp2
          go_ret
          exact ⟨by simp [hlv, hfl], h5⟩
        | true =>
          go_enter Try.func42, Try.ntmps42
          go_wp2_with fail
          rw [← HW1.out]
          refine HLV.out.mono ?_
          rintro e w2 ⟨rfl, hb2⟩
          rw [hlv]
          have HC2 := hidp (HC1.out.below hb2 hlt1)
          have m0 := (hb2.cell (p := ⟨w.heap.size, 0, none⟩) hlt0).trans HM1.out.1
          have m1 := (hb2.cell (p := ⟨w.heap.size, 1, none⟩) hlt0).trans HM1.out.2
          have HB2 := hidp (HB1.out.trans (hb2.mono (by omega)))
          obtain ⟨y0, y1, y2⟩ := HC2.out
          have hs2 : w.heap.size + 2 ≤ w2.heap.size := by have := hb2.size; omega
          clear hb2 HLV
          go_wp2
          go_region_held3 (fun w' => w'.cell? ⟨w.heap.size + 1, 0, none⟩ = some (.slice ia 0 icap) ∧ w'.cell? ⟨w.heap.size + 1, 1, none⟩ = some (.slice a q cap) ∧ w'.cell? ⟨w.heap.size + 1, 2, none⟩ = some (.int .i64 c) ∧ w'.cell? ⟨w.heap.size, 0, none⟩ = some (.slice none 0 0) ∧ w'.cell? ⟨w.heap.size, 1, none⟩ = some (.int .i64 D)) (go_keep)
            ((first
              | (go_at_call 53
                 refine (width_is _ hD).mono ?_
                 rintro e w' ⟨rfl, rfl⟩)
              | (go_at_call 54
                 have hF := filled_is hD hD2 (n + 1) t 1 (by omega) (HN.out.below HB2.out.drew) hb
                 rw [hfl] at hF
                 refine hF.mono ?_
                 rintro e w3 ⟨rfl, hb3⟩
                 clear hF
                 obtain ⟨k0, k1, k2⟩ := Cells3.below (w := w2.drew) HC2.out hb3 (by show w.heap.size + 1 < w2.heap.size; omega)
                 have k3 := (hb3.cell (p := ⟨w.heap.size, 0, none⟩) (by show w.heap.size < w2.heap.size; omega)).trans m0
                 have k4 := (hb3.cell (p := ⟨w.heap.size, 1, none⟩) (by show w.heap.size < w2.heap.size; omega)).trans m1
                 have HB3 := hidp (HB2.out.drew.trans (hb3.mono (by show w.heap.size ≤ w2.heap.size; omega)))
                 have hs3 : w.heap.size + 2 ≤ w3.heap.size := by have h := hb3.size; have h2 : w2.drew.heap.size = w2.heap.size := rfl; omega
                 clear hb3)
              | (go_at_call 14
                 refine (items_is (n + 1) t (HN.out.below HB3.out) hb).mono ?_
                 rintro e w4 ⟨u, rfl, ho⟩
                 have HI4 := hidp ho.its
                 obtain ⟨_, _, _, hb4⟩ := ho
                 have j0 := (hb4.cell (p := ⟨w.heap.size + 1, 0, none⟩) (by show w.heap.size + 1 < w3.heap.size; omega)).trans k0
                 have j1 := (hb4.cell (p := ⟨w.heap.size + 1, 1, none⟩) (by show w.heap.size + 1 < w3.heap.size; omega)).trans k1
                 have j2 := (hb4.cell (p := ⟨w.heap.size + 1, 2, none⟩) (by show w.heap.size + 1 < w3.heap.size; omega)).trans k2
                 have j3 := (hb4.cell (p := ⟨w.heap.size, 0, none⟩) (by show w.heap.size < w3.heap.size; omega)).trans k3
                 have j4 := (hb4.cell (p := ⟨w.heap.size, 1, none⟩) (by show w.heap.size < w3.heap.size; omega)).trans k4
                 have HB4 := hidp (HB3.out.trans (hb4.mono (by omega)))
                 have hs4 : w.heap.size + 2 ≤ w4.heap.size := by have h := hb4.size; omega
                 clear hb4)
              | (go_at_call 55
                 refine (rising_is HI4.out (by have := dAll_bulk (n + 1) t; omega)).mono ?_
                 rintro e w5 ⟨rfl, hb5⟩
                 have i0 := (hb5.cell (p := ⟨w.heap.size + 1, 0, none⟩) (by show w.heap.size + 1 < w4.heap.size; omega)).trans j0
                 have i1 := (hb5.cell (p := ⟨w.heap.size + 1, 1, none⟩) (by show w.heap.size + 1 < w4.heap.size; omega)).trans j1
                 have i2 := (hb5.cell (p := ⟨w.heap.size + 1, 2, none⟩) (by show w.heap.size + 1 < w4.heap.size; omega)).trans j2
                 have i3 := (hb5.cell (p := ⟨w.heap.size, 0, none⟩) (by show w.heap.size < w4.heap.size; omega)).trans j3
                 have i4 := (hb5.cell (p := ⟨w.heap.size, 1, none⟩) (by show w.heap.size < w4.heap.size; omega)).trans j4
                 have HB5 := hidp (HB4.out.trans (hb5.mono (by omega)))
                 clear hb5)))
          go_wp2
          go_ret
          exact ⟨by simp [hlv, hfl], HB5.out⟩
    · have hq0 : ¬ (p : Int) = 0 := by omega
      clear h0
      cases hlv : (lev (n + 1) t).2 with
      | false =>
        go_enter Try.func42, Try.ntmps42
        go_wp2_with fail
        rw [← HW1.out]
        refine HLV.out.mono ?_
        rintro e w2 ⟨rfl, hb2⟩
        rw [hlv]
        have HC2 := hidp (HC1.out.below hb2 hlt1)
        have m0 := (hb2.cell (p := ⟨w.heap.size, 0, none⟩) hlt0).trans HM1.out.1
        have m1 := (hb2.cell (p := ⟨w.heap.size, 1, none⟩) hlt0).trans HM1.out.2
        have HB2 := hidp (HB1.out.trans (hb2.mono (by omega)))
        obtain ⟨y0, y1, y2⟩ := HC2.out
        have hs2 : w.heap.size + 2 ≤ w2.heap.size := by have := hb2.size; omega
        clear hb2 HLV
        go_wp2
        go_quiet (fail)
        go_wp2
        go_ret
        exact ⟨by simp [hlv], Below.drewN HB2.out _⟩
      | true =>
        cases hfl : filled D 1 (n + 1) t with
        | false =>
          go_enter Try.func42, Try.ntmps42
          go_wp2_with fail
          rw [← HW1.out]
          refine HLV.out.mono ?_
          rintro e w2 ⟨rfl, hb2⟩
          rw [hlv]
          have HC2 := hidp (HC1.out.below hb2 hlt1)
          have m0 := (hb2.cell (p := ⟨w.heap.size, 0, none⟩) hlt0).trans HM1.out.1
          have m1 := (hb2.cell (p := ⟨w.heap.size, 1, none⟩) hlt0).trans HM1.out.2
          have HB2 := hidp (HB1.out.trans (hb2.mono (by omega)))
          obtain ⟨y0, y1, y2⟩ := HC2.out
          have hs2 : w.heap.size + 2 ≤ w2.heap.size := by have := hb2.size; omega
          clear hb2 HLV
          go_wp2
          refine region_class (C := fun w' => Cells3 w' (w.heap.size + 1) (.slice ia p icap) (.slice a q cap) c ∧ w'.cell? ⟨w.heap.size, 1, none⟩ = some (.int .i64 D) ∧ w'.cell? ⟨w.heap.size, 0, none⟩ = some (.slice none 0 0) ∧ Below w.heap.size w w' ∧ w.heap.size + 2 ≤ w'.heap.size) (by kernel_rfl) (by kernel_rfl) ⟨HC2.out, m1, m0, HB2.out.drew, hs2⟩ ?_
          repeat (first
            | go_big_quiet_skip
            | (go_big_quiet_want
               first
               | (go_big_quiet_op; go_big_quiet_on)
               | (apply Exists.intro
                  refine ⟨fun wq hq => ?_, ?_⟩
                  (obtain ⟨⟨f0, f1, f2⟩, f3, f4, f5, f6⟩ := hq
                   unfold Oper.quietAt
                   first
                   | (go_simp; done)
                   | (go_simp; with_reducible rfl)
                   | (go_simp
                      go_at_call 53
                      refine (width_is _ hD).mono ?_
                      rintro e w' ⟨rfl, rfl⟩
                      exact ⟨rfl, ⟨f0, f1, f2⟩, f3, f4, f5, f6⟩)
                   | (go_simp
                      go_at_call 54
                      have hF := filled_is hD hD2 (n + 1) t 1 (by omega) (HN.out.below f5) hb
                      rw [hfl] at hF
                      refine hF.mono ?_
                      rintro e w3 ⟨rfl, hb3⟩
                      have h7 := hb3.size
                      exact ⟨rfl, Cells3.below ⟨f0, f1, f2⟩ hb3 (by omega), (hb3.cell (p := ⟨w.heap.size, 1, none⟩) (by show w.heap.size < wq.heap.size; omega)).trans f3, (hb3.cell (p := ⟨w.heap.size, 0, none⟩) (by show w.heap.size < wq.heap.size; omega)).trans f4, f5.trans (hb3.mono (by omega)), by omega⟩))
                  try simp only [Act.put, List.setIfInBounds_toArray, List.set_cons_zero, List.set_cons_succ]
                  go_big_quiet_on)))
          refine wpQuiet_nil ?_
          intro w3 hq
          obtain ⟨_, _, _, h5, _⟩ := hq
          go_wp2
          go_ret
          exact ⟨by simp [hlv, hfl], h5⟩
        | true =>
          go_enter Try.func42, Try.ntmps42
          go_wp2_with fail
          rw [← HW1.out]
          refine HLV.out.mono ?_
          rintro e w2 ⟨rfl, hb2⟩
          rw [hlv]
          have HC2 := hidp (HC1.out.below hb2 hlt1)
          have m0 := (hb2.cell (p := ⟨w.heap.size, 0, none⟩) hlt0).trans HM1.out.1
          have m1 := (hb2.cell (p := ⟨w.heap.size, 1, none⟩) hlt0).trans HM1.out.2
          have HB2 := hidp (HB1.out.trans (hb2.mono (by omega)))
          obtain ⟨y0, y1, y2⟩ := HC2.out
          have hs2 : w.heap.size + 2 ≤ w2.heap.size := by have := hb2.size; omega
          clear hb2 HLV
          go_wp2
          go_region_held3 (fun w' => w'.cell? ⟨w.heap.size + 1, 0, none⟩ = some (.slice ia p icap) ∧ w'.cell? ⟨w.heap.size + 1, 1, none⟩ = some (.slice a q cap) ∧ w'.cell? ⟨w.heap.size + 1, 2, none⟩ = some (.int .i64 c) ∧ w'.cell? ⟨w.heap.size, 0, none⟩ = some (.slice none 0 0) ∧ w'.cell? ⟨w.heap.size, 1, none⟩ = some (.int .i64 D)) (go_keep)
            ((first
              | (go_at_call 53
                 refine (width_is _ hD).mono ?_
                 rintro e w' ⟨rfl, rfl⟩)
              | (go_at_call 54
                 have hF := filled_is hD hD2 (n + 1) t 1 (by omega) (HN.out.below HB2.out.drew) hb
                 rw [hfl] at hF
                 refine hF.mono ?_
                 rintro e w3 ⟨rfl, hb3⟩
                 clear hF
                 obtain ⟨k0, k1, k2⟩ := Cells3.below (w := w2.drew) HC2.out hb3 (by show w.heap.size + 1 < w2.heap.size; omega)
                 have k3 := (hb3.cell (p := ⟨w.heap.size, 0, none⟩) (by show w.heap.size < w2.heap.size; omega)).trans m0
                 have k4 := (hb3.cell (p := ⟨w.heap.size, 1, none⟩) (by show w.heap.size < w2.heap.size; omega)).trans m1
                 have HB3 := hidp (HB2.out.drew.trans (hb3.mono (by show w.heap.size ≤ w2.heap.size; omega)))
                 have hs3 : w.heap.size + 2 ≤ w3.heap.size := by have h := hb3.size; have h2 : w2.drew.heap.size = w2.heap.size := rfl; omega
                 clear hb3)
              | (go_at_call 14
                 refine (items_is (n + 1) t (HN.out.below HB3.out) hb).mono ?_
                 rintro e w4 ⟨u, rfl, ho⟩
                 have HI4 := hidp ho.its
                 obtain ⟨_, _, _, hb4⟩ := ho
                 have j0 := (hb4.cell (p := ⟨w.heap.size + 1, 0, none⟩) (by show w.heap.size + 1 < w3.heap.size; omega)).trans k0
                 have j1 := (hb4.cell (p := ⟨w.heap.size + 1, 1, none⟩) (by show w.heap.size + 1 < w3.heap.size; omega)).trans k1
                 have j2 := (hb4.cell (p := ⟨w.heap.size + 1, 2, none⟩) (by show w.heap.size + 1 < w3.heap.size; omega)).trans k2
                 have j3 := (hb4.cell (p := ⟨w.heap.size, 0, none⟩) (by show w.heap.size < w3.heap.size; omega)).trans k3
                 have j4 := (hb4.cell (p := ⟨w.heap.size, 1, none⟩) (by show w.heap.size < w3.heap.size; omega)).trans k4
                 have HB4 := hidp (HB3.out.trans (hb4.mono (by omega)))
                 have hs4 : w.heap.size + 2 ≤ w4.heap.size := by have h := hb4.size; omega
                 clear hb4)
              | (go_at_call 55
                 refine (rising_is HI4.out (by have := dAll_bulk (n + 1) t; omega)).mono ?_
                 rintro e w5 ⟨rfl, hb5⟩
                 have i0 := (hb5.cell (p := ⟨w.heap.size + 1, 0, none⟩) (by show w.heap.size + 1 < w4.heap.size; omega)).trans j0
                 have i1 := (hb5.cell (p := ⟨w.heap.size + 1, 1, none⟩) (by show w.heap.size + 1 < w4.heap.size; omega)).trans j1
                 have i2 := (hb5.cell (p := ⟨w.heap.size + 1, 2, none⟩) (by show w.heap.size + 1 < w4.heap.size; omega)).trans j2
                 have i3 := (hb5.cell (p := ⟨w.heap.size, 0, none⟩) (by show w.heap.size < w4.heap.size; omega)).trans j3
                 have i4 := (hb5.cell (p := ⟨w.heap.size, 1, none⟩) (by show w.heap.size < w4.heap.size; omega)).trans j4
                 have HB5 := hidp (HB4.out.trans (hb5.mono (by omega)))
                 clear hb5)))
          go_wp2
          go_ret
          exact ⟨by simp [hlv, hfl], HB5.out⟩
end Go.Proofs.Ytehnobbiiokcgaa.Bt.ND
