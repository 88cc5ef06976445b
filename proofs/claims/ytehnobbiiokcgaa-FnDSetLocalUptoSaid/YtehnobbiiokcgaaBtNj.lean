/- Nodes as data: Valid, and what the laws ask of a node. -/
import Derived.Test.YtehnobbiiokcgaaBtNi
import Derived.Test.YtehnobbiiokcgaaBtQc
namespace Go.Proofs.Ytehnobbiiokcgaa.Bt.ND
set_option linter.unusedVariables false
set_option linter.unusedSimpArgs false
open Go Go.RowKit Go.Proofs.Ytehnobbiiokcgaa.Bt

def validB (D : Nat) : (n : Nat) → DT n → Bool
  | 0, _ => false
  | n + 1, t => (t.1.isEmpty && t.2.1.isEmpty) || ((lev (n + 1) t).2 && filled D 1 (n + 1) t && decide (rising (dAll (n + 1) t)))
theorem is_empty {α : Type} {l : List α} : l.isEmpty = decide (l.length = 0) := by cases l <;> simp

/-- The node's own three cells. -/
def Cells3 (w : World) (b : Nat) (vi vk : Value) (c : Int) : Prop := w.cell? ⟨b, 0, none⟩ = some vi ∧ w.cell? ⟨b, 1, none⟩ = some vk ∧ w.cell? ⟨b, 2, none⟩ = some (.int .i64 c)
theorem Cells3.below {w w' : World} {b B : Nat} {vi vk : Value} {c : Int} (h : Cells3 w b vi vk c) (hb : Below B w w') (hlt : b < B) : Cells3 w' b vi vk c :=
  ⟨(hb.cell (p := ⟨b, 0, none⟩) hlt).trans h.1, (hb.cell (p := ⟨b, 1, none⟩) hlt).trans h.2.1, (hb.cell (p := ⟨b, 2, none⟩) hlt).trans h.2.2⟩

set_option maxHeartbeats 4000000 in
set_option maxRecDepth 100000 in
/-- 'Valid' -/
theorem valid_is {D : Nat} (hD : 2 ≤ D) (hD2 : D ≤ 1000) {n : Nat} {t : DT (n + 1)} {w : World} {vi vk : Value} {c : Int} (hN : NodeAt w (n + 1) t vi vk c) (hb : bulk (n + 1) t ≤ 10000000) :
    Calls Try.prog 42 #[.agg #[.slice none 0 0, .int .i64 D, .bool false], .agg #[vi, vk, .int .i64 c]] w (fun e w' => e = .returned (.bool (validB D (n + 1) t)) ∧ Below w.heap.size w w') := by
  obtain ⟨p, hp⟩ : ∃ p, p = t.1.length := ⟨_, rfl⟩
  obtain ⟨q, hq⟩ : ∃ q, q = t.2.1.length := ⟨_, rfl⟩
  obtain ⟨ia, icap, a, cap, hvi, hvk⟩ : ∃ ia icap a cap, vi = .slice ia p icap ∧ vk = .slice a q cap := by
    obtain ⟨hcx, ⟨ia, icap, hvi, _, _⟩, a, cap, hvk, hlc, _⟩ := hN
    exact ⟨ia, icap, a, cap, by rw [hp]; exact hvi, by rw [hq]; exact hvk⟩
  subst hvi; subst hvk
  have HN := hidp hN
  have hB1 : Below w.heap.size w ((w.alloc (.cells #[.slice none 0 0, .int .i64 D, .bool false] 45)).alloc (.cells #[.slice ia p icap, .slice a q cap, .int .i64 c] 25)) := ((Below.refl _ _).alloc (Nat.le_refl _) _).alloc (by rw [World.size_alloc]; omega) _
  by_cases h0 : p = 0 ∧ q = 0
  · have e1 : validB D (n + 1) t = true := by
      show (t.1.isEmpty && t.2.1.isEmpty || _) = true
      rw [is_empty, is_empty, ← hp, ← hq, h0.1, h0.2]; rfl
    rw [e1]
    obtain ⟨h1, h2⟩ := h0
    clear hp hq e1 hN
    subst h1; subst h2
    have HB1 := hidp hB1
    clear hB1
    go_enter Try.func42, Try.ntmps42
    go_wp2
    go_ret
    exact ⟨rfl, HB1.out⟩
  · have e1 : validB D (n + 1) t = ((lev (n + 1) t).2 && filled D 1 (n + 1) t && decide (rising (dAll (n + 1) t))) := by
      show (t.1.isEmpty && t.2.1.isEmpty || _) = _
      rw [is_empty, is_empty, ← hp, ← hq]
      by_cases h1 : p = 0
      · rw [decide_eq_false (show ¬ q = 0 from fun h => h0 ⟨h1, h⟩)]; simp
      · rw [decide_eq_false h1]; simp
    rw [e1]
    clear e1 hp hq hN
    have hbx := Bx.new (w.alloc (.cells #[.slice none 0 0, .int .i64 D, .bool false] 45)) [.slice ia p icap, .slice a q cap, .int .i64 c] 25
    have hby := (Bx.new w [.slice none 0 0, .int .i64 D, .bool false] 45).alloc (.cells #[.slice ia p icap, .slice a q cap, .int .i64 c] 25)
    have hsz0 : (w.alloc (.cells #[.slice none 0 0, .int .i64 D, .bool false] 45)).heap.size = w.heap.size + 1 := by simp
    rw [hsz0] at hbx
    obtain ⟨w1, hw1⟩ : ∃ w1, w1 = (w.alloc (.cells #[.slice none 0 0, .int .i64 D, .bool false] 45)).alloc (.cells #[.slice ia p icap, .slice a q cap, .int .i64 c] 25) := ⟨_, rfl⟩
    have hsz1 : w1.heap.size = w.heap.size + 2 := by rw [hw1]; simp
    have HC1 : Hid (Cells3 w1 (w.heap.size + 1) (.slice ia p icap) (.slice a q cap) c) := hidp (by rw [hw1]; exact ⟨hbx.cell 0 rfl, hbx.cell 1 rfl, hbx.cell 2 rfl⟩)
    have HM1 : Hid (w1.cell? ⟨w.heap.size, 0, none⟩ = some (.slice none 0 0) ∧ w1.cell? ⟨w.heap.size, 1, none⟩ = some (.int .i64 D)) := hidp (by rw [hw1]; exact ⟨hby.cell 0 rfl, hby.cell 1 rfl⟩)
    rw [← hw1] at hB1
    have HB1 := hidp hB1
    have HW1 := hidp hw1
    have HLV := hidp (levels_is (n + 1) t (HN.out.below hB1) hb)
    have hlt0 : w.heap.size < w1.heap.size := by omega
    have hlt1 : w.heap.size + 1 < w1.heap.size := by omega
    clear hbx hby hsz0 hw1 hB1
    by_cases hp0 : p = 0
    · subst hp0
      have hq0 : ¬ (q : Int) = 0 := by omega
      have hq1 : ¬ q = 0 := by omega
      have hq2 : decide ((q : Int) = 0) = false := decide_eq_false hq0
      clear h0
      cases hlv : (lev (n + 1) t).2 with
      | false =>
        go_enter Try.func42, Try.ntmps42
        go_wp2_with fail
        rw [← HW1.out]
        refine HLV.out.mono ?_
        rintro e w2 ⟨rfl, hb2⟩
        rw [hlv]
        have HC2 := hidp (HC1.out.below hb2 hlt1)
        have m0 := (hb2.cell (p := ⟨w.heap.size, 0, none⟩) hlt0).trans HM1.out.1
        have m1 := (hb2.cell (p := ⟨w.heap.size, 1, none⟩) hlt0).trans HM1.out.2
        have HB2 := hidp (HB1.out.trans (hb2.mono (by omega)))
        obtain ⟨y0, y1, y2⟩ := HC2.out
        have hs2 : w.heap.size + 2 ≤ w2.heap.size := by have := hb2.size; omega
        clear hb2 HLV
        go_wp2
        go_quiet (fail)
        go_wp2
        go_ret
        exact ⟨by simp [hlv], Below.drewN HB2.out _⟩
      | true =>
        cases hfl : filled D 1 (n + 1) t with
        | false =>
          go_enter Try.func42, Try.ntmps42
          go_wp2_with fail
          rw [← HW1.out]
          refine HLV.out.mono ?_
          rintro e w2 ⟨rfl, hb2⟩
          rw [hlv]
          have HC2 := hidp (HC1.out.below hb2 hlt1)
          have m0 := (hb2.cell (p := ⟨w.heap.size, 0, none⟩) hlt0).trans HM1.out.1
          have m1 := (hb2.cell (p := ⟨w.heap.size, 1, none⟩) hlt0).trans HM1.out.2
          have HB2 := hidp (HB1.out.trans (hb2.mono (by omega)))
          obtain ⟨y0, y1, y2⟩ := HC2.out
          have hs2 : w.heap.size + 2 ≤ w2.heap.size := by have := hb2.size; omega
          clear hb2 HLV
          go_wp2
          refine region_class (C := fun w' => Cells3 w' (w.heap.size + 1) (.slice ia 0 icap) (.slice a q cap) c ∧ w'.cell? ⟨w.heap.size, 1, none⟩ = some (.int .i64 D) ∧ w'.cell? ⟨w.heap.size, 0, none⟩ = some (.slice none 0 0) ∧ Below w.heap.size w w' ∧ w.heap.size + 2 ≤ w'.heap.size) (by kernel_rfl) (by kernel_rfl) ⟨HC2.out, m1, m0, HB2.out.drew, hs2⟩ ?_
          repeat (first
            | go_big_quiet_skip
            | (go_big_quiet_want
               first
               | (go_big_quiet_op; go_big_quiet_on)
               | (apply Exists.intro
                  refine ⟨fun wq hq => ?_, ?_⟩
                  (obtain ⟨⟨f0, f1, f2⟩, f3, f4, f5, f6⟩ := hq
                   unfold Oper.quietAt
                   first
                   | (go_simp; done)
                   | (go_simp; with_reducible rfl)
                   | (go_simp
                      go_at_call 53
                      refine (width_is _ hD).mono ?_
                      rintro e w' ⟨rfl, rfl⟩
                      exact ⟨rfl, ⟨f0, f1, f2⟩, f3, f4, f5, f6⟩)
                   | (go_simp
                      go_at_call 54
                      have hF := filled_is hD hD2 (n + 1) t 1 (by omega) (HN.out.below f5) hb
                      rw [hfl] at hF
                      refine hF.mono ?_
                      rintro e w3 ⟨rfl, hb3⟩
                      have h7 := hb3.size
                      exact ⟨rfl, Cells3.below ⟨f0, f1, f2⟩ hb3 (by omega), (hb3.cell (p := ⟨w.heap.size, 1, none⟩) (by show w.heap.size < wq.heap.size; omega)).trans f3, (hb3.cell (p := ⟨w.heap.size, 0, none⟩) (by show w.heap.size < wq.heap.size; omega)).trans f4, f5.trans (hb3.mono (by omega)), by omega⟩))
                  try simp only [Act.put, List.setIfInBounds_toArray, List.set_cons_zero, List.set_cons_succ]
                  go_big_quiet_on)))
          refine wpQuiet_nil ?_
          intro w3 hq
          obtain ⟨_, _, _, h5, _⟩ := hq
          go_wp2
          go_ret
          exact ⟨by simp [hlv, hfl], h5⟩
        | true =>
          go_enter Try.func42, Try.ntmps42
          go_wp2_with fail
          rw [← HW1.out]
          refine HLV.out.mono ?_
          rintro e w2 ⟨rfl, hb2⟩
          rw [hlv]
          have HC2 := hidp (HC1.out.below hb2 hlt1)
          have m0 := (hb2.cell (p := ⟨w.heap.size, 0, none⟩) hlt0).trans HM1.out.1
          have m1 := (hb2.cell (p := ⟨w.heap.size, 1, none⟩) hlt0).trans HM1.out.2
          have HB2 := hidp (HB1.out.trans (hb2.mono (by omega)))
          obtain ⟨y0, y1, y2⟩ := HC2.out
          have hs2 : w.heap.size + 2 ≤ w2.heap.size := by have := hb2.size; omega
          clear hb2 HLV
          go_wp2
          go_region_held3 (fun w' => w'.cell? ⟨w.heap.size + 1, 0, none⟩ = some (.slice ia 0 icap) ∧ w'.cell? ⟨w.heap.size + 1, 1, none⟩ = some (.slice a q cap) ∧ w'.cell? ⟨w.heap.size + 1, 2, none⟩ = some (.int .i64 c) ∧ w'.cell? ⟨w.heap.size, 0, none⟩ = some (.slice none 0 0) ∧ w'.cell? ⟨w.heap.size, 1, none⟩ = some (.int .i64 D)) (go_keep)
            ((first
              | (go_at_call 53
                 refine (width_is _ hD).mono ?_
                 rintro e w' ⟨rfl, rfl⟩)
              | (go_at_call 54
                 have hF := filled_is hD hD2 (n + 1) t 1 (by omega) (HN.out.below HB2.out.drew) hb
                 rw [hfl] at hF
                 refine hF.mono ?_
                 rintro e w3 ⟨rfl, hb3⟩
                 clear hF
                 obtain ⟨k0, k1, k2⟩ := Cells3.below (w := w2.drew) HC2.out hb3 (by show w.heap.size + 1 < w2.heap.size; omega)
                 have k3 := (hb3.cell (p := ⟨w.heap.size, 0, none⟩) (by show w.heap.size < w2.heap.size; omega)).trans m0
                 have k4 := (hb3.cell (p := ⟨w.heap.size, 1, none⟩) (by show w.heap.size < w2.heap.size; omega)).trans m1
                 have HB3 := hidp (HB2.out.drew.trans (hb3.mono (by show w.heap.size ≤ w2.heap.size; omega)))
                 have hs3 : w.heap.size + 2 ≤ w3.heap.size := by have h := hb3.size; have h2 : w2.drew.heap.size = w2.heap.size := rfl; omega
                 clear hb3)
              | (go_at_call 14
                 refine (items_is (n + 1) t (HN.out.below HB3.out) hb).mono ?_
                 rintro e w4 ⟨u, rfl, ho⟩
                 have HI4 := hidp ho.its
                 obtain ⟨_, _, _, hb4⟩ := ho
                 have j0 := (hb4.cell (p := ⟨w.heap.size + 1, 0, none⟩) (by show w.heap.size + 1 < w3.heap.size; omega)).trans k0
                 have j1 := (hb4.cell (p := ⟨w.heap.size + 1, 1, none⟩) (by show w.heap.size + 1 < w3.heap.size; omega)).trans k1
                 have j2 := (hb4.cell (p := ⟨w.heap.size + 1, 2, none⟩) (by show w.heap.size + 1 < w3.heap.size; omega)).trans k2
                 have j3 := (hb4.cell (p := ⟨w.heap.size, 0, none⟩) (by show w.heap.size < w3.heap.size; omega)).trans k3
                 have j4 := (hb4.cell (p := ⟨w.heap.size, 1, none⟩) (by show w.heap.size < w3.heap.size; omega)).trans k4
                 have HB4 := hidp (HB3.out.trans (hb4.mono (by omega)))
                 have hs4 : w.heap.size + 2 ≤ w4.heap.size := by have h := hb4.size; omega
                 clear hb4)
              | (go_at_call 55
                 refine (rising_is HI4.out (by have := dAll_bulk (n + 1) t; omega)).mono ?_
                 rintro e w5 ⟨rfl, hb5⟩
                 have i0 := (hb5.cell (p := ⟨w.heap.size + 1, 0, none⟩) (by show w.heap.size + 1 < w4.heap.size; omega)).trans j0
                 have i1 := (hb5.cell (p := ⟨w.heap.size + 1, 1, none⟩) (by show w.heap.size + 1 < w4.heap.size; omega)).trans j1
                 have i2 := (hb5.cell (p := ⟨w.heap.size + 1, 2, none⟩) (by show w.heap.size + 1 < w4.heap.size; omega)).trans j2
                 have i3 := (hb5.cell (p := ⟨w.heap.size, 0, none⟩) (by show w.heap.size < w4.heap.size; omega)).trans j3
                 have i4 := (hb5.cell (p := ⟨w.heap.size, 1, none⟩) (by show w.heap.size < w4.heap.size; omega)).trans j4
                 have HB5 := hidp (HB4.out.trans (hb5.mono (by omega)))
                 clear hb5)))
          go_wp2
          go_ret
          exact ⟨by simp [hlv, hfl], HB5.out⟩
    · have hq0 : ¬ (p : Int) = 0 := by omega
      clear h0
      cases hlv : (lev (n + 1) t).2 with
      | false =>
        go_enter Try.func42, Try.ntmps42
        go_wp2_with fail
        rw [← HW1.out]
        refine HLV.out.mono ?_
        rintro e w2 ⟨rfl, hb2⟩
        rw [hlv]
        have HC2 := hidp (HC1.out.below hb2 hlt1)
        have m0 := (hb2.cell (p := ⟨w.heap.size, 0, none⟩) hlt0).trans HM1.out.1
        have m1 := (hb2.cell (p := ⟨w.heap.size, 1, none⟩) hlt0).trans HM1.out.2
        have HB2 := hidp (HB1.out.trans (hb2.mono (by omega)))
        obtain ⟨y0, y1, y2⟩ := HC2.out
        have hs2 : w.heap.size + 2 ≤ w2.heap.size := by have := hb2.size; omega
        clear hb2 HLV
        go_wp2
        go_quiet (fail)
        go_wp2
        go_ret
        exact ⟨by simp [hlv], Below.drewN HB2.out _⟩
      | true =>
        cases hfl : filled D 1 (n + 1) t with
        | false =>
          go_enter Try.func42, Try.ntmps42
          go_wp2_with fail
          rw [← HW1.out]
          refine HLV.out.mono ?_
          rintro e w2 ⟨rfl, hb2⟩
          rw [hlv]
          have HC2 := hidp (HC1.out.below hb2 hlt1)
          have m0 := (hb2.cell (p := ⟨w.heap.size, 0, none⟩) hlt0).trans HM1.out.1
          have m1 := (hb2.cell (p := ⟨w.heap.size, 1, none⟩) hlt0).trans HM1.out.2
          have HB2 := hidp (HB1.out.trans (hb2.mono (by omega)))
          obtain ⟨y0, y1, y2⟩ := HC2.out
          have hs2 : w.heap.size + 2 ≤ w2.heap.size := by have := hb2.size; omega
          clear hb2 HLV
          go_wp2
          refine region_class (C := fun w' => Cells3 w' (w.heap.size + 1) (.slice ia p icap) (.slice a q cap) c ∧ w'.cell? ⟨w.heap.size, 1, none⟩ = some (.int .i64 D) ∧ w'.cell? ⟨w.heap.size, 0, none⟩ = some (.slice none 0 0) ∧ Below w.heap.size w w' ∧ w.heap.size + 2 ≤ w'.heap.size) (by kernel_rfl) (by kernel_rfl) ⟨HC2.out, m1, m0, HB2.out.drew, hs2⟩ ?_
          repeat (first
            | go_big_quiet_skip
            | (go_big_quiet_want
               first
               | (go_big_quiet_op; go_big_quiet_on)
               | (apply Exists.intro
                  refine ⟨fun wq hq => ?_, ?_⟩
                  (obtain ⟨⟨f0, f1, f2⟩, f3, f4, f5, f6⟩ := hq
                   unfold Oper.quietAt
                   first
                   | (go_simp; done)
                   | (go_simp; with_reducible rfl)
                   | (go_simp
                      go_at_call 53
                      refine (width_is _ hD).mono ?_
                      rintro e w' ⟨rfl, rfl⟩
                      exact ⟨rfl, ⟨f0, f1, f2⟩, f3, f4, f5, f6⟩)
                   | (go_simp
                      go_at_call 54
                      have hF := filled_is hD hD2 (n + 1) t 1 (by omega) (HN.out.below f5) hb
                      rw [hfl] at hF
                      refine hF.mono ?_
                      rintro e w3 ⟨rfl, hb3⟩
                      have h7 := hb3.size
                      exact ⟨rfl, Cells3.below ⟨f0, f1, f2⟩ hb3 (by omega), (hb3.cell (p := ⟨w.heap.size, 1, none⟩) (by show w.heap.size < wq.heap.size; omega)).trans f3, (hb3.cell (p := ⟨w.heap.size, 0, none⟩) (by show w.heap.size < wq.heap.size; omega)).trans f4, f5.trans (hb3.mono (by omega)), by omega⟩))
                  try simp only [Act.put, List.setIfInBounds_toArray, List.set_cons_zero, List.set_cons_succ]
                  go_big_quiet_on)))
          refine wpQuiet_nil ?_
          intro w3 hq
          obtain ⟨_, _, _, h5, _⟩ := hq
          go_wp2
          go_ret
          exact ⟨by simp [hlv, hfl], h5⟩
        | true =>
          go_enter Try.func42, Try.ntmps42
          go_wp2_with fail
          rw [← HW1.out]
          refine HLV.out.mono ?_
          rintro e w2 ⟨rfl, hb2⟩
          rw [hlv]
          have HC2 := hidp (HC1.out.below hb2 hlt1)
          have m0 := (hb2.cell (p := ⟨w.heap.size, 0, none⟩) hlt0).trans HM1.out.1
          have m1 := (hb2.cell (p := ⟨w.heap.size, 1, none⟩) hlt0).trans HM1.out.2
          have HB2 := hidp (HB1.out.trans (hb2.mono (by omega)))
          obtain ⟨y0, y1, y2⟩ := HC2.out
          have hs2 : w.heap.size + 2 ≤ w2.heap.size := by have := hb2.size; omega
          clear hb2 HLV
          go_wp2
          go_region_held3 (fun w' => w'.cell? ⟨w.heap.size + 1, 0, none⟩ = some (.slice ia p icap) ∧ w'.cell? ⟨w.heap.size + 1, 1, none⟩ = some (.slice a q cap) ∧ w'.cell? ⟨w.heap.size + 1, 2, none⟩ = some (.int .i64 c) ∧ w'.cell? ⟨w.heap.size, 0, none⟩ = some (.slice none 0 0) ∧ w'.cell? ⟨w.heap.size, 1, none⟩ = some (.int .i64 D)) (go_keep)
            ((first
              | (go_at_call 53
                 refine (width_is _ hD).mono ?_
                 rintro e w' ⟨rfl, rfl⟩)
              | (go_at_call 54
                 have hF := filled_is hD hD2 (n + 1) t 1 (by omega) (HN.out.below HB2.out.drew) hb
                 rw [hfl] at hF
                 refine hF.mono ?_
                 rintro e w3 ⟨rfl, hb3⟩
                 clear hF
                 obtain ⟨k0, k1, k2⟩ := Cells3.below (w := w2.drew) HC2.out hb3 (by show w.heap.size + 1 < w2.heap.size; omega)
                 have k3 := (hb3.cell (p := ⟨w.heap.size, 0, none⟩) (by show w.heap.size < w2.heap.size; omega)).trans m0
                 have k4 := (hb3.cell (p := ⟨w.heap.size, 1, none⟩) (by show w.heap.size < w2.heap.size; omega)).trans m1
                 have HB3 := hidp (HB2.out.drew.trans (hb3.mono (by show w.heap.size ≤ w2.heap.size; omega)))
                 have hs3 : w.heap.size + 2 ≤ w3.heap.size := by have h := hb3.size; have h2 : w2.drew.heap.size = w2.heap.size := rfl; omega
                 clear hb3)
              | (go_at_call 14
                 refine (items_is (n + 1) t (HN.out.below HB3.out) hb).mono ?_
                 rintro e w4 ⟨u, rfl, ho⟩
                 have HI4 := hidp ho.its
                 obtain ⟨_, _, _, hb4⟩ := ho
                 have j0 := (hb4.cell (p := ⟨w.heap.size + 1, 0, none⟩) (by show w.heap.size + 1 < w3.heap.size; omega)).trans k0
                 have j1 := (hb4.cell (p := ⟨w.heap.size + 1, 1, none⟩) (by show w.heap.size + 1 < w3.heap.size; omega)).trans k1
                 have j2 := (hb4.cell (p := ⟨w.heap.size + 1, 2, none⟩) (by show w.heap.size + 1 < w3.heap.size; omega)).trans k2
                 have j3 := (hb4.cell (p := ⟨w.heap.size, 0, none⟩) (by show w.heap.size < w3.heap.size; omega)).trans k3
                 have j4 := (hb4.cell (p := ⟨w.heap.size, 1, none⟩) (by show w.heap.size < w3.heap.size; omega)).trans k4
                 have HB4 := hidp (HB3.out.trans (hb4.mono (by omega)))
                 have hs4 : w.heap.size + 2 ≤ w4.heap.size := by have h := hb4.size; omega
                 clear hb4)
              | (go_at_call 55
                 refine (rising_is HI4.out (by have := dAll_bulk (n + 1) t; omega)).mono ?_
                 rintro e w5 ⟨rfl, hb5⟩
                 have i0 := (hb5.cell (p := ⟨w.heap.size + 1, 0, none⟩) (by show w.heap.size + 1 < w4.heap.size; omega)).trans j0
                 have i1 := (hb5.cell (p := ⟨w.heap.size + 1, 1, none⟩) (by show w.heap.size + 1 < w4.heap.size; omega)).trans j1
                 have i2 := (hb5.cell (p := ⟨w.heap.size + 1, 2, none⟩) (by show w.heap.size + 1 < w4.heap.size; omega)).trans j2
                 have i3 := (hb5.cell (p := ⟨w.heap.size, 0, none⟩) (by show w.heap.size < w4.heap.size; omega)).trans j3
                 have i4 := (hb5.cell (p := ⟨w.heap.size, 1, none⟩) (by show w.heap.size < w4.heap.size; omega)).trans j4
                 have HB5 := hidp (HB4.out.trans (hb5.mono (by omega)))
                 clear hb5)))
          go_wp2
          go_ret
          exact ⟨by simp [hlv, hfl], HB5.out⟩
end Go.Proofs.Ytehnobbiiokcgaa.Bt.ND
