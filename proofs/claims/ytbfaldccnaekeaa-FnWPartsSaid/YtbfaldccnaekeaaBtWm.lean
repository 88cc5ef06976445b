/- Maps from strings: the law of merging. -/
import Derived.Test.YtbfaldccnaekeaaBtWv
namespace Go.Proofs.Ytbfaldccnaekeaa.Bt.W
set_option linter.unusedVariables false
set_option linter.unusedSimpArgs false
open Go Go.RowKit Go.Proofs.Ytbfaldccnaekeaa.Bt
open Go.Proofs.Ytbfaldccnaekeaa.Bt.SI (wscan_is)

variable {w : World}

/-- Lists that lie ready, and what was there before. -/
def Two (w0 wr : World) (v u : Value) (l k : List Wd) : Prop := Wds wr v l ∧ Wds wr u k ∧ Below w0.heap.size w0 wr
theorem Two.next {w0 wr w2 : World} {v u : Value} {l k : List Wd} (h : Two w0 wr v u l k) (hb : Below wr.heap.size wr w2) : Two w0 w2 v u l k :=
  ⟨h.1.below hb, h.2.1.below hb, h.2.2.trans (hb.mono h.2.2.size)⟩
theorem below_drewN (wr : World) (n : Nat) : Below wr.heap.size wr (wr.drewN n) := ((Fr.refl (fun _ => False) wr).drewN n).below (Nat.le_refl _) (fun _ h => h.elim)
theorem Wds.form {v : Value} {l : List Wd} (h : Wds w v l) : ∃ a cap, v = .slice a l.length cap := by
  obtain ⟨a, cap, e, _⟩ := h
  exact ⟨a, cap, e⟩
theorem CRW.wds {B : Nat} {w wr : World} {u : Value} {l : List Wd} (h : CRW B w wr u l) : Wds wr u l := by
  obtain ⟨g, r, _, _⟩ := h
  exact Wds.of_row r
theorem CRW.below {B : Nat} {w wr : World} {u : Value} {l : List Wd} (h : CRW B w wr u l) : Below B w wr := by
  obtain ⟨_, _, _, h⟩ := h
  exact h

set_option maxHeartbeats 2000000 in
set_option maxRecDepth 100000 in
/-- 'FnWMerges' -/
theorem law_wm {d : Int} (hd1 : -9223372036854775808 ≤ d) (hd2 : d ≤ 9223372036854775807) {v u : Value} {l k : List Wd} (hv : Wds w v l) (hu : Wds w u k) (hl : l.length ≤ 9223372036854775807) (hx9 : ∀ x ∈ l, x.1.size ≤ 9223372036854775807) (hl' : k.length ≤ 9223372036854775807) (hx9' : ∀ x ∈ k, x.1.size ≤ 9223372036854775807) :
    Calls Try.prog 4 #[.int .i64 d, v, u] w (fun e w' => e = .returned (.bool true) ∧ Below w.heap.size w w') := by
  obtain ⟨a1, c1, rfl⟩ := hv.form
  obtain ⟨a2, c2, rfl⟩ := hu.form
  have HF := hidp (fits8_is hv hl hx9)
  cases hf : fits8 l with
  | false =>
    rw [hf] at HF
    clear hv hu
    go_enter Try.func4, Try.ntmps4
    go_wp2_with fail
    refine HF.out.mono ?_
    rintro e w1 ⟨rfl, hb1⟩
    have HB1 := hidp hb1
    clear hb1 HF
    go_wp2
    go_ret
    exact ⟨rfl, HB1.out⟩
  | true =>
    rw [hf] at HF
    have hl2 : l.length ≤ 2147483647 := by
      unfold fits8 at hf
      rw [Bool.and_eq_true] at hf
      exact of_decide_eq_true hf.1
    have HG : Hid (∀ w1, Below w.heap.size w w1 → Calls Try.prog 14 #[.slice a2 k.length c2] w1 (fun e w' => e = .returned (.bool (fits8 k)) ∧ Below w1.heap.size w1 w')) := hidp fun w1 hb => fits8_is (hu.below hb) hl' hx9'
    have H0 : Hid (Two w w (.slice a1 l.length c1) (.slice a2 k.length c2) l k) := hidp ⟨hv, hu, Below.refl _ _⟩
    clear hv hu hf
    cases hg : fits8 k with
    | false =>
      rw [hg] at HG
      go_enter Try.func4, Try.ntmps4
      go_wp2_with fail
      refine HF.out.mono ?_
      rintro e w1 ⟨rfl, hb1⟩
      have HB1 := hidp hb1
      clear hb1 HF
      go_wp2_with fail
      refine (HG.out w1 HB1.out).mono ?_
      rintro e w2 ⟨rfl, hb2⟩
      have HB2 := hidp (HB1.out.trans (hb2.mono HB1.out.size))
      clear hb2 HG
      go_wp2
      go_ret
      exact ⟨rfl, HB2.out⟩
    | true =>
      rw [hg] at HG
      have hk2 : k.length ≤ 2147483647 := by
        unfold fits8 at hg
        rw [Bool.and_eq_true] at hg
        exact of_decide_eq_true hg.1
      have HT : Hid (∀ w1, Calls Try.prog 15 #[.int .i64 d] w1 (fun e w' => e = .returned (.bool (fitB d)) ∧ w1 = w')) := hidp fun w1 => fit_is d hd1 hd2
      have HA : Hid (∀ w1, Calls Try.prog 16 #[] w1 (fun e w' => e = .returned (.bool true) ∧ Below w1.heap.size w1 w')) := hidp fun w1 => alivew_is
      clear hg
      cases ht : fitB d with
      | false =>
        rw [ht] at HT
        go_enter Try.func4, Try.ntmps4
        go_wp2_with fail
        refine HF.out.mono ?_
        rintro e w1 ⟨rfl, hb1⟩
        have HB1 := hidp hb1
        clear hb1 HF
        go_wp2_with fail
        refine (HG.out w1 HB1.out).mono ?_
        rintro e w2 ⟨rfl, hb2⟩
        have HB2 := hidp (HB1.out.trans (hb2.mono HB1.out.size))
        clear hb2 HG
        go_wp2_with fail
        refine (HT.out w2).mono ?_
        rintro e w3 ⟨rfl, rfl⟩
        go_wp2_with fail
        refine (HA.out _).mono ?_
        rintro e w3 ⟨rfl, hb3⟩
        have HB3 := hidp (HB2.out.trans (hb3.mono HB2.out.size))
        clear hb3
        go_wp2
        go_ret
        exact ⟨rfl, HB3.out⟩
      | true =>
        rw [ht] at HT
        obtain ⟨D, rfl, hD, hD2⟩ : ∃ D : Nat, d = (D : Int) ∧ 2 ≤ D ∧ D ≤ 400 := by
          unfold fitB at ht
          rw [Bool.and_eq_true, decide_eq_true_eq, decide_eq_true_eq] at ht
          exact ⟨d.toNat, by omega, by omega, by omega⟩
        clear ht
        have hil : (insW l).length ≤ 2147483647 := Nat.le_trans (insW_length l) hl2
        have hik : (insW k).length ≤ 2147483647 := Nat.le_trans (insW_length k) hk2
        go_enter Try.func4, Try.ntmps4
        go_wp2_with fail
        refine HF.out.mono ?_
        rintro e w1 ⟨rfl, hb1⟩
        have HB1 := hidp hb1
        clear hb1 HF
        go_wp2_with fail
        refine (HG.out w1 HB1.out).mono ?_
        rintro e w2 ⟨rfl, hb2⟩
        have H2 := hidp ((H0.out.next HB1.out).next hb2)
        clear hb2 HG H0 HB1
        go_wp2_with fail
        refine (HT.out w2).mono ?_
        rintro e w3 ⟨rfl, rfl⟩
        clear HT
        have HS1 := hidp (wscan_is hD hD2 H2.out.1 (by omega))
        go_wp2_with fail
        refine HS1.out.mono ?_
        rintro e w3 ⟨v3, rfl, hs3, hb3⟩
        obtain ⟨a3, c3, rfl⟩ := hs3.form
        have H3 := hidp (And.intro (H2.out.next hb3) hs3)
        clear hs3 hb3 H2 HS1
        have HS2 := hidp (wscan_is hD hD2 H3.out.1.2.1 (by omega))
        go_wp2_with fail
        refine HS2.out.mono ?_
        rintro e w4 ⟨u4, rfl, hs4, hb4⟩
        obtain ⟨a4, c4, rfl⟩ := hs4.form
        have H4 : Hid (Two w w4 (.slice a1 l.length c1) (.slice a2 k.length c2) l k ∧ Two w4 w4 (.slice a3 (insW l).length c3) (.slice a4 (insW k).length c4) (insW l) (insW k)) := hidp ⟨H3.out.1.next hb4, H3.out.2.below hb4, hs4, Below.refl _ _⟩
        clear hs4 hb4 H3 HS2
        have hba : ∀ (x : Obj), Below w4.heap.size w4 (w4.alloc x) := fun x => (Below.refl _ _).alloc (Nat.le_refl _) _
        have hA5 := hba (.cells #[.slice a1 l.length c1, .slice a2 k.length c2] 22)
        have HC1 := hidp (concatW_is (H4.out.1.1.below hA5) (H4.out.1.2.1.below hA5) hl2 hk2 (Bx.new w4 [.slice a1 l.length c1, .slice a2 k.length c2] 22))
        have H5 : Hid (Two w (w4.alloc (.cells #[.slice a1 l.length c1, .slice a2 k.length c2] 22)) (.slice a1 l.length c1) (.slice a2 k.length c2) l k ∧ Two w4 (w4.alloc (.cells #[.slice a1 l.length c1, .slice a2 k.length c2] 22)) (.slice a3 (insW l).length c3) (.slice a4 (insW k).length c4) (insW l) (insW k)) := hidp ⟨H4.out.1.next hA5, H4.out.2.next hA5⟩
        clear hba hA5 H4
        go_wp2_with fail
        refine HC1.out.mono ?_
        rintro e w6 ⟨v6, rfl, hc6⟩
        have H6 := hidp (And.intro (H5.out.1.next hc6.below) (And.intro (H5.out.2.next hc6.below) hc6.wds))
        clear hc6 H5 HC1
        have HS3 := hidp (wscan_is hD hD2 H6.out.2.2 (by rw [List.length_append]; omega))
        go_wp2_with fail
        refine HS3.out.mono ?_
        rintro e w7 ⟨v7, rfl, hs7, hb7⟩
        have H7 := hidp (And.intro (H6.out.1.next hb7) (And.intro (H6.out.2.1.next hb7) hs7))
        clear hs7 hb7 H6 HS3
        have hA8 : Below w7.heap.size w7 (w7.alloc (.cells #[.slice a3 (insW l).length c3, .slice a4 (insW k).length c4] 22)) := (Below.refl _ _).alloc (Nat.le_refl _) _
        have HC2 := hidp (concatW_is (H7.out.2.1.1.below hA8) (H7.out.2.1.2.1.below hA8) hil hik (Bx.new w7 [.slice a3 (insW l).length c3, .slice a4 (insW k).length c4] 22))
        have H8 := hidp (And.intro (H7.out.1.next hA8) (H7.out.2.2.below hA8))
        clear hA8 H7
        go_wp2_with fail
        refine HC2.out.mono ?_
        rintro e w9 ⟨v9, rfl, hc9⟩
        have H9 := hidp (And.intro (H8.out.1.next hc9.below) (And.intro (H8.out.2.below hc9.below) hc9.wds))
        clear hc9 H8 HC2
        have HS4 := hidp (wscan_is hD hD2 H9.out.2.2 (by rw [List.length_append]; omega))
        go_wp2_with fail
        refine HS4.out.mono ?_
        rintro e w10 ⟨v10, rfl, hs10, hb10⟩
        rw [insW_two] at hs10
        have HQ := hidp (equalw_is (H9.out.2.1.below hb10) hs10 (by have := insW_length (l ++ k); rw [List.length_append] at this; omega))
        have H10 := hidp (H9.out.1.next hb10)
        clear hs10 hb10 H9 HS4
        go_wp2_with fail
        refine HQ.out.mono ?_
        rintro e _ ⟨rfl, n, rfl⟩
        have H11 := hidp (H10.out.next (below_drewN w10 n)).2.2
        clear H10 HQ
        generalize w10.drewN n = w11 at H11 ⊢
        go_wp2_with fail
        refine (HA.out _).mono ?_
        rintro e w12 ⟨rfl, hb12⟩
        have HB12 := hidp (H11.out.trans (hb12.mono H11.out.size))
        clear hb12
        go_wp2
        go_ret
        exact ⟨rfl, HB12.out⟩
end Go.Proofs.Ytbfaldccnaekeaa.Bt.W
