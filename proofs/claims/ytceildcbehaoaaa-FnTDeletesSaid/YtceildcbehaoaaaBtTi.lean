/- The law of TDelete, walked. -/
import Derived.Test.YtceildcbehaoaaaBtTh
import Derived.Test.YtceildcbehaoaaaBtTd
namespace Go.Proofs.Ytceildcbehaoaaa.Bt.W
set_option linter.unusedVariables false
set_option linter.unusedSimpArgs false
open Go Go.RowKit Go.Proofs.Ytceildcbehaoaaa.Bt
open Go.Proofs.Ytceildcbehaoaaa.Bt.T (its Made fits fits_is equal_is isOne delete_is deleteFunc_is dels dels_set)
open Go.Proofs.Ytceildcbehaoaaa.Bt.SU (ins)

variable {w : World}

theorem fits_len {l : List ByteArray} (hf : fits l = true) : l.length ≤ 2147483647 := by
  unfold fits at hf
  rw [Bool.and_eq_true] at hf
  exact of_decide_eq_true hf.1

set_option maxHeartbeats 1000000 in
set_option maxRecDepth 100000 in
/-- 'FnExactTDelete' -/
theorem law_delete {v u : Value} {l keys : List ByteArray} (hv : Strs w v l) (hu : Strs w u keys) (hl : l.length ≤ 9223372036854775807) (hk : keys.length ≤ 9223372036854775807) (hx9 : ∀ x ∈ l, x.size ≤ 9223372036854775807) (hk9 : ∀ x ∈ keys, x.size ≤ 9223372036854775807) :
    Calls Try.prog 9 #[v, u] w (fun e w' => e = .returned (.bool true) ∧ Below w.heap.size w w') := by
  obtain ⟨ua, ucap, rfl, hcu⟩ := hu
  have hu : Strs w (.slice ua keys.length ucap) keys := ⟨ua, ucap, rfl, hcu⟩
  clear hcu
  have hB1 : Below w.heap.size w (w.alloc (.cells #[.slice ua keys.length ucap] 23)) := (Below.refl w.heap.size w).alloc (Nat.le_refl _) _
  have hbx := (Bx.new w [.slice ua keys.length ucap] 23).cell 0 rfl
  have hsz : (w.alloc (.cells #[.slice ua keys.length ucap] 23)).heap.size = w.heap.size + 1 := by simp
  have hv1 := hv.below hB1
  have hu1 := hu.below hB1
  have HF := hidp (fits_is hv1 hl hx9)
  have HG := hidp (fits_is hu1 hk hk9)
  cases hf : fits l with
  | false =>
    rw [hf] at HF
    have HB1 := hidp hB1
    clear hv hu hv1 hu1 hB1 HG
    go_enter Try.func9, Try.ntmps9
    go_wp2_with fail
    refine HF.out.mono ?_
    rintro e w1 ⟨rfl, rfl⟩
    clear HF
    go_wp2
    go_ret
    exact ⟨rfl, HB1.out⟩
  | true =>
    cases hg : fits keys with
    | false =>
      rw [hf] at HF
      rw [hg] at HG
      have HB1 := hidp hB1
      clear hv hu hv1 hu1 hB1
      go_enter Try.func9, Try.ntmps9
      go_wp2_with fail
      refine HF.out.mono ?_
      rintro e w1 ⟨rfl, rfl⟩
      clear HF
      go_wp2_with fail
      refine HG.out.mono ?_
      rintro e w1 ⟨rfl, rfl⟩
      clear HG
      go_wp2
      go_ret
      exact ⟨rfl, HB1.out⟩
    | true =>
      rw [hf] at HF
      rw [hg] at HG
      have hl2 := fits_len hf
      have hk2 := fits_len hg
      have HB1 := hidp hB1
      have HV1 := hidp hv1
      have HU1 := hidp hu1
      clear hv hu hv1 hu1 hB1 hf hg
      go_enter Try.func9, Try.ntmps9
      go_wp2_with fail
      refine HF.out.mono ?_
      rintro e w1 ⟨rfl, rfl⟩
      clear HF
      go_wp2_with fail
      refine HG.out.mono ?_
      rintro e w1 ⟨rfl, rfl⟩
      clear HG
      go_wp2_with fail
      generalize (w.alloc (.cells #[.slice ua keys.length ucap] 23)) = w0 at HB1 HV1 HU1 hbx hsz ⊢
      have HT := hidp (tkeys_is HV1.out (show l.length ≤ 4294967296 by omega))
      refine HT.out.mono ?_
      rintro e w1 ⟨u2, g2, rfl, hr2, hg2, hb2⟩
      have hslen : (T.set l).length ≤ 9223372036854775807 := by
        have := T.ins_le l
        simp only [T.set, List.length_map] at this ⊢; omega
      have HD := hidp (deleteFunc_is (w0 := w0) HU1.out hk (bx := w.heap.size) (by omega) hbx hb2 hr2 hg2 hslen)
      have HB2 := hidp hb2
      clear hr2 hg2 hb2 HT
      go_wp2_with fail
      refine HD.out.mono ?_
      rintro e w2 ⟨u3, rfl, hs3, hb3⟩
      have cb : w2.cell? ⟨w.heap.size, 0, none⟩ = some (.slice ua keys.length ucap) := (hb3.cell (p := ⟨w.heap.size, 0, none⟩) (show w.heap.size < w0.heap.size by omega)).trans hbx
      have HI := hidp (delete_is (HV1.out.below hb3) (HU1.out.below hb3) (show l.length ≤ 4294967296 by omega) (show keys.length ≤ 4294967296 by omega))
      have HS3 := hidp hs3
      have HB3 := hidp hb3
      clear hs3 hb3 HD HB2 hbx
      go_wp2_with fail
      refine HI.out.mono ?_
      rintro e w3 ⟨v4, B, rfl, hB, ho, hb4⟩
      rw [dels_set] at ho
      have hs2 : w0.heap.size ≤ w2.heap.size := HB3.out.size
      have HB4 := hidp (HB3.out.trans (hb4.mono hs2))
      have hfl : ((T.set l).filter fun k => !(isOne keys k)).length ≤ 9223372036854775807 := Nat.le_trans (List.length_filter_le ..) hslen
      have HQ := hidp (equal_is (Sls.own ho) (Sls.below HS3.out hb4) hfl)
      have hs4 : w2.heap.size ≤ w3.heap.size := hb4.size
      clear ho hb4 hB HI hfl hslen
      go_wp2_with fail
      refine HQ.out.mono ?_
      rintro e w4 ⟨rfl, n, rfl⟩
      have HA := hidp (alive_is (w := w3.drewN n))
      clear HQ
      go_wp2_with fail
      refine HA.out.mono ?_
      rintro e w5 ⟨rfl, hb5⟩
      have HB5 := hidp (HB4.out.trans ((((Fr.refl (fun _ => False) w3).drewN n).below (Nat.le_trans hs2 hs4) (fun _ h => h.elim)).trans (hb5.mono (by have : (w3.drewN n).heap.size = w3.heap.size := (by simp); omega))))
      clear hb5 HA
      go_wp2
      go_ret
      exact ⟨rfl, HB1.out.trans (HB5.out.mono (by omega))⟩
end Go.Proofs.Ytceildcbehaoaaa.Bt.W
