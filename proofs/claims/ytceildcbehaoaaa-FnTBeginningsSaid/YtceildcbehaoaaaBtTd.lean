/- The law of TInsert, walked. -/
import Derived.Test.YtceildcbehaoaaaBtTc
namespace Go.Proofs.Ytceildcbehaoaaa.Bt.W
set_option linter.unusedVariables false
set_option linter.unusedSimpArgs false
open Go Go.RowKit Go.Proofs.Ytceildcbehaoaaa.Bt
open Go.Proofs.Ytceildcbehaoaaa.Bt.T (its Made fits insert_is fits_is equal_is)

variable {w : World}

def bab : List ByteArray := [⟨#[98]⟩, ⟨#[97]⟩, ⟨#[98]⟩]
theorem bab_set : (T.set bab).length = 2 := by kernel_rfl
set_option maxRecDepth 100000 in
/-- 'aliveT' -/
theorem alive_is : Calls Try.prog 15 #[] w (fun e w' => e = .returned (.bool true) ∧ Below w.heap.size w w') := by
  have hs : Strs (w.alloc (.cells (bab.map Value.string).toArray 9)) (.slice (some ⟨w.heap.size, 0, none⟩) 3 3) bab :=
    ⟨_, 3, rfl, fun j x hx => ⟨_, 0, rfl, by rw [Nat.zero_add]; exact (Bx.new w (bab.map Value.string) 9).cell j (by rw [List.getElem?_map, hx]; rfl)⟩⟩
  have HI := hidp (insert_is hs (by decide))
  clear hs
  go_enter Try.func15, Try.ntmps15
  go_wp2_with fail
  refine HI.out.mono ?_
  rintro e w1 ⟨v, B, rfl, hB, ho, hb⟩
  rw [bab_set] at ho
  have hs1 : w.heap.size ≤ w1.heap.size := by have := hb.size; rw [World.size_alloc] at this; omega
  have HB := hidp (((Below.refl w.heap.size w).alloc (Nat.le_refl _) (.cells (bab.map Value.string).toArray 9)).trans (hb.mono (by rw [World.size_alloc]; omega)))
  have ho' : Sls Value.string w1 v (T.set bab) := Sls.own (by rw [bab_set]; exact ho)
  obtain ⟨a, cap, rfl, _⟩ := ho'
  rw [bab_set]
  clear ho hb HI
  go_wp2
  go_ret
  exact ⟨rfl, HB.out⟩

set_option maxRecDepth 100000 in
/-- 'FnExactTInsert' -/
theorem law_insert {v : Value} {l : List ByteArray} (hv : Strs w v l) (hl : l.length ≤ 9223372036854775807) (hx9 : ∀ x ∈ l, x.size ≤ 9223372036854775807) :
    Calls Try.prog 4 #[v] w (fun e w' => e = .returned (.bool true) ∧ Below w.heap.size w w') := by
  have HF := hidp (fits_is hv hl hx9)
  cases hf : fits l with
  | false =>
    rw [hf] at HF
    clear hv
    go_enter Try.func4, Try.ntmps4
    go_wp2_with fail
    refine HF.out.mono ?_
    rintro e w1 ⟨rfl, rfl⟩
    clear HF
    go_wp2
    go_ret
    exact ⟨rfl, Below.refl _ _⟩
  | true =>
    rw [hf] at HF
    have hl2 : l.length ≤ 4294967296 := by
      unfold fits at hf
      rw [Bool.and_eq_true] at hf
      have := of_decide_eq_true hf.1; omega
    have HI := hidp (insert_is hv hl2)
    have HV := hidp hv
    clear hv hf
    go_enter Try.func4, Try.ntmps4
    go_wp2_with fail
    refine HF.out.mono ?_
    rintro e w1 ⟨rfl, rfl⟩
    clear HF
    go_wp2_with fail
    refine HI.out.mono ?_
    rintro e w1 ⟨v1, B, rfl, hB, ho, hb1⟩
    have HB1 := hidp hb1
    have hs1 : w.heap.size ≤ w1.heap.size := hb1.size
    have HO := hidp (Sls.own ho)
    have HT := hidp (tkeys_is (Sls.below HV.out hb1) hl2)
    clear hb1 ho hB HI
    go_wp2_with fail
    refine HT.out.mono ?_
    rintro e w2 ⟨u2, g2, rfl, hr2, hg2, hb2⟩
    have hs2 : w1.heap.size ≤ w2.heap.size := hb2.size
    have HB2 := hidp (HB1.out.trans (hb2.mono hs1))
    have hlen : (T.set l).length ≤ 9223372036854775807 := by
      have := Go.Proofs.Ytceildcbehaoaaa.Bt.SU.ins_length (its l)
      simp only [T.set, its, List.length_map] at this ⊢; omega
    have HQ := hidp (equal_is (Sls.below HO.out hb2) (Row.sls hr2) hlen)
    clear hr2 hg2 hb2 HT HO
    go_wp2_with fail
    refine HQ.out.mono ?_
    rintro e w3 ⟨rfl, n, rfl⟩
    have HA := hidp (alive_is (w := w2.drewN n))
    clear HQ
    go_wp2_with fail
    refine HA.out.mono ?_
    rintro e w4 ⟨rfl, hb4⟩
    have HB4 := hidp (HB2.out.trans ((((Fr.refl (fun _ => False) w2).drewN n).below (Nat.le_trans hs1 hs2) (fun _ h => h.elim)).trans (hb4.mono (by have : (w2.drewN n).heap.size = w2.heap.size := (by simp); omega))))
    clear hb4 HA
    go_wp2
    go_ret
    exact ⟨rfl, HB4.out⟩
end Go.Proofs.Ytceildcbehaoaaa.Bt.W
