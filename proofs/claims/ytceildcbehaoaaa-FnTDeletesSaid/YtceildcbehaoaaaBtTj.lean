/- The law of TDelete's keys, walked. -/
import Derived.Test.YtceildcbehaoaaaBtTi
namespace Go.Proofs.Ytceildcbehaoaaa.Bt.T
set_option linter.unusedVariables false
set_option linter.unusedSimpArgs false
open Go Go.RowKit Go.Shelf Go.Proofs.Ytceildcbehaoaaa.Bt
open Go.Proofs.Ytceildcbehaoaaa.Bt.SU (It lt ins ord ins_srt)
open Go.Proofs.Ytceildcbehaoaaa.Bt.W (hidp)

variable {w : World}

theorem mem_put' {l : List It} {x y : It} : y ∈ put lt l x ↔ y = x ∨ y ∈ l := by
  cases hk : look lt l x with
  | none =>
    rw [put_none hk, List.mem_append, List.mem_cons]
    conv => rhs; rw [← List.take_append_drop (pos lt l x) l, List.mem_append]
    grind
  | some z =>
    obtain ⟨h1, h2, h3⟩ := look_some hk
    obtain rfl : x = z := eq_nlt h2 (pos_at h1)
    have e : put lt l x = l := by
      rw [put_found hk]
      apply List.ext_getElem?
      intro i
      rw [List.getElem?_set]
      split
      · rename_i h; subst h; first | rw [h1] | rw [if_pos h3, h1]
      · rfl
    rw [e]
    constructor
    · exact fun h => .inr h
    · rintro (rfl | h)
      · exact List.mem_of_getElem? h1
      · exact h
theorem mem_ins' {l : List It} {y : It} : y ∈ ins l ↔ y ∈ l := by
  have key : ∀ (l acc : List It), y ∈ l.foldl (fun acc x => put lt acc x) acc ↔ y ∈ l ∨ y ∈ acc := by
    intro l
    induction l with
    | nil => intro acc; simp
    | cons x l ih =>
      intro acc
      rw [List.foldl_cons, ih, mem_put', List.mem_cons]; grind
  have := key l []
  simpa [ins] using this
theorem mem_set' {l : List ByteArray} {k : ByteArray} : k ∈ set l ↔ k ∈ l := by
  unfold set
  rw [List.mem_map]
  constructor
  · rintro ⟨y, hy, rfl⟩
    have := mem_ins'.1 hy
    obtain ⟨z, hz, rfl⟩ := List.mem_map.1 this
    exact hz
  · exact fun h => ⟨(k, ()), mem_ins'.2 (List.mem_map.2 ⟨k, h, rfl⟩), rfl⟩
/-- What is left. -/
def leftT (l keys : List ByteArray) : List ByteArray := (set l).filter fun k => !(isOne keys k)
theorem left_one {l keys : List ByteArray} {k : ByteArray} (h : k ∈ l) : isOne (leftT l keys) k = !(isOne keys k) := by
  cases hk : isOne keys k with
  | true =>
    cases h2 : isOne (leftT l keys) k with
    | false => rfl
    | true =>
      have := (List.mem_filter.1 (isOne_mem.1 h2)).2
      rw [hk] at this; cases this
  | false =>
    have h2 : isOne (leftT l keys) k = true := isOne_mem.2 (List.mem_filter.2 ⟨mem_set'.2 h, by rw [hk]; rfl⟩)
    rw [h2]; rfl
theorem left_none {l keys : List ByteArray} : (leftT l keys).any (fun k => !(isOne l k)) = false := by
  rw [List.any_eq_false]
  intro k hk
  have := isOne_mem.2 (mem_set'.1 (List.mem_filter.1 hk).1)
  rw [this]; simp
theorem left_srt {l keys : List ByteArray} : (leftT l keys).Pairwise (fun a b => Op.bytesLess a.toList b.toList = true) := by
  have h := ins_srt (its l)
  have h2 : (set l).Pairwise (fun a b => Op.bytesLess a.toList b.toList = true) := by
    unfold set
    exact List.pairwise_map.2 h
  exact h2.sublist List.filter_sublist

/-- The function that is handed to slices.ContainsFunc: is the key none of those in the variable's block? -/
theorem closure2_is {u : Value} {keys : List ByteArray} {bx : Nat} (hu : Strs w u keys) (hk : keys.length ≤ 9223372036854775807) (hb : w.cell? ⟨bx, 0, none⟩ = some u) (k : ByteArray) :
    Calls Try.prog 36 #[.string k, .pointer (some ⟨bx, 0, none⟩)] w (fun e w' => e = .returned (.bool (!(isOne keys k))) ∧ ∃ q, w' = w.drewN q) := by
  have HC := hidp (contains_is hu hk k)
  obtain ⟨a, cap, rfl, _⟩ := hu
  generalize isOne keys k = r at HC ⊢
  go_enter Try.func36, Try.ntmps36
  go_wp2_with fail
  refine HC.out.mono ?_
  rintro e w' ⟨rfl, rfl⟩
  go_wp2
  go_ret
  exact ⟨rfl, 0, rfl⟩
theorem closure2_enters : ∀ args w, (callFunc 36 args).run Try.prog w = .ok (.enter 36 args) w := enters_of Try.func36 (by kernel_rfl) rfl

/-- 'slices.ContainsFunc' of a list of strings. -/
theorem containsFunc_is {w0 : World} {u v : Value} {keys l : List ByteArray} {bx : Nat} (hu : Strs w0 u keys) (hk : keys.length ≤ 9223372036854775807) (hbx : bx < w0.heap.size) (hb : w0.cell? ⟨bx, 0, none⟩ = some u) (hw : Below w0.heap.size w0 w) (hv : Strs w v l) (hl : l.length ≤ 9223372036854775807) :
    Calls Try.prog 25 #[v, .func (.func 36) #[] #[.pointer (some ⟨bx, 0, none⟩)]] w (fun e w' => e = .returned (.bool (l.any fun k => !(isOne keys k))) ∧ ∃ q, w' = w.drewN q) := by
  rcases Nat.eq_zero_or_pos l.length with h0 | h0
  · obtain rfl : l = [] := List.eq_nil_of_length_eq_zero h0
    obtain ⟨a, cap, rfl, _⟩ := hv
    exact (AnyE.slices_ContainsFunc_empty Try.laysCf a cap _ w).mono fun e w' ⟨h1, h2⟩ => ⟨h1, 0, h2⟩
  · obtain ⟨b, off, cap, rfl, hc⟩ := Strs.flat' hv h0
    have hp : PredAt Try.prog 36 #[.pointer (some ⟨bx, 0, none⟩)] Value.string (fun k => !(isOne keys k)) w := fun W x hW => by
      have hW' := hw.trans (hW.mono hw.size)
      exact closure2_is (hu.below hW') hk ((hW'.cell (p := ⟨bx, 0, none⟩) hbx).trans hb) x
    have h := AnyE.slices_ContainsFunc Try.laysCf Value.string (fun k => !(isOne keys k)) _ _ closure2_enters b off l.length cap l w hp (Nat.le_refl _) hl hc
    rw [List.take_length] at h
    exact h

/-- 'rises' of strings in order. -/
theorem rises_is {v : Value} {l : List ByteArray} (hv : Strs w v l) (hl : l.length ≤ 4294967296) (hs : l.Pairwise (fun a b => Op.bytesLess a.toList b.toList = true)) :
    Calls Try.prog 37 #[v] w (fun e w' => e = .returned (.bool true) ∧ ∃ q, w' = w.drewN q) := by
  have hI : Calls Try.prog 62 #[v] w (fun e w' => e = .returned (.bool true) ∧ ∃ q, w' = w.drewN q) := by
    rcases Nat.eq_zero_or_pos l.length with h0 | h0
    · obtain rfl : l = [] := List.eq_nil_of_length_eq_zero h0
      obtain ⟨a, cap, rfl, _⟩ := hv
      exact (AnyO.slices_IsSorted_string_none Try.laysIs a cap w).mono fun e w' ⟨h1, h2⟩ => ⟨h1, 0, h2⟩
    · obtain ⟨b, off, cap, rfl, hc⟩ := Strs.flat' hv h0
      have h := AnyO.slices_IsSorted_string Try.laysIs b off cap l.toArray w (fun i hi => by
        have hi' : i < l.length := by simpa using hi
        rw [hc i hi', getElem!_pos l i hi', getElem!_pos l.toArray i hi]; simp) (by simp; omega)
      have e1 : Lib.downOK (fun x y : ByteArray => decide (x.data.toList < y.data.toList)) l.toArray (l.toArray.size - 1) = true := by
        rw [Lib.downOK_iff]
        intro i hi
        have hi' : i + 1 < l.length := by simp at hi; omega
        rw [getElem!_pos l.toArray (i + 1) (by simpa using hi'), getElem!_pos l.toArray i (by simp; omega)]
        have hp := List.pairwise_iff_getElem.1 hs i (i + 1) (by omega) hi' (by omega)
        rw [SU.bless_lt, decide_eq_true_eq, ByteArray.toList_eq, ByteArray.toList_eq] at hp
        rw [decide_eq_false_iff_not]
        simp only [List.getElem_toArray]
        exact fun h => List.lt_irrefl _ (List.lt_trans h hp)
      rw [e1, List.size_toArray] at h
      exact h
  have HC := hidp hI
  obtain ⟨a, cap, rfl, _⟩ := hv
  clear hI hs
  go_enter Try.func37, Try.ntmps37
  go_wp2_with fail
  refine HC.out.mono ?_
  rintro e w' ⟨rfl, q, rfl⟩
  go_wp2
  go_ret
  exact ⟨rfl, q, rfl⟩
end Go.Proofs.Ytceildcbehaoaaa.Bt.T
namespace Go.Proofs.Ytceildcbehaoaaa.Bt.W
open Go Go.RowKit Go.Proofs.Ytceildcbehaoaaa.Bt
open Go.Proofs.Ytceildcbehaoaaa.Bt.T (its Made fits fits_is isOne delete_is dels dels_set leftT left_one left_none left_srt contains_is containsFunc_is rises_is)
open Go.Proofs.Ytceildcbehaoaaa.Bt.SU (ins)

variable {w : World}

set_option maxHeartbeats 1000000 in
set_option maxRecDepth 100000 in
/-- 'FnTDeletes' -/
theorem law_deletes {v u : Value} {l keys : List ByteArray} (hv : Strs w v l) (hu : Strs w u keys) (hl : l.length ≤ 9223372036854775807) (hk : keys.length ≤ 9223372036854775807) (hx9 : ∀ x ∈ l, x.size ≤ 9223372036854775807) (hk9 : ∀ x ∈ keys, x.size ≤ 9223372036854775807) :
    Calls Try.prog 8 #[v, u] w (fun e w' => e = .returned (.bool true) ∧ Below w.heap.size w w') := by
  obtain ⟨va, vcap, rfl, hcv⟩ := hv
  have hv : Strs w (.slice va l.length vcap) l := ⟨va, vcap, rfl, hcv⟩
  clear hcv
  have hB1 : Below w.heap.size w (w.alloc (.cells #[.slice va l.length vcap] 23)) := (Below.refl w.heap.size w).alloc (Nat.le_refl _) _
  have hbx := (Bx.new w [.slice va l.length vcap] 23).cell 0 rfl
  have hsz : (w.alloc (.cells #[.slice va l.length vcap] 23)).heap.size = w.heap.size + 1 := by simp
  have hv1 := hv.below hB1
  have hu1 := hu.below hB1
  have HF := hidp (fits_is hv1 hl hx9)
  have HG := hidp (fits_is hu1 hk hk9)
  cases hf : fits l with
  | false =>
    rw [hf] at HF
    have HB1 := hidp hB1
    clear hv hu hv1 hu1 hB1 HG
    go_enter Try.func8, Try.ntmps8
    go_wp2_with fail
    refine HF.out.mono ?_
    rintro e w1 ⟨rfl, rfl⟩
    clear HF
    go_wp2
    go_ret
    exact ⟨rfl, HB1.out⟩
  | true =>
    cases hg : fits keys with
    | false =>
      rw [hf] at HF
      rw [hg] at HG
      have HB1 := hidp hB1
      clear hv hu hv1 hu1 hB1
      go_enter Try.func8, Try.ntmps8
      go_wp2_with fail
      refine HF.out.mono ?_
      rintro e w1 ⟨rfl, rfl⟩
      clear HF
      go_wp2_with fail
      refine HG.out.mono ?_
      rintro e w1 ⟨rfl, rfl⟩
      clear HG
      go_wp2
      go_ret
      exact ⟨rfl, HB1.out⟩
    | true =>
      rw [hf] at HF
      rw [hg] at HG
      have hl2 := fits_len hf
      have hk2 := fits_len hg
      have HB1 := hidp hB1
      have HV1 := hidp hv1
      have HU1 := hidp hu1
      clear hv hu hv1 hu1 hB1 hf hg
      go_enter Try.func8, Try.ntmps8
      go_wp2_with fail
      refine HF.out.mono ?_
      rintro e w1 ⟨rfl, rfl⟩
      clear HF
      go_wp2_with fail
      refine HG.out.mono ?_
      rintro e w1 ⟨rfl, rfl⟩
      clear HG
      go_wp2_with fail
      generalize (w.alloc (.cells #[.slice va l.length vcap] 23)) = w0 at HB1 HV1 HU1 hbx hsz ⊢
      have HI := hidp (delete_is HV1.out HU1.out (show l.length ≤ 4294967296 by omega) (show keys.length ≤ 4294967296 by omega))
      refine HI.out.mono ?_
      rintro e w2 ⟨v4, B, rfl, hB, ho, hb4⟩
      rw [dels_set] at ho
      have hs4 : Strs w2 v4 (leftT l keys) := Sls.own ho
      have hll : (leftT l keys).length ≤ 4294967296 := by
        have h1 : (leftT l keys).length ≤ (T.set l).length := List.length_filter_le ..
        have h2 := T.ins_le l
        simp only [T.set, List.length_map] at h1; omega
      have HS4 := hidp hs4
      have HB4 := hidp hb4
      have cb : w2.cell? ⟨w.heap.size, 0, none⟩ = some (.slice va l.length vcap) := (hb4.cell (p := ⟨w.heap.size, 0, none⟩) (show w.heap.size < w0.heap.size by omega)).trans hbx
      have HV2 := hidp (HV1.out.below hb4)
      have HU2 := hidp (HU1.out.below hb4)
      have HVX : Hid (∀ j x, l[j]? = some x → ∃ b off, va = some ⟨b, off, none⟩ ∧ w2.cell? ⟨b, off + j, none⟩ = some (.string x)) := hidp (by
        obtain ⟨a', c', e, hc⟩ := HV2.out
        injection e with e1 _ _
        subst e1
        exact hc)
      clear ho hs4 hb4 hB HI
      go_wp2
      go_loopw [21] (fun i wr => ∃ j : Nat, j ≤ l.length ∧ i = .int .i64 j ∧ wr = w2) (fun i _ => l.length - (intOf i).toNat)
      case atStart => exact ⟨0, Nat.zero_le _, rfl, rfl⟩
      case round =>
        obtain ⟨j, hj, rfl, rfl⟩ := hrel
        by_cases hlt : j < l.length
        · obtain ⟨x, hx⟩ : ∃ x, l[j]? = some x := ⟨l[j], List.getElem?_eq_getElem hlt⟩
          obtain ⟨b, off, rfl, cx⟩ := HVX.out j x hx
          have H1 := hidp (contains_is HS4.out (by omega) x)
          have H2 := hidp (contains_is HU2.out hk x)
          rw [left_one (List.mem_of_getElem? hx)] at H1
          have jlt : (j : Int) < (l.length : Int) := by omega
          generalize isOne keys x = r at H1 H2
          clear hx HVX
          go_wp2_with fail
          refine H1.out.mono ?_
          rintro e w' ⟨rfl, rfl⟩
          clear H1
          go_wp2_with fail
          refine H2.out.mono ?_
          rintro e w' ⟨rfl, rfl⟩
          clear H2
          cases r with
          | true =>
            go_wp2
            go_roundw
            case rel => exact ⟨j + 1, by omega, by go_num, by first | exact rfl | exact trivial⟩
            case measure => simp [intOf]; omega
          | false =>
            go_wp2
            go_roundw
            case rel => exact ⟨j + 1, by omega, by go_num, by first | exact rfl | exact trivial⟩
            case measure => simp [intOf]; omega
        · obtain rfl : j = l.length := by omega
          have HC := hidp (containsFunc_is (w0 := w0) HV1.out hl (bx := w.heap.size) (by omega) hbx HB4.out HS4.out (by omega))
          rw [left_none] at HC
          clear HVX
          go_wp2_with fail
          refine HC.out.mono ?_
          rintro e w3 ⟨rfl, q, rfl⟩
          have HR := hidp (rises_is (HS4.out.below (((Fr.refl (fun _ => False) wr).drewN q).below (Nat.le_refl _) (fun _ h => h.elim))) hll left_srt)
          clear HC
          go_wp2_with fail
          refine HR.out.mono ?_
          rintro e w4 ⟨rfl, q2, rfl⟩
          have HA := hidp (alive_is (w := wr.drewN (q + q2)))
          clear HR
          go_wp2_with fail
          refine HA.out.mono ?_
          rintro e w5 ⟨rfl, hb5⟩
          have hs2 : w0.heap.size ≤ wr.heap.size := HB4.out.size
          have HB5 := hidp (HB4.out.trans ((((Fr.refl (fun _ => False) wr).drewN (q + q2)).below hs2 (fun _ h => h.elim)).trans (hb5.mono (by have : (wr.drewN (q + q2)).heap.size = wr.heap.size := (by simp); omega))))
          clear hb5 HA
          go_wp2
          go_ret
          exact ⟨rfl, HB1.out.trans (HB5.out.mono (by omega))⟩
end Go.Proofs.Ytceildcbehaoaaa.Bt.W
