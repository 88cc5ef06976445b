/- FnExactWKeyValues: the row. -/
import Derived.Test.YtbfaldccnaekeaaBtWb
import Derived.Test.YtbfaldccnaekeaaRows
import Derived.WalkKit
import Derived.ProofKit
import Derived.OpenShut
import Derived.Deep.SlicePairs
namespace Go.Proofs.Ytbfaldccnaekeaa.Bt.FnExactWKeyValues
set_option linter.unusedVariables false
set_option linter.unusedSimpArgs false
open Go Go.ChangeShapes Go.WideShapes Go.ChangeAt Go.RowKit Go.Proofs.Ytbfaldccnaekeaa.Bt
open Go.Proofs.Ytbfaldccnaekeaa.Bt.W (Wd Wds)
set_option linter.unusedVariables false

theorem own : ownKnob Try.prog.godebug = none := by kernel_rfl
theorem laidOut : laidOutB Try.prog = true := by kernel_rfl
theorem cellsW : Try.prog.cellsOf 38 = 2 := by kernel_rfl
theorem cellsS : Try.prog.cellsOf 9 = 1 := by kernel_rfl
theorem cellsI : Try.prog.cellsOf 3 = 1 := by kernel_rfl

/-- A list of words that came in. -/
theorem words_in {H : Type} {enc : TypeId × Value → H} {w : World} {spare : Nat → Bool} {held : Bool} {fuel : Nat} {a : Option Addr} {n c : Nat} {x : DataW H × List MemPlace}
    (h : DataW.trod enc Try.prog w 0 spare held fuel 22 (Value.slice a n c).cells.toList = some x) :
    ∃ l, Wds w (.slice a n c) l ∧ l.length = n ∧ n ≤ c ∧ c ≤ 9223372036854775807 ∧ ∀ x ∈ l, x.1.size ≤ 9223372036854775807 := by
  rcases Deep.open_slice_pairs Try.underlying22 Try.underlying38 cellsW rfl rfl cellsS cellsI h with ⟨hcs, hx⟩ | ⟨a', len', cap', m, k, V0, V1, D0, D1, P0, P1, hcs, _, hl, hm, hz, _, hcell⟩
  · simp [Value.cells] at hcs
    obtain ⟨rfl, rfl, rfl⟩ := hcs
    exact ⟨[], ⟨none, 0, rfl, fun j x hx => by simp at hx⟩, rfl, Nat.le_refl _, by decide, fun x hx => by simp at hx⟩
  · simp [Value.cells] at hcs
    obtain ⟨rfl, rfl, rfl⟩ := hcs
    have hnm : n ≤ m := by rw [hz]; split <;> omega
    have each : ∀ i, i < n → ∃ q : Wd, V0 i = .string q.1 ∧ V1 i = .int .i64 q.2 ∧ q.1.size ≤ maxLen := fun i hi => by
      obtain ⟨_, _, t0, t1⟩ := hcell i (by omega)
      obtain ⟨s, e0, _, hs⟩ := DataW.trod_string Try.underlying9 t0
      obtain ⟨z, e1, _, _⟩ := DataW.trod_int Try.underlying3 t1
      simp at e0 e1
      exact ⟨(s, z), e0, e1, hs⟩
    have : Inhabited Wd := ⟨(ByteArray.empty, 0)⟩
    obtain ⟨q, hq⟩ := Deep.choose_lt each
    have hget : ∀ (j : Nat) (x : Wd), ((List.range n).map q)[j]? = some x → j < n ∧ x = q j := fun j x hx => by
      rw [List.getElem?_map] at hx
      by_cases hj : j < n
      · rw [List.getElem?_range hj] at hx
        exact ⟨hj, by simpa using hx.symm⟩
      · rw [List.getElem?_eq_none (by simpa using Nat.le_of_not_lt hj)] at hx
        simp at hx
    refine ⟨(List.range n).map q, ⟨some a', c, by simp, fun j x hx => ?_⟩, by simp, hl, by unfold maxLen at hm; omega, fun x hx => ?_⟩
    · obtain ⟨hj, rfl⟩ := hget j x hx
      obtain ⟨c0, c1, _, _⟩ := hcell j (by omega)
      rw [(hq j hj).1] at c0
      rw [(hq j hj).2.1] at c1
      obtain ⟨b, off, spot⟩ := a'
      have hspot : spot = none := by
        have := World.cell?_spot (hcell 0 (by omega)).1
        simpa [Addr.add] using this
      subst hspot
      rw [Addr.add_lit] at c0 c1
      exact ⟨b, off, rfl, c0, by rw [Nat.add_assoc]; exact c1⟩
    · obtain ⟨i, hi, rfl⟩ := List.mem_map.1 hx
      have := (hq i (List.mem_range.1 hi)).2.2
      unfold maxLen at this; omega

set_option maxRecDepth 100000 in
theorem lifted (os : Os) (started : os.Started) (H : Type) (enc : TypeId × Value → H) :
    ReturnsInHanded {} Try.checked os 3 .any (Rows.fnExactWKeyValuesSpec.pre6 enc Try.prog Try.f3 Rows.fnExactWKeyValuesRow.domain false) (Rows.fnExactWKeyValuesSpec.post enc Try.prog Try.f3 false true false false) := by
  refine returnsInHanded_of_change (C := Try.checked) own started (by kernel_rfl) Try.func3
    (ChangeSpec.witness6 (enc := enc) (C := Try.checked) false ⟨#[], #[.int .i64 0, .slice none 0 0], []⟩ 8 (by kernel_rfl) (by kernel_rfl) (by kernel_rfl) (by kernel_rfl)) ?_
  intro W base args ds gs before hval0 hW _ _
  have hval : ∀ (j : Nat) t v, Try.f3.params[j]? = some t → args[j]? = some v → Value.okWide Try.prog W .any base t v := hval0
  have hW' := hW
  obtain ⟨p, q, hA0, hV, rfl, _, _⟩ := hW
  have hA : DataW.TrodAll enc Try.prog W 0 (fun _ => true) true Try.f3.params.toList args.toList ds p := hA0
  rw [Try.params3] at hA hval
  obtain ⟨v0, vs0, d0, ds0, p0, q0, hargs, rfl, rfl, h0, r0⟩ := trodAll_cons hA
  obtain ⟨v1, vs1, d1, ds1, p1, q1, hargs1, rfl, rfl, h1, r1⟩ := trodAll_cons r0
  obtain ⟨rfl, rfl, rfl⟩ := trodAll_nil r1
  obtain rfl : args = #[v0, v1] := by cases args; simp_all
  obtain ⟨rfl, rfl⟩ := trodVars_none hV
  obtain ⟨k, rfl, rfl, rfl, w0⟩ := open_int Try.underlying3 (hval 0 3 v0 rfl rfl) h0
  have hk : -9223372036854775808 ≤ k ∧ k ≤ 9223372036854775807 := by simpa [Lit.wf, IntKind.min, IntKind.max, IntKind.signed, IntKind.bits] using w0
  obtain ⟨a, n, c, rfl⟩ := okWide_slice Try.underlying22 (hval 1 22 v1 rfl rfl)
  have h1k := h1
  obtain ⟨fuel, hf⟩ := h1
  clear hA0 hval0
  simp only [List.append_nil, List.nil_append] at hW'
  have hlt : ∀ x ∈ p1, x.block < W.heap.size := fun x hx => by simpa using hW'.lt x hx
  obtain ⟨l, hv, hl, hnc, hc63, hx⟩ := words_in hf
  refine (Go.Proofs.Ytbfaldccnaekeaa.Bt.W.law_wkv hk.1 hk.2 hv (by omega) hx).mono fun e W' ⟨he, hnx⟩ => ?_
  subst he
  refine ⟨_, rfl, _, _, _, [] ++ [], p1, [], hW', ?_, ?_, rfl, hnx.frame _, fun h => by cases h⟩
  · exact trodAll_mk1 (shut_bool Try.underlying4 true)
  · have h := trodAll_cons_mk (shut_int Try.underlying3 w0) (trodAll_cons_mk (Below.trod laidOut (by kernel_rfl) (of_decide_eq_true (by kernel_rfl)) h1k hnx hlt) trodAll_mk0)
    simp only [List.append_nil, List.nil_append] at h
    exact h

theorem proved : Rows.FnExactWKeyValuesSaid :=
  OpenClaim.holds_of_wide 3 Try.f3 rfl rfl rfl rfl rfl rfl rfl ⟨rfl, rfl, rfl, rfl, rfl⟩ rfl rfl rfl rfl rfl (by kernel_rfl) Try.func3 (by kernel_rfl)
    (of_decide_eq_true (by kernel_rfl)) (by unfold Func.isWrapper; first | (rw [if_pos (by decide +kernel)]; kernel_rfl) | (rw [if_neg (by decide +kernel)]; exact ⟨rfl, rfl⟩))
    (fun os started H enc _ => lifted os started H enc)
#print axioms proved
end Go.Proofs.Ytbfaldccnaekeaa.Bt.FnExactWKeyValues
