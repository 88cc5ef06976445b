/- FnExactTInsert: the row. -/
import Derived.Test.YtceildcbehaoaaaBtTd
import Derived.Test.YtceildcbehaoaaaRows
import Derived.WalkKit
import Derived.ProofKit
import Derived.OpenShut
namespace Go.Proofs.Ytceildcbehaoaaa.Bt.FnExactTInsert
set_option linter.unusedVariables false
set_option linter.unusedSimpArgs false
open Go Go.ChangeShapes Go.WideShapes Go.ChangeAt Go.RowKit Go.Proofs.Ytceildcbehaoaaa.Bt
set_option linter.unusedVariables false

theorem own : ownKnob Try.prog.godebug = none := by kernel_rfl
theorem laidOut : laidOutB Try.prog = true := by kernel_rfl
theorem cellsS : Try.prog.cellsOf 9 = 1 := by kernel_rfl

/-- A list of strings that came in. -/
theorem strs_in {H : Type} {enc : TypeId × Value → H} {w : World} {spare : Nat → Bool} {held : Bool} {fuel : Nat} {v : Value} {x : DataW H × List MemPlace}
    (hv : ∃ a n c, v = .slice a n c) (h : DataW.trod enc Try.prog w 0 spare held fuel 23 v.cells.toList = some x) :
    ∃ l, Strs w v l ∧ l.length ≤ 9223372036854775807 ∧ ∀ x ∈ l, x.size ≤ 9223372036854775807 := by
  rcases open_strings Try.underlying23 Try.underlying9 cellsS h with ⟨hcs, hx⟩ | ⟨a, len', cap', ss, hcs, _, hl, hm, hz, _, hcell, hws⟩
  · obtain ⟨a, n, c, rfl⟩ := hv
    simp [Value.cells] at hcs
    obtain ⟨rfl, rfl, rfl⟩ := hcs
    exact ⟨[], ⟨none, 0, rfl, fun j x hx => by simp at hx⟩, by decide, fun x hx => by simp at hx⟩
  · obtain ⟨a', n, c, rfl⟩ := hv
    simp [Value.cells] at hcs
    obtain ⟨rfl, rfl, rfl⟩ := hcs
    have hn : n ≤ ss.length := by rw [hz]; split <;> omega
    refine ⟨ss.take n, ⟨some a, c, by rw [List.length_take, Nat.min_eq_left hn], fun j x hx => ?_⟩, ?_, fun x hx => ?_⟩
    · have hj : j < n := by
        have := (List.getElem?_eq_some_iff.1 hx).1
        rw [List.length_take] at this; omega
      rw [List.getElem?_take_of_lt hj] at hx
      have hc := hcell j (by omega)
      obtain ⟨b, off, spot⟩ := a
      have hspot : spot = none := by simpa [Addr.add] using World.cell?_spot (hcell 0 (by omega))
      subst hspot
      refine ⟨b, off, rfl, ?_⟩
      rw [List.getD_eq_getElem?_getD, hx, Addr.add_lit] at hc
      exact hc
    · rw [List.length_take]; unfold maxLen at hm; omega
    · have := hws x (List.mem_of_mem_take hx)
      unfold maxLen at this; omega

set_option maxRecDepth 100000 in
theorem lifted (os : Os) (started : os.Started) (H : Type) (enc : TypeId × Value → H) :
    ReturnsInHanded {} Try.checked os 4 .any (Rows.fnExactTInsertSpec.pre6 enc Try.prog Try.f4 Rows.fnExactTInsertRow.domain false) (Rows.fnExactTInsertSpec.post enc Try.prog Try.f4 false true false false) := by
  refine returnsInHanded_of_change (C := Try.checked) own started (by kernel_rfl) Try.func4
    (ChangeSpec.witness6 (enc := enc) (C := Try.checked) false ⟨#[], #[.slice none 0 0], []⟩ 8 (by kernel_rfl) (by kernel_rfl) (by kernel_rfl) (by kernel_rfl)) ?_
  intro W base args ds gs before hval0 hW _ _
  have hval : ∀ (j : Nat) t v, Try.f4.params[j]? = some t → args[j]? = some v → Value.okWide Try.prog W .any base t v := hval0
  have hW' := hW
  obtain ⟨p, q, hA0, hV, rfl, _, _⟩ := hW
  have hA : DataW.TrodAll enc Try.prog W 0 (fun _ => true) true Try.f4.params.toList args.toList ds p := hA0
  rw [Try.params4] at hA hval
  obtain ⟨v0, d0, rfl, rfl, h0⟩ := trodAll_one hA
  obtain ⟨rfl, rfl⟩ := trodVars_none hV
  have hsl := okWide_slice Try.underlying23 (hval 0 23 v0 rfl rfl)
  have h0k := h0
  obtain ⟨fuel, hf⟩ := h0
  clear hA0 hval0
  simp only [List.append_nil] at hW'
  have hlt : ∀ x ∈ p, x.block < W.heap.size := fun x hx => by simpa using hW'.lt x hx
  obtain ⟨l, hv, hl, hx⟩ := strs_in hsl hf
  refine (Go.Proofs.Ytceildcbehaoaaa.Bt.W.law_insert hv hl hx).mono fun e W' ⟨he, hnx⟩ => ?_
  subst he
  refine ⟨_, rfl, _, _, _, [] ++ [], p, [], hW', ?_, ?_, rfl, hnx.frame _, fun h => by cases h⟩
  · exact trodAll_mk1 (shut_bool Try.underlying4 true)
  · exact trodAll_mk1 (Below.trod laidOut (by kernel_rfl) (of_decide_eq_true (by kernel_rfl)) h0k hnx hlt)

theorem proved : Rows.FnExactTInsertSaid :=
  OpenClaim.holds_of_wide 4 Try.f4 rfl rfl rfl rfl rfl rfl rfl ⟨rfl, rfl, rfl, rfl, rfl⟩ rfl rfl rfl rfl rfl (by kernel_rfl) Try.func4 (by kernel_rfl)
    (of_decide_eq_true (by kernel_rfl)) (by unfold Func.isWrapper; first | (rw [if_pos (by decide +kernel)]; kernel_rfl) | (rw [if_neg (by decide +kernel)]; exact ⟨rfl, rfl⟩))
    (fun os started H enc _ => lifted os started H enc)
#print axioms proved
end Go.Proofs.Ytceildcbehaoaaa.Bt.FnExactTInsert
