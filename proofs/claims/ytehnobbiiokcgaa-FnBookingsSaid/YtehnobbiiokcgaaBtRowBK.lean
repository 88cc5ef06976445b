/- FnBookings: the row. -/
import Derived.Test.YtehnobbiiokcgaaBtBf
import Derived.Test.YtehnobbiiokcgaaRows
import Derived.WalkKit
import Derived.ProofKit
import Derived.OpenShut
import Derived.Deep.SlicePairs
namespace Go.Proofs.Ytehnobbiiokcgaa.Bt.FnBookings
set_option linter.unusedVariables false
set_option linter.unusedSimpArgs false
open Go Go.ChangeShapes Go.WideShapes Go.ChangeAt Go.RowKit Go.Proofs.Ytehnobbiiokcgaa.Bt
open Go.Proofs.Ytehnobbiiokcgaa.Bt.P (Iv Ivs)
set_option linter.unusedVariables false

theorem own : ownKnob Try.prog.godebug = none := by kernel_rfl
theorem laidOut : laidOutB Try.prog = true := by kernel_rfl
theorem cellsV : Try.prog.cellsOf 62 = 2 := by kernel_rfl
theorem cellsU : Try.prog.cellsOf 5 = 1 := by kernel_rfl

theorem u8_wf {z : Int} (h : (Lit.int .u8 z).wf = true) : 0 ≤ z ∧ z < 256 := by
  have h' : 0 ≤ z ∧ z ≤ 255 := by simpa [Lit.wf, IntKind.min, IntKind.max, IntKind.signed, IntKind.bits] using h
  omega
/-- A list of intervals that came in. -/
theorem ivs_in {H : Type} {enc : TypeId × Value → H} {w : World} {spare : Nat → Bool} {held : Bool} {fuel : Nat} {a : Option Addr} {n c : Nat} {x : DataW H × List MemPlace}
    (h : DataW.trod enc Try.prog w 0 spare held fuel 60 (Value.slice a n c).cells.toList = some x) :
    ∃ l, Ivs w (.slice a n c) l ∧ l.length = n ∧ n ≤ c ∧ c ≤ 9223372036854775807 := by
  rcases Deep.open_slice_pairs Try.underlying60 Try.underlying62 cellsV rfl rfl cellsU cellsU h with ⟨hcs, hx⟩ | ⟨a', len', cap', m, k, V0, V1, D0, D1, P0, P1, hcs, _, hl, hm, hz, _, hcell⟩
  · simp [Value.cells] at hcs
    obtain ⟨rfl, rfl, rfl⟩ := hcs
    exact ⟨[], ⟨none, 0, rfl, (fun j x hx => by simp at hx), (fun x hx => by simp at hx)⟩, rfl, Nat.le_refl _, by decide⟩
  · simp [Value.cells] at hcs
    obtain ⟨rfl, rfl, rfl⟩ := hcs
    have hnm : n ≤ m := by rw [hz]; split <;> omega
    have each : ∀ i, i < n → ∃ q : Iv, V0 i = .int .u8 q.1 ∧ V1 i = .int .u8 q.2 ∧ q.1 < 256 ∧ q.2 < 256 := fun i hi => by
      obtain ⟨_, _, t0, t1⟩ := hcell i (by omega)
      obtain ⟨s, e0, _, hs⟩ := DataW.trod_int Try.underlying5 t0
      obtain ⟨z, e1, _, hz1⟩ := DataW.trod_int Try.underlying5 t1
      simp at e0 e1
      obtain ⟨s0, s1⟩ := u8_wf hs
      obtain ⟨z0, z1⟩ := u8_wf hz1
      refine ⟨(s.toNat, z.toNat), ?_, ?_, ?_, ?_⟩
      · rw [e0]; show Value.int .u8 s = .int .u8 ((s.toNat : Nat) : Int); rw [Int.toNat_of_nonneg s0]
      · rw [e1]; show Value.int .u8 z = .int .u8 ((z.toNat : Nat) : Int); rw [Int.toNat_of_nonneg z0]
      · show s.toNat < 256; omega
      · show z.toNat < 256; omega
    have : Inhabited Iv := ⟨(0, 0)⟩
    obtain ⟨q, hq⟩ := Deep.choose_lt each
    have hget : ∀ (j : Nat) (x : Iv), ((List.range n).map q)[j]? = some x → j < n ∧ x = q j := fun j x hx => by
      rw [List.getElem?_map] at hx
      by_cases hj : j < n
      · rw [List.getElem?_range hj] at hx
        exact ⟨hj, by simpa using hx.symm⟩
      · rw [List.getElem?_eq_none (by simpa using Nat.le_of_not_lt hj)] at hx
        simp at hx
    refine ⟨(List.range n).map q, ⟨some a', c, by simp, fun j x hx => ?_, fun x hx => ?_⟩, by simp, hl, by unfold maxLen at hm; omega⟩
    · obtain ⟨hj, rfl⟩ := hget j x hx
      obtain ⟨c0, c1, _, _⟩ := hcell j (by omega)
      rw [(hq j hj).1] at c0
      rw [(hq j hj).2.1] at c1
      obtain ⟨b, off, spot⟩ := a'
      have hspot : spot = none := by
        have := World.cell?_spot (hcell 0 (by omega)).1
        simpa [Addr.add] using this
      subst hspot
      rw [Addr.add_lit] at c0 c1
      exact ⟨b, off, rfl, c0, by rw [Nat.add_assoc]; exact c1⟩
    · obtain ⟨i, hi, rfl⟩ := List.mem_map.1 hx
      exact (hq i (List.mem_range.1 hi)).2.2

set_option maxRecDepth 100000 in
theorem lifted (os : Os) (started : os.Started) (H : Type) (enc : TypeId × Value → H) :
    ReturnsInHanded {} Try.checked os 9 .any (Rows.fnBookingsSpec.pre6 enc Try.prog Try.f9 Rows.fnBookingsRow.domain false) (Rows.fnBookingsSpec.post enc Try.prog Try.f9 false true false false) := by
  refine returnsInHanded_of_change (C := Try.checked) own started (by kernel_rfl) Try.func9
    (ChangeSpec.witness6 (enc := enc) (C := Try.checked) false ⟨#[], #[.int .i64 0, .slice none 0 0], []⟩ 8 (by kernel_rfl) (by kernel_rfl) (by kernel_rfl) (by kernel_rfl)) ?_
  intro W base args ds gs before hval0 hW _ _
  have hval : ∀ (j : Nat) t v, Try.f9.params[j]? = some t → args[j]? = some v → Value.okWide Try.prog W .any base t v := hval0
  have hW' := hW
  obtain ⟨p, q, hA0, hV, rfl, _, _⟩ := hW
  have hA : DataW.TrodAll enc Try.prog W 0 (fun _ => true) true Try.f9.params.toList args.toList ds p := hA0
  rw [Try.params9] at hA hval
  obtain ⟨v0, vs0, d0, ds0, p0, q0, hargs, rfl, rfl, h0, r0⟩ := trodAll_cons hA
  obtain ⟨v1, vs1, d1, ds1, p1, q1, hargs1, rfl, rfl, h1, r1⟩ := trodAll_cons r0
  obtain ⟨rfl, rfl, rfl⟩ := trodAll_nil r1
  obtain rfl : args = #[v0, v1] := by cases args; simp_all
  obtain ⟨rfl, rfl⟩ := trodVars_none hV
  obtain ⟨k, rfl, rfl, rfl, w0⟩ := open_int Try.underlying3 (hval 0 3 v0 rfl rfl) h0
  have hk : -9223372036854775808 ≤ k ∧ k ≤ 9223372036854775807 := by simpa [Lit.wf, IntKind.min, IntKind.max, IntKind.signed, IntKind.bits] using w0
  obtain ⟨a, n, c, rfl⟩ := okWide_slice Try.underlying60 (hval 1 60 v1 rfl rfl)
  have h1k := h1
  obtain ⟨fuel, hf⟩ := h1
  clear hA0 hval0
  simp only [List.append_nil, List.nil_append] at hW'
  have hlt : ∀ x ∈ p1, x.block < W.heap.size := fun x hx => by simpa using hW'.lt x hx
  obtain ⟨l, hv, hl, hnc, hc63⟩ := ivs_in hf
  refine (Go.Proofs.Ytehnobbiiokcgaa.Bt.P.law_bookings k hv (by omega)).mono fun e W' ⟨he, hnx⟩ => ?_
  subst he
  refine ⟨_, rfl, _, _, _, [] ++ [], p1, [], hW', ?_, ?_, rfl, hnx.frame _, fun h => by cases h⟩
  · exact trodAll_mk1 (shut_bool Try.underlying4 true)
  · have h := trodAll_cons_mk (shut_int Try.underlying3 w0) (trodAll_cons_mk (Below.trod laidOut (by kernel_rfl) (of_decide_eq_true (by kernel_rfl)) h1k hnx hlt) trodAll_mk0)
    simp only [List.append_nil, List.nil_append] at h
    exact h

theorem proved : Rows.FnBookingsSaid :=
  OpenClaim.holds_of_wide 9 Try.f9 rfl rfl rfl rfl rfl rfl rfl ⟨rfl, rfl, rfl, rfl, rfl⟩ rfl rfl rfl rfl rfl (by kernel_rfl) Try.func9 (by kernel_rfl)
    (of_decide_eq_true (by kernel_rfl)) (by unfold Func.isWrapper; first | (rw [if_pos (by decide +kernel)]; kernel_rfl) | (rw [if_neg (by decide +kernel)]; exact ⟨rfl, rfl⟩))
    (fun os started H enc _ => lifted os started H enc)
#print axioms proved
end Go.Proofs.Ytehnobbiiokcgaa.Bt.FnBookings
