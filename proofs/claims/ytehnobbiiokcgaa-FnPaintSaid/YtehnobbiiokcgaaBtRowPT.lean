/- FnPaint: the row. -/
import Derived.Test.YtehnobbiiokcgaaBtBj
import Derived.Test.YtehnobbiiokcgaaRows
import Derived.WalkKit
import Derived.ProofKit
import Derived.OpenShut
import Derived.Deep.Slices
namespace Go.Proofs.Ytehnobbiiokcgaa.Bt.FnPaint
set_option linter.unusedVariables false
set_option linter.unusedSimpArgs false
open Go Go.ChangeShapes Go.WideShapes Go.ChangeAt Go.RowKit Go.Proofs.Ytehnobbiiokcgaa.Bt
open Go.Proofs.Ytehnobbiiokcgaa.Bt.P (St Sts)
set_option linter.unusedVariables false

theorem own : ownKnob Try.prog.godebug = none := by kernel_rfl
theorem laidOut : laidOutB Try.prog = true := by kernel_rfl
theorem cellsV : Try.prog.cellsOf 74 = 3 := by kernel_rfl
theorem cellsU : Try.prog.cellsOf 5 = 1 := by kernel_rfl

theorem u8_wf {z : Int} (h : (Lit.int .u8 z).wf = true) : 0 ≤ z ∧ z < 256 := by
  have h' : 0 ≤ z ∧ z ≤ 255 := by simpa [Lit.wf, IntKind.min, IntKind.max, IntKind.signed, IntKind.bits] using h
  omega
set_option maxRecDepth 100000 in
/-- A list of strokes that came in. -/
theorem sts_in {H : Type} {enc : TypeId × Value → H} {w : World} {spare : Nat → Bool} {held : Bool} {fuel : Nat} {a : Option Addr} {n c : Nat} {x : DataW H × List MemPlace}
    (h : DataW.trod enc Try.prog w 0 spare held fuel 71 (Value.slice a n c).cells.toList = some x) :
    ∃ l, Sts w (.slice a n c) l ∧ l.length = n ∧ n ≤ c ∧ c ≤ 9223372036854775807 := by
  rcases Deep.open_slice Try.underlying71 h with ⟨hcs, hx⟩ | ⟨a', len', cap', m, k, Dd, Pl, hcs, _, hl, hm, hz, _, hcell⟩
  · simp [Value.cells] at hcs
    obtain ⟨rfl, rfl, rfl⟩ := hcs
    exact ⟨[], ⟨none, 0, rfl, (fun j x hx => by simp at hx), (fun x hx => by simp at hx)⟩, rfl, Nat.le_refl _, by decide⟩
  · simp [Value.cells] at hcs
    obtain ⟨rfl, rfl, rfl⟩ := hcs
    have hnm : n ≤ m := by rw [hz]; split <;> omega
    have each : ∀ i, i < n → ∃ q : St, (w.cell? (a'.add (i * 3)) = some (.int .u8 q.1) ∧ w.cell? (a'.add (i * 3 + 1)) = some (.int .u8 q.2.1) ∧ w.cell? (a'.add (i * 3 + 2)) = some (.int .u8 q.2.2)) ∧ q.1 < 256 ∧ q.2.1 < 256 ∧ q.2.2 < 256 := fun i hi => by
      obtain ⟨cs', h1, h2⟩ := hcell i (by omega)
      rw [cellsV] at h1
      obtain ⟨_, hlen, hc⟩ := World.cells?_some h1
      obtain ⟨xs, k', _, _, _, hxl, hf⟩ := DataW.trod_struct Try.underlying74 h2
      match xs, hxl, cs', hlen with
      | [y0, y1, y2], _, [v0, v1, v2], _ =>
        have g0 : DataW.trod enc Try.prog w 0 spare held k' 5 (([v0, v1, v2].drop 0).take (Try.prog.cellsOf 5)) = some y0 := hf 0 _ rfl
        have g1 : DataW.trod enc Try.prog w 0 spare held k' 5 (([v0, v1, v2].drop 1).take (Try.prog.cellsOf 5)) = some y1 := hf 1 _ rfl
        have g2 : DataW.trod enc Try.prog w 0 spare held k' 5 (([v0, v1, v2].drop 2).take (Try.prog.cellsOf 5)) = some y2 := hf 2 _ rfl
        rw [cellsU] at g0 g1 g2
        simp only [List.drop_zero, List.drop_succ_cons, List.take_succ_cons, List.take_zero] at g0 g1 g2
        have e0 := hc 0 (by omega)
        have e1 := hc 1 (by omega)
        have e2 := hc 2 (by omega)
        rw [Deep.add_add] at e0 e1 e2
        obtain ⟨s0, d0, _, b0⟩ := DataW.trod_int Try.underlying5 g0
        obtain ⟨s1, d1, _, b1⟩ := DataW.trod_int Try.underlying5 g1
        obtain ⟨s2, d2, _, b2⟩ := DataW.trod_int Try.underlying5 g2
        simp at d0 d1 d2
        obtain ⟨p0, q0⟩ := u8_wf b0
        obtain ⟨p1, q1⟩ := u8_wf b1
        obtain ⟨p2, q2⟩ := u8_wf b2
        have t0 : Value.int .u8 ((s0.toNat : Nat) : Int) = .int .u8 s0 := by rw [Int.toNat_of_nonneg p0]
        have t1 : Value.int .u8 ((s1.toNat : Nat) : Int) = .int .u8 s1 := by rw [Int.toNat_of_nonneg p1]
        have t2 : Value.int .u8 ((s2.toNat : Nat) : Int) = .int .u8 s2 := by rw [Int.toNat_of_nonneg p2]
        refine ⟨(s0.toNat, s1.toNat, s2.toNat), ⟨?_, ?_, ?_⟩, ?_, ?_, ?_⟩
        · show _ = some (Value.int .u8 ((s0.toNat : Nat) : Int))
          rw [t0, ← d0]; simpa [cellsV] using e0
        · show _ = some (Value.int .u8 ((s1.toNat : Nat) : Int))
          rw [t1, ← d1]; simpa [cellsV] using e1
        · show _ = some (Value.int .u8 ((s2.toNat : Nat) : Int))
          rw [t2, ← d2]; simpa [cellsV] using e2
        · show s0.toNat < 256; omega
        · show s1.toNat < 256; omega
        · show s2.toNat < 256; omega
    have : Inhabited St := ⟨(0, 0, 0)⟩
    obtain ⟨q, hq⟩ := Deep.choose_lt each
    have hget : ∀ (j : Nat) (x : St), ((List.range n).map q)[j]? = some x → j < n ∧ x = q j := fun j x hx => by
      rw [List.getElem?_map] at hx
      by_cases hj : j < n
      · rw [List.getElem?_range hj] at hx
        exact ⟨hj, by simpa using hx.symm⟩
      · rw [List.getElem?_eq_none (by simpa using Nat.le_of_not_lt hj)] at hx
        simp at hx
    refine ⟨(List.range n).map q, ⟨some a', c, by simp, fun j x hx => ?_, fun x hx => ?_⟩, by simp, hl, by unfold maxLen at hm; omega⟩
    · obtain ⟨hj, rfl⟩ := hget j x hx
      obtain ⟨c0, c1, c2⟩ := (hq j hj).1
      obtain ⟨b, off, spot⟩ := a'
      have hspot : spot = none := by
        have hs := World.cell?_spot (hq 0 (by omega)).1.1
        simpa [Addr.add] using hs
      subst hspot
      rw [Addr.add_lit] at c0 c1 c2
      exact ⟨b, off, rfl, c0, by rw [Nat.add_assoc]; exact c1, by rw [Nat.add_assoc]; exact c2⟩
    · obtain ⟨i, hi, rfl⟩ := List.mem_map.1 hx
      exact (hq i (List.mem_range.1 hi)).2

set_option maxRecDepth 100000 in
theorem lifted (os : Os) (started : os.Started) (H : Type) (enc : TypeId × Value → H) :
    ReturnsInHanded {} Try.checked os 10 .any (Rows.fnPaintSpec.pre6 enc Try.prog Try.f10 Rows.fnPaintRow.domain false) (Rows.fnPaintSpec.post enc Try.prog Try.f10 false true false false) := by
  refine returnsInHanded_of_change (C := Try.checked) own started (by kernel_rfl) Try.func10
    (ChangeSpec.witness6 (enc := enc) (C := Try.checked) false ⟨#[], #[.int .i64 0, .slice none 0 0], []⟩ 8 (by kernel_rfl) (by kernel_rfl) (by kernel_rfl) (by kernel_rfl)) ?_
  intro W base args ds gs before hval0 hW _ _
  have hval : ∀ (j : Nat) t v, Try.f10.params[j]? = some t → args[j]? = some v → Value.okWide Try.prog W .any base t v := hval0
  have hW' := hW
  obtain ⟨p, q, hA0, hV, rfl, _, _⟩ := hW
  have hA : DataW.TrodAll enc Try.prog W 0 (fun _ => true) true Try.f10.params.toList args.toList ds p := hA0
  rw [Try.params10] at hA hval
  obtain ⟨v0, vs0, d0, ds0, p0, q0, hargs, rfl, rfl, h0, r0⟩ := trodAll_cons hA
  obtain ⟨v1, vs1, d1, ds1, p1, q1, hargs1, rfl, rfl, h1, r1⟩ := trodAll_cons r0
  obtain ⟨rfl, rfl, rfl⟩ := trodAll_nil r1
  obtain rfl : args = #[v0, v1] := by cases args; simp_all
  obtain ⟨rfl, rfl⟩ := trodVars_none hV
  obtain ⟨k, rfl, rfl, rfl, w0⟩ := open_int Try.underlying3 (hval 0 3 v0 rfl rfl) h0
  have hk : -9223372036854775808 ≤ k ∧ k ≤ 9223372036854775807 := by simpa [Lit.wf, IntKind.min, IntKind.max, IntKind.signed, IntKind.bits] using w0
  obtain ⟨a, n, c, rfl⟩ := okWide_slice Try.underlying71 (hval 1 71 v1 rfl rfl)
  have h1k := h1
  obtain ⟨fuel, hf⟩ := h1
  clear hA0 hval0
  simp only [List.append_nil, List.nil_append] at hW'
  have hlt : ∀ x ∈ p1, x.block < W.heap.size := fun x hx => by simpa using hW'.lt x hx
  obtain ⟨l, hv, hl, hnc, hc63⟩ := sts_in hf
  refine (Go.Proofs.Ytehnobbiiokcgaa.Bt.P.law_paint k hv (by omega)).mono fun e W' ⟨he, hnx⟩ => ?_
  subst he
  refine ⟨_, rfl, _, _, _, [] ++ [], p1, [], hW', ?_, ?_, rfl, hnx.frame _, fun h => by cases h⟩
  · exact trodAll_mk1 (shut_bool Try.underlying4 true)
  · have h := trodAll_cons_mk (shut_int Try.underlying3 w0) (trodAll_cons_mk (Below.trod laidOut (by kernel_rfl) (of_decide_eq_true (by kernel_rfl)) h1k hnx hlt) trodAll_mk0)
    simp only [List.append_nil, List.nil_append] at h
    exact h

theorem proved : Rows.FnPaintSaid :=
  OpenClaim.holds_of_wide 10 Try.f10 rfl rfl rfl rfl rfl rfl rfl ⟨rfl, rfl, rfl, rfl, rfl⟩ rfl rfl rfl rfl rfl (by kernel_rfl) Try.func10 (by kernel_rfl)
    (of_decide_eq_true (by kernel_rfl)) (by unfold Func.isWrapper; first | (rw [if_pos (by decide +kernel)]; kernel_rfl) | (rw [if_neg (by decide +kernel)]; exact ⟨rfl, rfl⟩))
    (fun os started H enc _ => lifted os started H enc)
#print axioms proved
end Go.Proofs.Ytehnobbiiokcgaa.Bt.FnPaint
