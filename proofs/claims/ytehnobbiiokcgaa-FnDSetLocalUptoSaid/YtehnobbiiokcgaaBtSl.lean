/- Slices that are read: strings, numbers. -/
import Derived.Test.YtehnobbiiokcgaaBtOwn
import Derived.OwnWalk
namespace Go.Proofs.Ytehnobbiiokcgaa.Bt
set_option linter.unusedVariables false
set_option linter.unusedSimpArgs false
open Go Go.RowKit

/-- v is a slice whose cells (sz to an element) read as f of l's elements. -/
def Sls {α : Type} (f : α → Value) (w : World) (v : Value) (l : List α) : Prop :=
  ∃ a cap, v = .slice a l.length cap ∧ ∀ j x, l[j]? = some x → ∃ b off, a = some ⟨b, off, none⟩ ∧ w.cell? ⟨b, off + j, none⟩ = some (f x)
theorem Sls.below {α : Type} {f : α → Value} {w w' : World} {v : Value} {l : List α} (h : Sls f w v l) (hb : Below w.heap.size w w') : Sls f w' v l := by
  obtain ⟨a, cap, e, hc⟩ := h
  refine ⟨a, cap, e, fun j x hx => ?_⟩
  obtain ⟨b, off, ha, hcell⟩ := hc j x hx
  exact ⟨b, off, ha, (hb.cell (p := ⟨b, off + j, none⟩) (World.block_lt_of_cell? w _ hcell)).trans hcell⟩
/-- The same through a number of blocks that lies above the slice's own. -/
def SlsB {α : Type} (f : α → Value) (B : Nat) (w : World) (v : Value) (l : List α) : Prop :=
  ∃ a cap, v = .slice a l.length cap ∧ ∀ j x, l[j]? = some x → ∃ b off, a = some ⟨b, off, none⟩ ∧ b < B ∧ w.cell? ⟨b, off + j, none⟩ = some (f x)
theorem Sls.at {α : Type} {f : α → Value} {w : World} {v : Value} {l : List α} (h : Sls f w v l) : SlsB f w.heap.size w v l := by
  obtain ⟨a, cap, e, hc⟩ := h
  refine ⟨a, cap, e, fun j x hx => ?_⟩
  obtain ⟨b, off, ha, hcell⟩ := hc j x hx
  exact ⟨b, off, ha, World.block_lt_of_cell? w _ hcell, hcell⟩
theorem SlsB.below {α : Type} {f : α → Value} {B : Nat} {w w' : World} {v : Value} {l : List α} (h : SlsB f B w v l) (hb : Below B w w') : SlsB f B w' v l := by
  obtain ⟨a, cap, e, hc⟩ := h
  refine ⟨a, cap, e, fun j x hx => ?_⟩
  obtain ⟨b, off, ha, hlt, hcell⟩ := hc j x hx
  exact ⟨b, off, ha, hlt, (hb.cell (p := ⟨b, off + j, none⟩) hlt).trans hcell⟩
theorem SlsB.sls {α : Type} {f : α → Value} {B : Nat} {w : World} {v : Value} {l : List α} (h : SlsB f B w v l) : Sls f w v l := by
  obtain ⟨a, cap, e, hc⟩ := h
  refine ⟨a, cap, e, fun j x hx => ?_⟩
  obtain ⟨b, off, ha, _, hcell⟩ := hc j x hx
  exact ⟨b, off, ha, hcell⟩
theorem Sls.own {α : Type} {f : α → Value} {w : World} {B : Nat} {e : TypeId} {v : Value} {l : List α} (h : w.ownsRow B e 1 v l.length (l.map f)) : Sls f w v l := by
  obtain ⟨hl, h⟩ := h
  rcases h with ⟨rfl, h0⟩ | ⟨g, cap, cur, rfl, hB, hg, hc, hm, hs, ht⟩
  · exact ⟨none, 0, by rw [h0], fun j x hx => by have := (List.getElem?_eq_some_iff.1 hx).1; omega⟩
  · refine ⟨some ⟨g, 0, none⟩, cap, rfl, fun j x hx => ⟨g, 0, rfl, ?_⟩⟩
    have hj := (List.getElem?_eq_some_iff.1 hx).1
    have h1 : (l.map f)[j]? = some (f x) := by rw [List.getElem?_map, hx]; rfl
    rw [← ht, List.getElem?_take_of_lt (by omega)] at h1
    have : w.cell? ⟨g, 0 + j, none⟩ = cur[j]? := by simp [World.cell?, hg]
    rw [this, ← Array.getElem?_toList]; exact h1
/-- What the walk needs of it. -/
theorem Sls.get {α : Type} {f : α → Value} {w : World} {v : Value} {l : List α} (h : Sls f w v l) : ∃ a cap, v = .slice a l.length cap ∧ (∀ j x, l[j]? = some x → ∃ b off, a = some ⟨b, off, none⟩ ∧ w.cell? ⟨b, off + j, none⟩ = some (f x)) := h
abbrev Strs := Sls Value.string
abbrev Ints := Sls (Value.int .i64)
end Go.Proofs.Ytehnobbiiokcgaa.Bt
