/- Two new blocks, made in either order. -/
import Derived.Test.YtbjhnefienjncaaBtSto
import Derived.Test.YtbjhnefienjncaaBtLast
import Derived.Laws.MakeOwn
namespace Go.Proofs.Ytbjhnefienjncaa.Bt
set_option linter.unusedVariables false
set_option linter.unusedSimpArgs false
open Go Go.RowKit

theorem Ch.ok_empty (w : World) (g o sz : Nat) : (⟨g, o, 0 * sz, []⟩ : Ch).Ok w :=
  ⟨Nat.zero_le _, fun j hj => absurd (show j < 0 * sz from hj) (by rw [Nat.zero_mul]; exact Nat.not_lt_zero _), fun j v hv => by simp at hv⟩
theorem Ch.Ok.blt {w : World} {c : Ch} (h : c.Ok w) (hv : c.vals ≠ [] := by simp) : c.b < w.heap.size := by
  have hl := h.len
  have : 0 < c.vals.length := List.length_pos_iff.2 hv
  exact M_lt' (h.some 0 (by omega))
/-- Two blocks are new, one of them begins with vs. -/
structure Two (w w' : World) (g0 g1 : Nat) (vs : List Value) : Prop where
  fr : Fr (fun _ => False) w w'
  l0 : w.heap.size ≤ g0
  l1 : w.heap.size ≤ g1
  lt : g0 < w'.heap.size
  bx : Bx w' g1 vs
theorem Two.one (w : World) (c : Array Value) (t : TypeId) (vs : List Value) (t' : TypeId) : Two w ((w.alloc (.cells c t)).alloc (.cells vs.toArray t')) w.heap.size (w.heap.size + 1) vs where
  fr := ((Fr.refl _ w).alloc _).alloc _
  l0 := Nat.le_refl _
  l1 := by omega
  lt := by simp; omega
  bx := by
    have h := Bx.new (w.alloc (.cells c t)) vs t'
    rw [World.size_alloc] at h
    exact h
theorem Two.other (w : World) (c : Array Value) (t : TypeId) (vs : List Value) (t' : TypeId) : Two w ((w.alloc (.cells vs.toArray t')).alloc (.cells c t)) (w.heap.size + 1) w.heap.size vs where
  fr := ((Fr.refl _ w).alloc _).alloc _
  l0 := by omega
  l1 := Nat.le_refl _
  lt := by simp
  bx := (Bx.new w vs t').alloc _

/-- make of an empty slice with room, as a step of a region that draws its order. -/
theorem step_make {P : Program} {ops : Array Oper} {o : Oper} {a : Act} {w : World} {Q : Exit → Act → World → Prop} {K : Act → World → Prop} {F : Prop} (hg : o.guard = none) (l c : Operand) (t : TypeId) (hop : o.op = Op.makeSlice t l c)
    (e : TypeId) (i : TypeInfo) (z : Value) (size bytes : Nat) (h1 : P.underlying t = some (.slice e)) (h2 : P.info? e = some i) (h3 : i.zero = some z) (h4 : i.size = size) (h5 : i.bytes = bytes)
    (n : Nat) (hl : a.eval l = .int .i64 0) (hc : a.eval c = .int .i64 (n : Nat)) (hb : bytes * n ≤ 281474976710656) (h63 : n ≤ maxLen)
    (hK : ∀ w', (⟨w.heap.size, 0, n * size, []⟩ : Ch).Ok w' → w.heap.size < w'.heap.size → bty w' w.heap.size = some e → Fr (fun _ => False) w w' → K (a.put o.dst (.slice (some ⟨w.heap.size, 0, none⟩) 0 n)) w') :
    if Region.wanted o (yielded ops a.tmps) = true then Oper.wp P o a w K Q else F := by
  have hw : Region.wanted o (yielded ops a.tmps) = true := by simp [Region.wanted, hg]
  rw [if_pos hw]
  subst h5
  have h63' : (n : Int) ≤ 9223372036854775807 := by
    have h := h63
    simp [maxLen] at h
    omega
  have hb' : (i.bytes : Int) * (n : Int) ≤ 281474976710656 := by
    have h : ((i.bytes * n : Nat) : Int) ≤ 281474976710656 := by omega
    rwa [Int.natCast_mul] at h
  have hr := run_make (P := P) w t e i z h1 h2 h3 .i64 .i64 0 n (Int.le_refl _) (by omega) hb' h63'
  simp only [Int.toNat_zero, Int.toNat_natCast] at hr
  unfold Oper.wp
  simp [execOp, hop, hl, hc, hr, Result.andThen]
  refine hK _ ⟨Nat.zero_le _, fun j hj => ?_, fun j v hv => by simp at hv⟩ (by simp) (bty_alloc_new w _ e) ((Fr.refl _ w).alloc _)
  show (M _ w.heap.size (0 + j)).isSome = true
  rw [Nat.zero_add, M_alloc_new]
  have hj' : j < n * size := hj
  rw [Array.getElem?_eq_getElem (by rw [size_madeCells, h4]; exact hj')]; rfl

/-- A children's array and a node do not meet. -/
theorem RepS.arr_ne_node {I : Type} {E : Enc I} {S : Nat → Prop} {w : World} {s : Sto I} (R : RepS E S w s) {n : Nat} {r : NodeR I} (hn : s.nd n = some r) {k : KidR} (hk : r.kids = some k) {b o : Nat} (hb : k.base = some (b, o)) {m : Nat} {q : NodeR I} (hm : s.nd m = some q) {i j : Nat} (hi : i < k.cap) (hj : j < 4) : ¬ (b = m ∧ o + i = j) := fun ⟨e1, e2⟩ =>
  R.rep.off (.of n .arr) (.of m .node) ⟨b, o, k.cap, k.kids.map pv⟩ ⟨m, 0, 4, nodeCells q⟩ (by simp) (by rw [chunk_of E hn]; simp [chunkN, hk, hb]) (by rw [chunk_of E hm]; rfl) b (o + i) ⟨rfl, by show o ≤ o + i; omega, by show o + i < o + k.cap; omega⟩ ⟨e1, by show 0 ≤ o + i; omega, by show o + i < 0 + 4; omega⟩
end Go.Proofs.Ytbjhnefienjncaa.Bt
