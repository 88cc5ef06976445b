/- Maps of numbers (sets): what a map holds. -/
import Derived.Test.YtbjhnefienjncaaBtIUe
import Derived.Test.YtbjhnefienjncaaBtRel
namespace Go.Proofs.Ytbjhnefienjncaa.Bt.IU
set_option linter.unusedVariables false
set_option linter.unusedSimpArgs false
open Go Go.RowKit Go.Proofs.Ytbjhnefienjncaa.Bt

/-- The tree below n is t' now; the nodes outside it are as they were. -/
def NewT (w : World) (s s' : Sto It) (h n : Nat) (t' : BT It h) (ids : List Nat) : Prop :=
  ∃ ids', Tr s'.nd s.mp.iso h n t' ids' ∧ ids'.Nodup ∧ (∀ k ∈ ids', k ∈ ids ∨ w.heap.size ≤ k) ∧ (∀ k, k ∉ ids → k < w.heap.size → s'.nd k = s.nd k)
theorem put_length {l : List It} {x : It} : (put lt l x).length = l.length + (if fnd lt l x then 0 else 1) := by
  have hp := pos_le (lt := lt) l x
  cases h : look lt l x with
  | some y => rw [put_found h, List.length_set, fnd_some h]; rfl
  | none =>
    rw [put_none h, fnd_none h]
    simp only [List.length_append, List.length_take, List.length_cons, List.length_drop, Bool.false_eq_true, if_false]
    omega
/-- The number of items where a child's tree has become another one. -/
theorem all_set {h i : Nat} {t : BT It (h + 1)} {c c' : BT It h} (hi : i ≤ t.1.length) (hc : t.2[i]? = some c) :
    (BT.all (h + 1) ((t.1, t.2.set i c') : BT It (h + 1))).length + (BT.all h c).length = (BT.all (h + 1) t).length + (BT.all h c').length := by
  have hL : (t.2.map (BT.all h))[i]? = some (BT.all h c) := by rw [List.getElem?_map, hc]; rfl
  show (weave t.1 ((t.2.set i c').map (BT.all h))).length + _ = (weave t.1 (t.2.map (BT.all h))).length + _
  rw [List.map_set, weave_set t.1 _ hi hL, weave_at i t.1 _ _ hi hL]
  simp only [List.length_append]
  omega

variable {S : Nat → Prop} {w : World} {s : Sto It}

theorem Tr.below (R : RepS E S w s) {h n : Nat} {t : BT It h} {ids : List Nat} {iso : Int} (T : Tr s.nd iso h n t ids) : ∀ k ∈ ids, k < w.heap.size := fun k hk => by
  obtain ⟨r, hr, _⟩ := T.mem k hk
  exact (R.node hr).1

/-- The map s holds the items l, in their order; D is its degree. -/
structure MapIs (D : Nat) (S : Nat → Prop) (w : World) (s : Sto It) (l : List It) : Prop where
  rep : RepS E S w s
  srt : Srt lt l
  cnt : s.mp.count = (l.length : Nat)
  mm : (s.mp.mn = 0 ∧ D = 32 ∧ s.mp.root = none) ∨ (s.mp.mn = ((D - 1 : Nat) : Int) ∧ s.mp.mx = ((2 * D - 1 : Nat) : Int))
  tree : (s.mp.root = none ∧ l = []) ∨ ∃ h n t ids, s.mp.root = some n ∧ Tr s.nd s.mp.iso h n t ids ∧ ids.Nodup ∧ BT.ok (D - 1) (2 * D - 1) 1 h t ∧ l = BT.all h t

theorem MapIs.keep {D : Nat} {l : List It} (m : MapIs D S w s l) {S1 : Nat → Prop} {w' : World} (hf : Fr S1 w w') (hd : ∀ i, S i → ¬ S1 i) : MapIs D S w' s l := ⟨m.rep.keep hf hd, m.srt, m.cnt, m.mm, m.tree⟩

/-- What setting returns, of the items as they were. -/
def SetVal (l : List It) (x : It) : Value := match look lt l x with
  | some y => Value.agg #[]
  | none => Value.agg #[]
end Go.Proofs.Ytbjhnefienjncaa.Bt.IU
