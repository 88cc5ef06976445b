/- Maps below a block number, and rows of the call's own above it. -/
import Derived.Test.YtbjhnefienjncaaBtNew
import Derived.Test.YtbjhnefienjncaaBtRel
namespace Go.Proofs.Ytbjhnefienjncaa.Bt
set_option linter.unusedVariables false
set_option linter.unusedSimpArgs false
open Go Go.RowKit

theorem Rep.below {τ : Type} {S : Nat → Prop} {w w' : World} {G : τ → Option Ch} (R : Rep S w G) {B : Nat} (h : Below B w w') (hS : ∀ i, S i → i < B) : Rep S w' G where
  ok x c hx := ⟨(R.ok x c hx).len, fun j hj => by rw [M_block (h.block _ (hS _ (R.ins x c hx)))]; exact (R.ok x c hx).some j hj,
    fun j v hv => by rw [M_block (h.block _ (hS _ (R.ins x c hx)))]; exact (R.ok x c hx).val j v hv⟩
  off := R.off
  ins := R.ins
  lt b hb := Nat.lt_of_lt_of_le (R.lt b hb) h.size
theorem RepS.below {I : Type} {E : Enc I} {S : Nat → Prop} {w w' : World} {s : Sto I} (R : RepS E S w s) {B : Nat} (h : Below B w w') (hS : ∀ i, S i → i < B) : RepS E S w' s :=
  ⟨R.rep.below h hS, R.wf, (bty_eq (h.block _ (hS _ R.inS_map))).trans R.ty.1, fun n r hn p hp => (bty_eq (h.block _ (hS _ (R.inS_items hn (b := p.1) (o := p.2) hp)))).trans (R.ty.2 n r hn p hp)⟩
theorem Ext.below {S S' : Nat → Prop} {w w' : World} (h : Ext S w S' w') {B : Nat} (hB : B ≤ w.heap.size) (hS : ∀ i, S i → B ≤ i) : Below B w w' := h.fr.below hB hS

/-- What stands ahead of the next child. -/
theorem wpre_step {I : Type} : ∀ (i : Nat) (xs : List I) (ls : List (List I)) (x : I) (L : List I), xs[i]? = some x → ls[i]? = some L → wpre (i + 1) xs ls = wpre i xs ls ++ (L ++ [x])
  | 0, [], _, _, _, h, _ => by cases h
  | 0, _ :: _, [], _, _, _, h => by cases h
  | 0, a :: xs, l :: ls, x, L, h1, h2 => by
    obtain rfl := Option.some.inj h1
    obtain rfl := Option.some.inj h2
    simp [wpre]
  | i + 1, [], _, _, _, h, _ => by cases h
  | i + 1, _ :: _, [], _, _, _, h => by cases h
  | i + 1, a :: xs, l :: ls, x, L, h1, h2 => by
    have ih := wpre_step i xs ls x L (by simpa using h1) (by simpa using h2)
    show l ++ a :: wpre (i + 1) xs ls = (l ++ a :: wpre i xs ls) ++ (L ++ [x])
    rw [ih]; simp
theorem weave_end {I : Type} {xs : List I} {ls : List (List I)} {L : List I} (hl : ls.length = xs.length + 1) (hL : ls[xs.length]? = some L) : weave xs ls = wpre xs.length xs ls ++ L := by
  rw [weave_at _ _ _ _ (Nat.le_refl _) hL, List.drop_eq_nil_of_le (Nat.le_refl _), List.drop_eq_nil_of_le (by omega)]
  simp [wpost]
theorem wpre_length_le {I : Type} {xs : List I} {ls : List (List I)} {L : List I} {i : Nat} (hi : i ≤ xs.length) (hL : ls[i]? = some L) : (wpre i xs ls).length + L.length ≤ (weave xs ls).length := by
  rw [weave_at _ _ _ _ hi hL]; simp
end Go.Proofs.Ytbjhnefienjncaa.Bt
