/- Maps of numbers (sets): two neighbours are made one. -/
import Derived.Test.YtbjhnefienjncaaBtIUe
import Derived.Test.YtbjhnefienjncaaBtKn
import Derived.Test.YtbjhnefienjncaaBtLast
import Derived.Deep.RegionHeld3
import Derived.Deep.DeepCutAuto
namespace Go.Proofs.Ytbjhnefienjncaa.Bt.IU
set_option linter.unusedVariables false
set_option linter.unusedSimpArgs false
open Go Go.RowKit Go.Proofs.Ytbjhnefienjncaa.Bt

variable {S : Nat → Prop} {w : World} {s : Sto It}

theorem node_eq {r : NodeR It} {p b : Nat × Nat} {k : KidR} (h1 : r.ib = some p) (h2 : r.kids = some k) (h3 : k.base = some b) : r = ⟨r.iso, r.count, r.items, some p, r.icap, some ⟨k.hdr, some b, k.cap, k.kids⟩⟩ := by
  cases r; cases k; simp only at h1 h2 h3; subst h1; subst h2; subst h3; rfl
theorem node_eq2 {r : NodeR It} {b : Nat × Nat} {k : KidR} (h2 : r.kids = some k) (h3 : k.base = some b) : r = ⟨r.iso, r.count, r.items, r.ib, r.icap, some ⟨k.hdr, some b, k.cap, k.kids⟩⟩ := by
  cases r; cases k; simp only at h2 h3; subst h2; subst h3; rfl
theorem node_eq3 {r : NodeR It} {p : Nat × Nat} (h1 : r.ib = some p) : r = ⟨r.iso, r.count, r.items, some p, r.icap, r.kids⟩ := by
  cases r; simp only at h1; subst h1; rfl
theorem take_set_self {α : Type} {l : List α} {p : Nat} {z : α} : (l.set p z).take p = l.take p := by
  rw [List.take_set]; exact List.set_eq_of_length_le (by rw [List.length_take]; exact Nat.min_le_left _ _)
section
variable {S0 : Nat → Prop} {w0 w : World} {s0 : Sto It} {A B : List (Nat × NodeR It)} {a : Nat} {r : NodeR It}
/-- The cells of an item. -/
theorem kitem (K : KS E S0 w0 s0 (A ++ (a, r) :: B) w) {b o : Nat} (hb : r.ib = some (b, o)) {i : Nat} {x : It} (hx : r.items[i]? = some x) :
    M w b (o + i) = some (Value.int .i64 x.1) ∧ M w b (o + i) = some (Value.int .i64 x.1) := by
  have h := K.item hb hx (j := 0) (v := Value.int .i64 x.1) rfl
  rw [show o + (i * E.sz + 0) = o + i by show o + (i * 1 + 0) = o + i; omega] at h
  exact ⟨h, h⟩
end
theorem cut_shift {α : Type} {l : List α} {j p : Nat} {z : α} (hl : l.length = p + 1) (hj : j ≤ p) : ((l.take j ++ l.drop (j + 1) ++ l.drop (j + (l.drop (j + 1)).length)).set p z).take p = l.take j ++ l.drop (j + 1) := by
  have h1 : (l.take j ++ l.drop (j + 1)).length = p := by rw [List.length_append, List.length_take, List.length_drop]; omega
  rw [List.set_append_right _ _ (by omega), List.take_append_of_le_length (by omega), List.take_of_length_le (by omega)]

/-- Two neighbours below a node, as they stand. -/
structure Pair (w : World) (s : Sto It) (n l q j ln lk ll lq : Nat) (rn rl rq : NodeR It) (kn : KidR) (nb no kb ko : Nat) (md : It) (i : Nat) (mx : Nat) : Prop where
  hn : s.nd n = some rn
  hl : s.nd l = some rl
  hq : s.nd q = some rq
  isol : rl.iso = s.mp.iso
  isoq : rq.iso = s.mp.iso
  nd : [n, l, q].Nodup
  len : rn.items.length = ln
  lel : rl.items.length = ll
  leq : rq.items.length = lq
  hk : rn.kids = some kn
  kl : kn.kids.length = lk
  lk1 : lk ≤ ln + 1
  lk2 : ln + 1 ≤ lk
  nib : rn.ib = some (nb, no)
  kib : kn.base = some (kb, ko)
  kj : kn.kids[j]? = some (some l)
  kj1 : kn.kids[j + 1]? = some (some q)
  hmd : rn.items[j]? = some md
  hi : (i = j ∧ i ≠ ln) ∨ (i = ln ∧ j + 1 = i)
  hmx : s.mp.mx = mx
  bn : ln ≤ 100000
  bl : ll ≤ 100000
  bq : lq ≤ 100000
  bm : mx ≤ 100000
  cl : 0 ≤ rl.count ∧ rl.count ≤ 100000000000
  cq : 0 ≤ rq.count ∧ rq.count ≤ 100000000000
end Go.Proofs.Ytbjhnefienjncaa.Bt.IU
