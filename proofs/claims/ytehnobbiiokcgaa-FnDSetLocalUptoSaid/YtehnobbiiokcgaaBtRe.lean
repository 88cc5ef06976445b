/- append of a slice to a list of the call's own, either of which may be empty. -/
import Derived.Test.YtehnobbiiokcgaaBtRow
namespace Go.Proofs.Ytehnobbiiokcgaa.Bt
set_option linter.unusedVariables false
set_option linter.unusedSimpArgs false
open Go Go.RowKit

section
variable {P : Program} {ops : Array Oper} {o : Oper} {a : Act} {w : World} {Q : Exit → Act → World → Prop}
/-- append of a slice, either of which may be empty. -/
theorem wpList_rowF {rest : List Oper} (hg : o.guard = none) (s x : Operand) (t : TypeId) (hop : o.op = Op.call { callee := Callee.builtin Builtin.append, args := #[s, x], argTypes := #[t, t] })
    (e : TypeId) (i : TypeInfo) (z : Value) (size bytes : Nat) (h1 : P.underlying t = some (.slice e)) (h2 : P.info? e = some i) (h3 : i.zero = some z) (h4 : i.size = size) (h5 : i.bytes = bytes) (h6 : z.cells.size = size) (h7 : 0 < size)
    (v : Value) (n : Nat) (xs : List Value) (g : Option Nat) (hs : a.eval s = v) (hrow : Row size w v n xs g)
    (A : Addr) (m c : Nat) (news : List Value) (hx : ∃ sa, a.eval x = .slice sa m c ∧ (0 < m → sa = some A)) (hn : news.length = m * size) (hc : ∀ j u, news[j]? = some u → w.cell? (A.add j) = some u) (h1c : ∀ u ∈ news, u.oneCell' = true)
    (b1 : n + m ≤ maxLen) (b2 : (n + m) * bytes ≤ 140737488355328)
    (hK : ∀ v' w' g', Row size w' v' (n + m) (xs ++ news) g' → (g = g' ∨ ∃ b, g' = some b ∧ w.heap.size ≤ b) → Fr (fun k => g = some k) w w' → wpList P ops Q rest (a.put o.dst v') w') : wpList P ops Q (o :: rest) a w := by
  obtain ⟨sa, hx, hsa⟩ := hx
  rcases Nat.eq_zero_or_pos m with rfl | hm
  · obtain rfl : news = [] := List.eq_nil_of_length_eq_zero (by simpa using hn)
    cases g with
    | some b => exact wpList_row0 hg s x t hop e i size h1 h2 h4 v n xs b hs hrow sa c hx (hK v w (some b) (by simpa using hrow) (.inl rfl) (Fr.refl _ _))
    | none =>
      obtain ⟨rfl, rfl⟩ : v = .slice none 0 0 ∧ n = 0 := by
        rcases hrow.2 with ⟨h, h', _⟩ | ⟨_, _, h, _⟩
        · exact ⟨h, h'⟩
        · cases h
      have hrun : (Builtin.append_ #[t, t] o.type #[.slice none 0 0, .slice sa 0 c]).run P w = .ok (.slice none 0 0) w := by
        subst h4
        have hl : ∀ x : Addr, (loadCells x 0).run P w = .ok #[] w := fun x => run_loadCells_list (P := P) w x [] (by simp)
        have hst : ∀ x : Addr, (storeCells x []).run P w = .ok () w := fun x => rfl
        cases sa <;> simp [Builtin.append_, run_underlying h1, Builtin.lenOf, Builtin.firstCells, sizeOf, typeInfo, h2, hl, hst]
      refine wpList_plain hg fun K hK' => ?_
      unfold Oper.wp
      simp [execOp, hop, resolve, invoke, builtin, hs, hx, hrun, Result.andThen]
      exact hK' _ _ (hK _ w none (by simpa using hrow) (.inl rfl) (Fr.refl _ _))
  · rw [hsa hm] at hx
    exact wpList_row hg s x t hop e i z size bytes h1 h2 h3 h4 h5 h6 h7 v n xs g hs hrow A m c news hx hm hn hc h1c b1 b2 (fun v' w' g' hr hg' hF => hK v' w' (some g') hr (hg'.imp id fun h => ⟨g', rfl, h⟩) hF)
end

end Go.Proofs.Ytehnobbiiokcgaa.Bt
