/- Rows that grow by slices, and the children of a node as a row (for spec.Rebalanced). -/
import Derived.Test.YtehnobbiiokcgaaBtLb
namespace Go.Proofs.Ytehnobbiiokcgaa.Bt.ND
set_option linter.unusedVariables false
set_option linter.unusedSimpArgs false
open Go Go.RowKit Go.Proofs.Ytehnobbiiokcgaa.Bt

section
variable {P : Program} {ops : Array Oper} {o : Oper} {a : Act} {w : World} {Q : Exit → Act → World → Prop}
/-- append of a slice, which may be empty, to a row, as a step of a region that draws its order. -/
theorem step_any {K : Act → World → Prop} {F : Prop} (hg : o.guard = none) (s x : Operand) (t : TypeId) (hop : o.op = Op.call { callee := Callee.builtin Builtin.append, args := #[s, x], argTypes := #[t, t] })
    (e : TypeId) (i : TypeInfo) (z : Value) (size bytes : Nat) (h1 : P.underlying t = some (.slice e)) (h2 : P.info? e = some i) (h3 : i.zero = some z) (h4 : i.size = size) (h5 : i.bytes = bytes) (h6 : z.cells.size = size) (h7 : 0 < size)
    (v : Value) (n : Nat) (xs : List Value) (g : Option Nat) (hs : a.eval s = v) (hrow : Row size w v n xs g)
    (A : Addr) (m c : Nat) (news : List Value) (hx : ∃ sa, a.eval x = .slice sa m c ∧ (0 < m → sa = some A)) (hn : news.length = m * size) (hc : ∀ j u, news[j]? = some u → w.cell? (A.add j) = some u) (h1c : ∀ u ∈ news, u.oneCell' = true)
    (b1 : n + m ≤ maxLen) (b2 : (n + m) * bytes ≤ 140737488355328)
    (hK : ∀ v' w' g', Row size w' v' (n + m) (xs ++ news) g' → (∀ k, g' = some k → g = some k ∨ w.heap.size ≤ k) → Fr (fun k => g = some k) w w' → K (a.put o.dst v') w') :
    if Region.wanted o (yielded ops a.tmps) = true then Oper.wp P o a w K Q else F := by
  obtain ⟨sa, hx, hsa⟩ := hx
  rcases Nat.eq_zero_or_pos m with rfl | hm
  · have hw : Region.wanted o (yielded ops a.tmps) = true := by simp [Region.wanted, hg]
    rw [if_pos hw]
    obtain rfl : news = [] := List.eq_nil_of_length_eq_zero (by simpa using hn)
    have hrow0 := hrow
    obtain ⟨hl, hr⟩ := hrow
    rcases hr with ⟨rfl, hn0, hg0⟩ | ⟨b', cap, hb, rfl, hcn, hcm, _, hok⟩
    · have hrun : (Builtin.append_ #[t, t] o.type #[.slice none 0 0, .slice sa 0 c]).run P w = .ok (.slice none 0 0) w := by
        subst h4
        have hl : ∀ x : Addr, (loadCells x 0).run P w = .ok #[] w := fun x => run_loadCells_list (P := P) w x [] (by simp)
        have hst : ∀ x : Addr, (storeCells x []).run P w = .ok () w := fun x => rfl
        cases sa <;> simp [Builtin.append_, run_underlying h1, Builtin.lenOf, Builtin.firstCells, sizeOf, typeInfo, h2, hl, hst]
      unfold Oper.wp
      simp [execOp, hop, resolve, invoke, builtin, hs, hx, hrun, Result.andThen]
      exact hK _ _ g (by simpa using hrow0) (fun k hk => .inl hk) (Fr.refl _ _)
    · have hrun : (Builtin.append_ #[t, t] o.type #[.slice (some ⟨b', 0, none⟩) n cap, .slice sa 0 c]).run P w = .ok (.slice (some ⟨b', 0, none⟩) n cap) w := by
        subst h4
        have hl : ∀ x : Addr, (loadCells x 0).run P w = .ok #[] w := fun x => run_loadCells_list (P := P) w x [] (by simp)
        have hst : ∀ x : Addr, (storeCells x []).run P w = .ok () w := fun x => rfl
        cases sa <;> simp [Builtin.append_, run_underlying h1, Builtin.lenOf, Builtin.firstCells, sizeOf, typeInfo, h2, hl, hst, hcn]
      unfold Oper.wp
      simp [execOp, hop, resolve, invoke, builtin, hs, hx, hrun, Result.andThen]
      exact hK _ _ g (by simpa using hrow0) (fun k hk => .inl hk) (Fr.refl _ _)
  · rw [hsa hm] at hx
    exact step_row hg s x t hop e i z size bytes h1 h2 h3 h4 h5 h6 h7 v n xs g hs hrow A m c news hx hm hn hc h1c b1 b2 (fun v' w' g' hr hg' hF => hK v' w' (some g') hr (fun k hk => by obtain rfl := Option.some.inj hk; exact hg') hF)
end

/-- v is a slice of n elements of sz cells each, which read xs. -/
def Flat (sz : Nat) (w : World) (v : Value) (n : Nat) (xs : List Value) : Prop :=
  xs.length = n * sz ∧ ∃ a cap, v = .slice a n cap ∧ n ≤ cap ∧ (0 < n → ∃ b off, a = some ⟨b, off, none⟩ ∧ b < w.heap.size ∧ ∀ j u, xs[j]? = some u → w.cell? ⟨b, off + j, none⟩ = some u)
theorem Flat.below {sz : Nat} {w w' : World} {v : Value} {n : Nat} {xs : List Value} (h : Flat sz w v n xs) (hb : Below w.heap.size w w') : Flat sz w' v n xs := by
  obtain ⟨hl, a, cap, e, hc, hi⟩ := h
  refine ⟨hl, a, cap, e, hc, fun h0 => ?_⟩
  obtain ⟨b, off, ha, hlt, hcell⟩ := hi h0
  exact ⟨b, off, ha, Nat.lt_of_lt_of_le hlt hb.size, fun j u hu => (hb.cell (p := ⟨b, off + j, none⟩) hlt).trans (hcell j u hu)⟩
theorem Flat.fr {sz : Nat} {S : Nat → Prop} {w w' : World} {v : Value} {n : Nat} {xs : List Value} (h : Flat sz w v n xs) (hf : Fr S w w') (hS : ∀ i, S i → ∀ b off cap, v = .slice (some ⟨b, off, none⟩) n cap → i ≠ b) : Flat sz w' v n xs := by
  obtain ⟨hl, a, cap, e, hc, hi⟩ := h
  refine ⟨hl, a, cap, e, hc, fun h0 => ?_⟩
  obtain ⟨b, off, ha, hlt, hcell⟩ := hi h0
  exact ⟨b, off, ha, Nat.lt_of_lt_of_le hlt hf.size, fun j u hu => (hf.cell (x := ⟨b, off + j, none⟩) hlt (fun hs => hS b hs b off cap (by rw [e, ha]) rfl)).trans (hcell j u hu)⟩
theorem Its.toFlat {w : World} {v : Value} {l : List Im} (h : Its w v l) : Flat 2 w v l.length (itemCells EI l) := by
  obtain ⟨a, cap, e, hc, hi⟩ := h.flat
  exact ⟨itemCells_length (E := EI) l, a, cap, e, hc, hi⟩
theorem Flat.its {w : World} {v : Value} {l : List Im} (h : Flat 2 w v l.length (itemCells EI l)) : Its w v l := by
  obtain ⟨_, a, cap, e, hc, hi⟩ := h
  refine ⟨a, cap, e, hc, fun j x hx => ?_⟩
  obtain ⟨b, off, ha, _, hcell⟩ := hi (by have := (List.getElem?_eq_some_iff.1 hx).1; omega)
  have h1 : (itemCells EI l)[j * 2]? = some (.int .i64 x.1) := itemCells_get (E := EI) l j x hx 0 (by decide)
  have h2 : (itemCells EI l)[j * 2 + 1]? = some (.int .i64 x.2) := itemCells_get (E := EI) l j x hx 1 (by decide)
  exact ⟨b, off, ha, hcell _ _ h1, by rw [Nat.add_assoc]; exact hcell _ _ h2⟩
/-- The children of a node, cell by cell. -/
def KL {n : Nat} (w : World) (L : List (Value × Value × Int)) (ks : List (DT n)) : Prop := L.length = ks.length ∧ ∀ (i : Nat) y k, L[i]? = some y → ks[i]? = some k → NodeAt w n k y.1 y.2.1 y.2.2
theorem KL.below {n : Nat} {w w' : World} {L : List (Value × Value × Int)} {ks : List (DT n)} (h : KL w L ks) (hb : Below w.heap.size w w') : KL w' L ks := ⟨h.1, fun i y k hy hk => (h.2 i y k hy hk).below hb⟩
theorem KL.append {n : Nat} {w : World} {L M : List (Value × Value × Int)} {ks ms : List (DT n)} (h : KL w L ks) (h' : KL w M ms) : KL w (L ++ M) (ks ++ ms) := by
  refine ⟨by rw [List.length_append, List.length_append, h.1, h'.1], fun i y k hy hk => ?_⟩
  by_cases hi : i < L.length
  · rw [List.getElem?_append_left hi] at hy
    rw [List.getElem?_append_left (by rw [← h.1]; exact hi)] at hk
    exact h.2 i y k hy hk
  · rw [List.getElem?_append_right (by omega)] at hy
    rw [List.getElem?_append_right (by rw [← h.1]; omega), ← h.1] at hk
    exact h'.2 _ y k hy hk
theorem KL.take {n : Nat} {w : World} {L : List (Value × Value × Int)} {ks : List (DT n)} (h : KL w L ks) (p : Nat) : KL w (L.take p) (ks.take p) := by
  refine ⟨by rw [List.length_take, List.length_take, h.1], fun i y k hy hk => ?_⟩
  rw [List.getElem?_take] at hy hk
  split at hy
  · rw [if_pos (by assumption)] at hk
    exact h.2 i y k hy hk
  · cases hy
theorem KL.drop {n : Nat} {w : World} {L : List (Value × Value × Int)} {ks : List (DT n)} (h : KL w L ks) (p : Nat) : KL w (L.drop p) (ks.drop p) := by
  refine ⟨by rw [List.length_drop, List.length_drop, h.1], fun i y k hy hk => ?_⟩
  rw [List.getElem?_drop] at hy hk
  exact h.2 _ y k hy hk
theorem KL.one {n : Nat} {w : World} {vi vk : Value} {c : Int} {k : DT n} (h : NodeAt w n k vi vk c) : KL w [(vi, vk, c)] [k] := by
  refine ⟨rfl, fun i y k' hy hk => ?_⟩
  cases i with
  | zero =>
    obtain rfl := Option.some.inj hy
    obtain rfl := Option.some.inj hk
    exact h
  | succ i => simp at hy
theorem kcells_take (L : List (Value × Value × Int)) : ∀ p, (kcells L).take (p * 3) = kcells (L.take p) := by
  induction L with
  | nil => intro p; simp [kcells]
  | cons y L ih =>
    intro p
    cases p with
    | zero => simp [kcells]
    | succ p =>
      have h := ih p
      show ([y.1, y.2.1, Value.int .i64 y.2.2] ++ kcells L).take ((p + 1) * 3) = [y.1, y.2.1, Value.int .i64 y.2.2] ++ kcells (L.take p)
      rw [show (p + 1) * 3 = p * 3 + 1 + 1 + 1 by omega]
      simp [h]
theorem kcells_drop (L : List (Value × Value × Int)) : ∀ p, (kcells L).drop (p * 3) = kcells (L.drop p) := by
  induction L with
  | nil => intro p; simp [kcells]
  | cons y L ih =>
    intro p
    cases p with
    | zero => simp
    | succ p =>
      have h := ih p
      show ([y.1, y.2.1, Value.int .i64 y.2.2] ++ kcells L).drop ((p + 1) * 3) = kcells (L.drop p)
      rw [show (p + 1) * 3 = p * 3 + 1 + 1 + 1 by omega]
      simp [h]
theorem kcells_one {vi vk : Value} {c : Int} : kcells [(vi, vk, c)] = [vi, vk, .int .i64 c] := rfl
theorem snoc_rec {α : Type} {motive : List α → Prop} (h0 : motive []) (h1 : ∀ (l : List α) (x : α), motive l → motive (l ++ [x])) (l : List α) : motive l := by
  have h : ∀ l : List α, motive l.reverse := fun l => by
    induction l with
    | nil => exact h0
    | cons x l ih => rw [List.reverse_cons]; exact h1 _ x ih
  have h2 := h l.reverse
  rwa [List.reverse_reverse] at h2
/-- The children of a node that came in. -/
theorem NodeAt.kids {w : World} {n : Nat} {t : DT (n + 1)} {vi vk : Value} {c : Int} (h : NodeAt w (n + 1) t vi vk c) : ∃ L, KL w L t.2.1 ∧ Flat 3 w vk t.2.1.length (kcells L) := by
  obtain ⟨_, _, a, cap, e, hlc, hk⟩ := h
  have hch : ∀ ks : List (DT n), (∀ (j : Nat) k, ks[j]? = some k → ∃ b off vi' vk' c', a = some ⟨b, off, none⟩ ∧ w.cell? ⟨b, off + j * 3, none⟩ = some vi' ∧ w.cell? ⟨b, off + j * 3 + 1, none⟩ = some vk' ∧ w.cell? ⟨b, off + j * 3 + 2, none⟩ = some (.int .i64 c') ∧ NodeAt w n k vi' vk' c') →
      ∃ L : List (Value × Value × Int), KL w L ks ∧ ∀ (j : Nat) y, L[j]? = some y → ∃ b off, a = some ⟨b, off, none⟩ ∧ w.cell? ⟨b, off + j * 3, none⟩ = some y.1 ∧ w.cell? ⟨b, off + j * 3 + 1, none⟩ = some y.2.1 ∧ w.cell? ⟨b, off + j * 3 + 2, none⟩ = some (.int .i64 y.2.2) := by
    intro ks
    refine snoc_rec (motive := fun ks => (∀ (j : Nat) k, ks[j]? = some k → ∃ b off vi' vk' c', a = some ⟨b, off, none⟩ ∧ w.cell? ⟨b, off + j * 3, none⟩ = some vi' ∧ w.cell? ⟨b, off + j * 3 + 1, none⟩ = some vk' ∧ w.cell? ⟨b, off + j * 3 + 2, none⟩ = some (.int .i64 c') ∧ NodeAt w n k vi' vk' c') →
      ∃ L : List (Value × Value × Int), KL w L ks ∧ ∀ (j : Nat) y, L[j]? = some y → ∃ b off, a = some ⟨b, off, none⟩ ∧ w.cell? ⟨b, off + j * 3, none⟩ = some y.1 ∧ w.cell? ⟨b, off + j * 3 + 1, none⟩ = some y.2.1 ∧ w.cell? ⟨b, off + j * 3 + 2, none⟩ = some (.int .i64 y.2.2)) ?_ ?_ ks
    · intro _; exact ⟨[], ⟨rfl, fun i y k hy _ => by simp at hy⟩, fun j y hy => by simp at hy⟩
    · intro ks k ih hks
      obtain ⟨L, hL, hc⟩ := ih (fun j q hq => hks j q (by rw [List.getElem?_append_left (List.getElem?_eq_some_iff.1 hq).1]; exact hq))
      obtain ⟨b, off, vi', vk', c', ha, g1, g2, g3, hn⟩ := hks ks.length k (by simp)
      refine ⟨L ++ [(vi', vk', c')], hL.append (KL.one hn), fun j y hy => ?_⟩
      by_cases hj : j < L.length
      · rw [List.getElem?_append_left hj] at hy
        exact hc j y hy
      · rw [List.getElem?_append_right (by omega)] at hy
        have hj2 : j = L.length := by
          have := (List.getElem?_eq_some_iff.1 hy).1
          simp at this
          omega
        rw [hj2, Nat.sub_self] at hy
        obtain rfl := Option.some.inj hy
        rw [hj2, hL.1]
        exact ⟨b, off, ha, g1, g2, g3⟩
  obtain ⟨L, hL, hc⟩ := hch t.2.1 hk
  refine ⟨L, hL, by rw [kcells_length, hL.1], a, cap, e, hlc, fun h0 => ?_⟩
  obtain ⟨y0, hy0⟩ : ∃ y, L[0]? = some y := ⟨_, List.getElem?_eq_getElem (by rw [hL.1]; exact h0)⟩
  obtain ⟨b, off, ha, g1, _, _⟩ := hc 0 y0 hy0
  refine ⟨b, off, ha, World.block_lt_of_cell? w _ g1, fun j u hu => ?_⟩
  have hj := (List.getElem?_eq_some_iff.1 hu).1
  rw [kcells_length] at hj
  obtain ⟨y, hy⟩ : ∃ y, L[j / 3]? = some y := ⟨_, List.getElem?_eq_getElem (by omega)⟩
  obtain ⟨b', off', ha', f1, f2, f3⟩ := hc _ y hy
  rw [ha] at ha'
  injection ha' with ha'
  injection ha' with e1 e2 _
  subst e1; subst e2
  obtain ⟨k1, k2, k3⟩ := kcells_get L _ y hy
  have hm := Nat.div_add_mod j 3
  have h3 : j % 3 = 0 ∨ j % 3 = 1 ∨ j % 3 = 2 := by omega
  rcases h3 with h3 | h3 | h3
  · rw [show j / 3 * 3 = j by omega] at k1 f1
    rw [k1] at hu
    obtain rfl := Option.some.inj hu
    exact f1
  · rw [show j / 3 * 3 + 1 = j by omega] at k2
    rw [k2] at hu
    obtain rfl := Option.some.inj hu
    rw [show off + j / 3 * 3 + 1 = off + j by omega] at f2
    exact f2
  · rw [show j / 3 * 3 + 2 = j by omega] at k3
    rw [k3] at hu
    obtain rfl := Option.some.inj hu
    rw [show off + j / 3 * 3 + 2 = off + j by omega] at f3
    exact f3
/-- A node of a list of items and of children. -/
theorem NodeAt.of {w : World} {n : Nat} {t : DT (n + 1)} {vi vk : Value} {L : List (Value × Value × Int)} (h1 : Flat 2 w vi t.1.length (itemCells EI t.1)) (h2 : Flat 3 w vk t.2.1.length (kcells L)) (h3 : KL w L t.2.1) : NodeAt w (n + 1) t vi vk t.2.2 := by
  obtain ⟨_, a, cap, e, hlc, hk⟩ := h2
  refine ⟨rfl, h1.its, a, cap, e, hlc, fun j k hj => ?_⟩
  have hjl := (List.getElem?_eq_some_iff.1 hj).1
  obtain ⟨b, off, ha, _, hcell⟩ := hk (by omega)
  obtain ⟨y, hy⟩ : ∃ y, L[j]? = some y := ⟨_, List.getElem?_eq_getElem (by rw [h3.1]; exact hjl)⟩
  obtain ⟨k1, k2, k3⟩ := kcells_get L j y hy
  exact ⟨b, off, y.1, y.2.1, y.2.2, ha, hcell _ _ k1, by rw [Nat.add_assoc]; exact hcell _ _ k2, by rw [Nat.add_assoc]; exact hcell _ _ k3, h3.2 j y k hy hj⟩
/-- A row is flat. -/
theorem Row.flat {sz : Nat} {w : World} {v : Value} {n : Nat} {xs : List Value} {g : Option Nat} (h : Row sz w v n xs g) : Flat sz w v n xs := by
  obtain ⟨hl, h⟩ := h
  refine ⟨hl, ?_⟩
  rcases h with ⟨rfl, rfl, _⟩ | ⟨b, cap, _, rfl, h1, _, h3, hok⟩
  · exact ⟨none, 0, rfl, Nat.le_refl _, fun h => by omega⟩
  · exact ⟨_, cap, rfl, h1, fun _ => ⟨b, 0, rfl, h3, fun j u hu => M_cell (hok.val j u hu)⟩⟩
end Go.Proofs.Ytehnobbiiokcgaa.Bt.ND
