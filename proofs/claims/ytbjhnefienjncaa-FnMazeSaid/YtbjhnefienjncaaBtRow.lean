/- Slices that are read: strings, numbers. Rows of the call's own: slices that are appended to, each in a block of its own. -/
import Derived.Test.YtbjhnefienjncaaBtOwn
import Derived.OwnWalk
namespace Go.Proofs.Ytbjhnefienjncaa.Bt
set_option linter.unusedVariables false
set_option linter.unusedSimpArgs false
open Go Go.RowKit

/-- v is a slice whose cells (sz to an element) read as f of l's elements. -/
def Sls {α : Type} (f : α → Value) (w : World) (v : Value) (l : List α) : Prop :=
  ∃ a cap, v = .slice a l.length cap ∧ ∀ j x, l[j]? = some x → ∃ b off, a = some ⟨b, off, none⟩ ∧ w.cell? ⟨b, off + j, none⟩ = some (f x)
theorem Sls.below {α : Type} {f : α → Value} {w w' : World} {v : Value} {l : List α} (h : Sls f w v l) (hb : Below w.heap.size w w') : Sls f w' v l := by
  obtain ⟨a, cap, e, hc⟩ := h
  refine ⟨a, cap, e, fun j x hx => ?_⟩
  obtain ⟨b, off, ha, hcell⟩ := hc j x hx
  exact ⟨b, off, ha, (hb.cell (p := ⟨b, off + j, none⟩) (World.block_lt_of_cell? w _ hcell)).trans hcell⟩
/-- The same through a number of blocks that lies above the slice's own. -/
def SlsB {α : Type} (f : α → Value) (B : Nat) (w : World) (v : Value) (l : List α) : Prop :=
  ∃ a cap, v = .slice a l.length cap ∧ ∀ j x, l[j]? = some x → ∃ b off, a = some ⟨b, off, none⟩ ∧ b < B ∧ w.cell? ⟨b, off + j, none⟩ = some (f x)
theorem Sls.at {α : Type} {f : α → Value} {w : World} {v : Value} {l : List α} (h : Sls f w v l) : SlsB f w.heap.size w v l := by
  obtain ⟨a, cap, e, hc⟩ := h
  refine ⟨a, cap, e, fun j x hx => ?_⟩
  obtain ⟨b, off, ha, hcell⟩ := hc j x hx
  exact ⟨b, off, ha, World.block_lt_of_cell? w _ hcell, hcell⟩
theorem SlsB.below {α : Type} {f : α → Value} {B : Nat} {w w' : World} {v : Value} {l : List α} (h : SlsB f B w v l) (hb : Below B w w') : SlsB f B w' v l := by
  obtain ⟨a, cap, e, hc⟩ := h
  refine ⟨a, cap, e, fun j x hx => ?_⟩
  obtain ⟨b, off, ha, hlt, hcell⟩ := hc j x hx
  exact ⟨b, off, ha, hlt, (hb.cell (p := ⟨b, off + j, none⟩) hlt).trans hcell⟩
theorem SlsB.sls {α : Type} {f : α → Value} {B : Nat} {w : World} {v : Value} {l : List α} (h : SlsB f B w v l) : Sls f w v l := by
  obtain ⟨a, cap, e, hc⟩ := h
  refine ⟨a, cap, e, fun j x hx => ?_⟩
  obtain ⟨b, off, ha, _, hcell⟩ := hc j x hx
  exact ⟨b, off, ha, hcell⟩
theorem Sls.own {α : Type} {f : α → Value} {w : World} {B : Nat} {e : TypeId} {v : Value} {l : List α} (h : w.ownsRow B e 1 v l.length (l.map f)) : Sls f w v l := by
  obtain ⟨hl, h⟩ := h
  rcases h with ⟨rfl, h0⟩ | ⟨g, cap, cur, rfl, hB, hg, hc, hm, hs, ht⟩
  · exact ⟨none, 0, by rw [h0], fun j x hx => by have := (List.getElem?_eq_some_iff.1 hx).1; omega⟩
  · refine ⟨some ⟨g, 0, none⟩, cap, rfl, fun j x hx => ⟨g, 0, rfl, ?_⟩⟩
    have hj := (List.getElem?_eq_some_iff.1 hx).1
    have h1 : (l.map f)[j]? = some (f x) := by rw [List.getElem?_map, hx]; rfl
    rw [← ht, List.getElem?_take_of_lt (by omega)] at h1
    have : w.cell? ⟨g, 0 + j, none⟩ = cur[j]? := by simp [World.cell?, hg]
    rw [this, ← Array.getElem?_toList]; exact h1
/-- What the walk needs of it. -/
theorem Sls.get {α : Type} {f : α → Value} {w : World} {v : Value} {l : List α} (h : Sls f w v l) : ∃ a cap, v = .slice a l.length cap ∧ (∀ j x, l[j]? = some x → ∃ b off, a = some ⟨b, off, none⟩ ∧ w.cell? ⟨b, off + j, none⟩ = some (f x)) := h
abbrev Strs := Sls Value.string
abbrev Ints := Sls (Value.int .i64)
end Go.Proofs.Ytbjhnefienjncaa.Bt

namespace Go.Proofs.Ytbjhnefienjncaa.Bt
set_option linter.unusedVariables false
set_option linter.unusedSimpArgs false
open Go Go.RowKit

/-- v is a slice of n elements (sz cells each) that reads as xs; its array is all of block g from its start on, and nothing else knows of it. -/
def Row (sz : Nat) (w : World) (v : Value) (n : Nat) (xs : List Value) (g : Option Nat) : Prop :=
  xs.length = n * sz ∧ ((v = .slice none 0 0 ∧ n = 0 ∧ g = none) ∨ ∃ b cap, g = some b ∧ v = .slice (some ⟨b, 0, none⟩) n cap ∧ n ≤ cap ∧ cap ≤ maxLen ∧ b < w.heap.size ∧ (⟨b, 0, cap * sz, xs⟩ : Ch).Ok w)

theorem Row.nil (sz : Nat) (w : World) : Row sz w (.slice none 0 0) 0 [] none := ⟨by simp, .inl ⟨rfl, rfl, rfl⟩⟩
theorem Row.keep {sz : Nat} {w w' : World} {v : Value} {n : Nat} {xs : List Value} {g : Option Nat} (h : Row sz w v n xs g) {S : Nat → Prop} (hf : Fr S w w') (hn : ∀ b, g = some b → ¬ S b) : Row sz w' v n xs g := by
  obtain ⟨hl, h⟩ := h
  refine ⟨hl, ?_⟩
  rcases h with h | ⟨b, cap, e, ev, h1, h2, h3, hok⟩
  · exact .inl h
  · refine .inr ⟨b, cap, e, ev, h1, h2, Nat.lt_of_lt_of_le h3 hf.size, hok.len, fun j hj => ?_, fun j u hj => ?_⟩
    · rw [hf.M h3 (hn b e)]; exact hok.some j hj
    · rw [hf.M h3 (hn b e)]; exact hok.val j u hj
theorem Row.alloc {sz : Nat} {w : World} {v : Value} {n : Nat} {xs : List Value} {g : Option Nat} (h : Row sz w v n xs g) (x : Obj) : Row sz (w.alloc x) v n xs g := h.keep ((Fr.refl (fun _ => False) w).alloc x) (fun _ _ h => h)
theorem Row.drew {sz : Nat} {w : World} {v : Value} {n : Nat} {xs : List Value} {g : Option Nat} (h : Row sz w v n xs g) : Row sz w.drew v n xs g := h.keep ((Fr.refl (fun _ => False) w).drew) (fun _ _ h => h)
theorem Row.drewN {sz : Nat} {w : World} {v : Value} {n : Nat} {xs : List Value} {g : Option Nat} (h : Row sz w v n xs g) (k : Nat) : Row sz (w.drewN k) v n xs g := h.keep ((Fr.refl (fun _ => False) w).drewN k) (fun _ _ h => h)
theorem Row.lt {sz : Nat} {w : World} {v : Value} {n : Nat} {xs : List Value} {b : Nat} (h : Row sz w v n xs (some b)) : b < w.heap.size := by
  rcases h.2 with ⟨_, _, h⟩ | ⟨b', _, e, _, _, _, h, _⟩
  · cases h
  · rw [Option.some.inj e]; exact h
/-- A slice literal without elements. -/
theorem Row.empty (sz : Nat) (w : World) (c : Array Value) (t : TypeId) : Row sz (w.alloc (.cells c t)) (.slice (some ⟨w.heap.size, 0, none⟩) 0 0) 0 [] (some w.heap.size) :=
  ⟨by simp, .inr ⟨_, 0, rfl, rfl, Nat.le_refl _, Nat.zero_le _, by simp, by simp, fun j hj => absurd (show j < 0 * sz from hj) (by simp), fun j u hu => by simp at hu⟩⟩
theorem Row.len {sz : Nat} {w : World} {v : Value} {n : Nat} {xs : List Value} {g : Option Nat} (h : Row sz w v n xs g) : ∃ a cap, v = .slice a n cap := by
  rcases h.2 with ⟨rfl, rfl, _⟩ | ⟨b, cap, _, rfl, _⟩
  · exact ⟨_, _, rfl⟩
  · exact ⟨_, _, rfl⟩
theorem Row.form {sz : Nat} {w : World} {v : Value} {n : Nat} {xs : List Value} {g : Option Nat} (h : Row sz w v n xs g) (hn : 0 < n) : ∃ b cap, g = some b ∧ v = .slice (some ⟨b, 0, none⟩) n cap ∧ n ≤ cap ∧ ∀ j u, xs[j]? = some u → M w b j = some u := by
  rcases h.2 with ⟨_, h0, _⟩ | ⟨b, cap, e, ev, h1, _, _, hok⟩
  · omega
  · exact ⟨b, cap, e, ev, h1, fun j u hj => by have := hok.val j u hj; rwa [show (⟨b, 0, cap * sz, xs⟩ : Ch).o + j = j from Nat.zero_add j] at this⟩
theorem Row.sls {α : Type} {f : α → Value} {w : World} {v : Value} {l : List α} {g : Option Nat} (h : Row 1 w v l.length (l.map f) g) : Sls f w v l := by
  rcases Nat.eq_zero_or_pos l.length with h0 | h0
  · obtain ⟨a, cap, rfl⟩ := h.len
    exact ⟨a, cap, rfl, fun j x hx => by have := (List.getElem?_eq_some_iff.1 hx).1; omega⟩
  · obtain ⟨b, cap, _, rfl, _, hc⟩ := h.form h0
    refine ⟨_, cap, rfl, fun j x hx => ⟨b, 0, rfl, ?_⟩⟩
    rw [Nat.zero_add]
    exact M_cell (hc j _ (by rw [List.getElem?_map, hx]; rfl))

/-- The value, as the walk slices it. -/
theorem Row.cut {sz : Nat} {w : World} {v : Value} {n : Nat} {xs : List Value} {g : Option Nat} (h : Row sz w v n xs g) : ∃ a cap, v = .slice a n cap ∧ n ≤ cap ∧ (0 < n → a = some ⟨g.getD 0, 0, none⟩) ∧ (0 < n → g = some (g.getD 0)) ∧ ∀ j u, xs[j]? = some u → w.cell? ⟨g.getD 0, j, none⟩ = some u := by
  obtain ⟨hl, h⟩ := h
  rcases h with ⟨rfl, rfl, rfl⟩ | ⟨b, cap, rfl, rfl, h1, _, _, hok⟩
  · exact ⟨none, 0, rfl, Nat.le_refl _, fun h => absurd h (by simp), fun h => absurd h (by simp), fun j u hj => by
      obtain rfl : xs = [] := List.eq_nil_of_length_eq_zero (by simpa using hl)
      simp at hj⟩
  · exact ⟨_, cap, rfl, h1, fun _ => rfl, fun _ => rfl, fun j u hj => by have := hok.val j u hj; rw [show (⟨b, 0, cap * sz, xs⟩ : Ch).o + j = j from Nat.zero_add j] at this; exact M_cell this⟩
section
variable {P : Program} {ops : Array Oper} {o : Oper} {a : Act} {w : World} {Q : Exit → Act → World → Prop}

theorem Row.of_app {e : TypeId} {w w' : World} {b cap n sz m : Nat} {xs news : List Value} {v' : Value} (hx : xs.length = n * sz) (hn : news.length = m * sz) (hb : b < w.heap.size) (hcm : cap ≤ maxLen) (hok : (⟨b, 0, cap * sz, xs⟩ : Ch).Ok w) (h : App e w w' (some (b, 0)) n cap sz m xs news v') :
    ∃ g', Row sz w' v' (n + m) (xs ++ news) (some g') ∧ (g' = b ∨ w.heap.size ≤ g') ∧ Fr (· = b) w w' := by
  rcases h with ⟨b', o', e1, hr, rfl, hu⟩ | ⟨g, cap', rfl, h1, h2, h3, h4, h5, _, h6⟩
  · simp only [Option.some.injEq, Prod.mk.injEq] at e1
    obtain ⟨rfl, rfl⟩ := e1
    refine ⟨b, ⟨by rw [List.length_append, hx, hn, Nat.add_mul], .inr ⟨b, cap, rfl, rfl, hr, hcm, by rw [hu.size]; exact hb, ?_, fun j hj => ?_, fun j u hj => ?_⟩⟩, .inl rfl, hu.fr⟩
    · show (xs ++ news).length ≤ cap * sz
      rw [List.length_append, hx, hn, ← Nat.add_mul]; exact Nat.mul_le_mul_right _ hr
    · show (M w' b (0 + j)).isSome = true
      rw [hu.cells]
      split
      · rename_i hc
        rw [List.getElem?_eq_getElem (by omega)]; rfl
      · exact hok.some j hj
    · show M w' b (0 + j) = some u
      have hj' : (xs ++ news)[j]? = some u := hj
      rw [hu.cells]
      split
      · rename_i hc
        rw [List.getElem?_append_right (by omega)] at hj'
        rw [← hj']; congr 1; omega
      · rename_i hc
        have hjl := (List.getElem?_eq_some_iff.1 hj').1
        rw [List.length_append] at hjl
        rw [List.getElem?_append_left (by omega)] at hj'
        exact hok.val j u hj'
  · exact ⟨g, ⟨by rw [List.length_append, hx, hn, Nat.add_mul], .inr ⟨g, cap', rfl, rfl, h3, h4, h2, h5⟩⟩, .inr h1, h6.mono (fun _ h => h.elim)⟩

/-- append of at least one element. -/
theorem wpList_row {rest : List Oper} (hg : o.guard = none) (s x : Operand) (t : TypeId) (hop : o.op = Op.call { callee := Callee.builtin Builtin.append, args := #[s, x], argTypes := #[t, t] })
    (e : TypeId) (i : TypeInfo) (z : Value) (size bytes : Nat) (h1 : P.underlying t = some (.slice e)) (h2 : P.info? e = some i) (h3 : i.zero = some z) (h4 : i.size = size) (h5 : i.bytes = bytes) (h6 : z.cells.size = size) (h7 : 0 < size)
    (v : Value) (n : Nat) (xs : List Value) (g : Option Nat) (hs : a.eval s = v) (hrow : Row size w v n xs g)
    (ad : Addr) (m c : Nat) (news : List Value) (hx : a.eval x = .slice (some ad) m c) (hm : 0 < m) (hn : news.length = m * size) (hc : ∀ j u, news[j]? = some u → w.cell? (ad.add j) = some u) (h1c : ∀ u ∈ news, u.oneCell' = true)
    (b1 : n + m ≤ maxLen) (b2 : (n + m) * bytes ≤ 140737488355328)
    (hK : ∀ v' w' g', Row size w' v' (n + m) (xs ++ news) (some g') → (g = some g' ∨ w.heap.size ≤ g') → Fr (fun k => g = some k) w w' → wpList P ops Q rest (a.put o.dst v') w') : wpList P ops Q (o :: rest) a w := by
  obtain ⟨hl, hr⟩ := hrow
  rcases hr with ⟨rfl, rfl, rfl⟩ | ⟨b, cap, rfl, rfl, hcn, hcm, hb, hok⟩
  · obtain rfl : xs = [] := List.eq_nil_of_length_eq_zero (by simpa using hl)
    refine wpList_app hg s x t hop e i z size bytes h1 h2 h3 h4 h5 h6 h7 none 0 0 [] hs (fun _ => ⟨rfl, rfl⟩) (by simp) (fun b o hb => by cases hb) ad m c news hx hm hn hc h1c b1 b2 (fun v' w' happ => ?_)
    obtain ⟨g, gc, rfl, hg1, hg2, hgc, hok, _, hF⟩ := happ.fresh hm
    refine hK _ _ g ?_ (.inr hg1) (hF.mono (fun _ h => h.elim))
    rcases happ with ⟨_, _, hh, _⟩ | ⟨g', c', e1, _, _, _, hcm', _⟩
    · cases hh
    · rw [Nat.zero_add] at e1
      obtain ⟨_, rfl⟩ := sv_inj (ib := some (g', 0)) e1
      exact ⟨by rw [List.nil_append, hn, Nat.zero_add], .inr ⟨g, gc, rfl, by rw [Nat.zero_add]; rfl, by omega, hcm', hg2, by rw [List.nil_append]; exact hok⟩⟩
  · refine wpList_app hg s x t hop e i z size bytes h1 h2 h3 h4 h5 h6 h7 (some (b, 0)) n cap xs hs (fun h => by cases h) hl (fun b' o' hb' => by cases hb'; exact hok) ad m c news hx hm hn hc h1c b1 b2 (fun v' w' happ => ?_)
    obtain ⟨g', hrow', hg', hF⟩ := Row.of_app hl hn hb hcm hok happ
    refine hK v' w' g' hrow' (hg'.imp (fun h => by rw [h]) id) (hF.mono fun k hk => by rw [hk])

/-- append of no element. -/
theorem wpList_row0 {rest : List Oper} (hg : o.guard = none) (s x : Operand) (t : TypeId) (hop : o.op = Op.call { callee := Callee.builtin Builtin.append, args := #[s, x], argTypes := #[t, t] })
    (e : TypeId) (i : TypeInfo) (size : Nat) (h1 : P.underlying t = some (.slice e)) (h2 : P.info? e = some i) (h4 : i.size = size)
    (v : Value) (n : Nat) (xs : List Value) (b : Nat) (hs : a.eval s = v) (hrow : Row size w v n xs (some b)) (ad : Option Addr) (c : Nat) (hx : a.eval x = .slice ad 0 c)
    (hK : wpList P ops Q rest (a.put o.dst v) w) : wpList P ops Q (o :: rest) a w := by
  obtain ⟨hl, hr⟩ := hrow
  rcases hr with ⟨_, _, h⟩ | ⟨b', cap, hb, rfl, hcn, hcm, _, hok⟩
  · cases h
  · obtain rfl := Option.some.inj hb
    have hrun : (Builtin.append_ #[t, t] o.type #[.slice (some ⟨b, 0, none⟩) n cap, .slice ad 0 c]).run P w = .ok (.slice (some ⟨b, 0, none⟩) n cap) w := by
      subst h4
      have hl : ∀ x : Addr, (loadCells x 0).run P w = .ok #[] w := fun x => run_loadCells_list (P := P) w x [] (by simp)
      have hst : ∀ x : Addr, (storeCells x []).run P w = .ok () w := fun x => rfl
      cases ad <;> simp [Builtin.append_, run_underlying h1, Builtin.lenOf, Builtin.firstCells, sizeOf, typeInfo, h2, hl, hst, hcn]
    refine wpList_plain hg fun K hK' => ?_
    unfold Oper.wp
    simp [execOp, hop, resolve, invoke, builtin, hs, hx, hrun, Result.andThen]
    exact hK' _ _ hK

/-- append of a slice, which may be empty, to a slice that has an array. -/
theorem wpList_rows {rest : List Oper} (hg : o.guard = none) (s x : Operand) (t : TypeId) (hop : o.op = Op.call { callee := Callee.builtin Builtin.append, args := #[s, x], argTypes := #[t, t] })
    (e : TypeId) (i : TypeInfo) (z : Value) (size bytes : Nat) (h1 : P.underlying t = some (.slice e)) (h2 : P.info? e = some i) (h3 : i.zero = some z) (h4 : i.size = size) (h5 : i.bytes = bytes) (h6 : z.cells.size = size) (h7 : 0 < size)
    (v : Value) (n : Nat) (xs : List Value) (b : Nat) (hs : a.eval s = v) (hrow : Row size w v n xs (some b))
    (A : Addr) (m c : Nat) (news : List Value) (hx : ∃ sa, a.eval x = .slice sa m c ∧ (0 < m → sa = some A)) (hn : news.length = m * size) (hc : ∀ j u, news[j]? = some u → w.cell? (A.add j) = some u) (h1c : ∀ u ∈ news, u.oneCell' = true)
    (b1 : n + m ≤ maxLen) (b2 : (n + m) * bytes ≤ 140737488355328)
    (hK : ∀ v' w' g', Row size w' v' (n + m) (xs ++ news) (some g') → (g' = b ∨ w.heap.size ≤ g') → Fr (fun k => k = b) w w' → wpList P ops Q rest (a.put o.dst v') w') : wpList P ops Q (o :: rest) a w := by
  obtain ⟨sa, hx, hsa⟩ := hx
  rcases Nat.eq_zero_or_pos m with rfl | hm
  · obtain rfl : news = [] := List.eq_nil_of_length_eq_zero (by simpa using hn)
    exact wpList_row0 hg s x t hop e i size h1 h2 h4 v n xs b hs hrow sa c hx (hK v w b (by simpa using hrow) (.inl rfl) (Fr.refl _ _))
  · rw [hsa hm] at hx
    refine wpList_row hg s x t hop e i z size bytes h1 h2 h3 h4 h5 h6 h7 v n xs (some b) hs hrow A m c news hx hm hn hc h1c b1 b2 (fun v' w' g' hr hg' hF => hK v' w' g' hr (hg'.imp (fun h => (Option.some.inj h).symm) id) (hF.mono fun k hk => (Option.some.inj hk).symm))
end
end Go.Proofs.Ytbjhnefienjncaa.Bt
