/- A maze of 64 cells: spec.Reached. -/
import Derived.Test.YtbjhnefienjncaaBtMd
import Derived.Laws.BitsLemmas
import Derived.Deep.QuietTactic
import Derived.BigQuiet
namespace Go.Proofs.Ytbjhnefienjncaa.Bt.Mz
set_option linter.unusedVariables false
set_option linter.unusedSimpArgs false
open Go Go.RowKit Go.Proofs.Ytbjhnefienjncaa.Bt
open Go.Proofs.Ytbjhnefienjncaa.Bt.Last (Y Z)
open _root_.List (setIfInBounds_toArray set_cons_zero set_cons_succ)

/-- The wall's bit. -/
def wbit (W : Nat) (i : Nat) : Bool := decide (W / 2 ^ i % 2 = 1)
theorem wraps_u64 (n : Int) (h₀ : 0 ≤ n) (h₁ : n < 2 ^ 64) : IntKind.u64.wrap n = n := by
  simp [IntKind.wrap, IntKind.bits, IntKind.signed]; omega
theorem and_one (x : Nat) (h : x < 2 ^ 64) : bits .and .u64 (x : Int) 1 = ((x % 2 : Nat) : Int) := by
  have h1 := bits_mask .u64 64 (by decide) wraps_u64 1 (by decide) (x : Int) (by omega) (by exact_mod_cast h)
  rw [show ((2 : Int) ^ 1 - 1) = 1 from rfl] at h1
  rw [h1]; omega
/-- A cell of a block is written. -/
theorem bx_set {w : World} {b : Nat} {vs : List Value} (h : Bx w b vs) {j : Nat} (hj : j < vs.length) (v : Value) : Bx (w.setCell ⟨b, j, none⟩ v) b (vs.set j v) ∧ Fr (fun k => k = b) w (w.setCell ⟨b, j, none⟩ v) := by
  have hs : (M w b j).isSome = true := by rw [h.2 j _ (List.getElem?_eq_getElem hj)]; rfl
  have hf := Fr.setCell w b j v
  refine ⟨⟨Nat.lt_of_lt_of_le h.1 hf.size, fun i u hi => ?_⟩, hf⟩
  rw [M_setCell _ _ hs]
  rw [List.getElem?_set] at hi
  by_cases hij : j = i
  · rw [if_pos hij] at hi
    rw [if_pos ⟨rfl, hij.symm⟩]
    rw [if_pos (by omega)] at hi; exact hi
  · rw [if_neg hij] at hi
    rw [if_neg (fun h => hij h.2.symm)]
    exact h.2 i u hi

section
variable {P : Program} {ops : Array Oper} {o : Oper} {a : Act} {w : World} {Q : Exit → Act → World → Prop}
/-- append of at least one element to a row of the call's own, as a step of a region that draws its order. -/
theorem step_row {K : Act → World → Prop} {F : Prop} (hg : o.guard = none) (s x : Operand) (t : TypeId) (hop : o.op = Op.call { callee := Callee.builtin Builtin.append, args := #[s, x], argTypes := #[t, t] })
    (e : TypeId) (i : TypeInfo) (z : Value) (size bytes : Nat) (h1 : P.underlying t = some (.slice e)) (h2 : P.info? e = some i) (h3 : i.zero = some z) (h4 : i.size = size) (h5 : i.bytes = bytes) (h6 : z.cells.size = size) (h7 : 0 < size)
    (v : Value) (n : Nat) (xs : List Value) (g : Option Nat) (hs : a.eval s = v) (hrow : Row size w v n xs g)
    (ad : Addr) (m c : Nat) (news : List Value) (hx : a.eval x = .slice (some ad) m c) (hm : 0 < m) (hn : news.length = m * size) (hc : ∀ j u, news[j]? = some u → w.cell? (ad.add j) = some u) (h1c : ∀ u ∈ news, u.oneCell' = true)
    (b1 : n + m ≤ maxLen) (b2 : (n + m) * bytes ≤ 140737488355328)
    (hK : ∀ v' w' g', Row size w' v' (n + m) (xs ++ news) (some g') → (g = some g' ∨ w.heap.size ≤ g') → Fr (fun k => g = some k) w w' → K (a.put o.dst v') w') :
    if Region.wanted o (yielded ops a.tmps) = true then Oper.wp P o a w K Q else F := by
  obtain ⟨hl, hr⟩ := hrow
  rcases hr with ⟨rfl, rfl, rfl⟩ | ⟨b, cap, rfl, rfl, hcn, hcm, hb, hok⟩
  · obtain rfl : xs = [] := List.eq_nil_of_length_eq_zero (by simpa using hl)
    refine step_app hg s x t hop e i z size bytes h1 h2 h3 h4 h5 h6 h7 none 0 0 [] hs (fun _ => ⟨rfl, rfl⟩) (by simp) (fun b o hb => by cases hb) ad m c news hx hm hn hc h1c b1 b2 (fun v' w' happ => ?_)
    obtain ⟨g, gc, rfl, hg1, hg2, hgc, hok, _, hF⟩ := happ.fresh hm
    refine hK _ _ g ?_ (.inr hg1) (hF.mono (fun _ h => h.elim))
    rcases happ with ⟨_, _, hh, _⟩ | ⟨g', c', e1, _, _, _, hcm', _⟩
    · cases hh
    · rw [Nat.zero_add] at e1
      obtain ⟨_, rfl⟩ := sv_inj (ib := some (g', 0)) e1
      exact ⟨by rw [List.nil_append, hn, Nat.zero_add], .inr ⟨g, gc, rfl, by rw [Nat.zero_add]; rfl, by omega, hcm', hg2, by rw [List.nil_append]; exact hok⟩⟩
  · refine step_app hg s x t hop e i z size bytes h1 h2 h3 h4 h5 h6 h7 (some (b, 0)) n cap xs hs (fun h => by cases h) hl (fun b' o' hb' => by cases hb'; exact hok) ad m c news hx hm hn hc h1c b1 b2 (fun v' w' happ => ?_)
    obtain ⟨g', hrow', hg', hF⟩ := Row.of_app hl hn hb hcm hok happ
    refine hK v' w' g' hrow' (hg'.imp (fun h => by rw [h]) id) (hF.mono fun k hk => by rw [hk])
end

section
variable {P : Program} {ops : Array Oper} {o : Oper} {a : Act} {w : World} {Q : Exit → Act → World → Prop}
/-- A whole array is read. -/
theorem run_loadArr {t e : TypeId} {len b : Nat} {vs : List Value} (hu : P.underlying t = some (.array len e)) (hi : (P.info? t).map (·.size) = some vs.length) (hb : Bx w b vs) : (loadVar t ⟨b, 0, none⟩).run P w = .ok (.agg vs.toArray) w := by
  have hl := run_loadCells_list (P := P) w ⟨b, 0, none⟩ vs (fun j v hv => by rw [Addr.add_lit, Nat.zero_add]; exact hb.cell j hv)
  cases hq : P.info? t with
  | none => rw [hq] at hi; cases hi
  | some i =>
    rw [hq] at hi
    have hi' : i.size = vs.length := Option.some.inj hi
    rw [← hi'] at hl
    simp [loadVar, isAgg, run_underlying hu, sizeOf, typeInfo, hq, hl]
theorem setCells_bx {b : Nat} : ∀ (vs : List Value) (o : Nat) (w : World) (L : List Value), Bx w b L → o + vs.length ≤ L.length → ∃ L', Bx (w.setCells b o vs) b L' ∧ Fr (fun k => k = b) w (w.setCells b o vs) ∧ L'.length = L.length ∧ (∀ i, i < o → L'[i]? = L[i]?) ∧ ∀ i, i < vs.length → L'[o + i]? = vs[i]?
  | [], o, w, L, h, _ => ⟨L, h, Fr.refl _ _, rfl, fun _ _ => rfl, fun i hi => by simp at hi⟩
  | v :: r, o, w, L, h, hl => by
    simp only [List.length_cons] at hl
    obtain ⟨h1, h2⟩ := bx_set h (j := o) (by omega) v
    obtain ⟨L', g1, g2, g3, g4, g5⟩ := setCells_bx r (o + 1) _ _ h1 (by rw [List.length_set]; omega)
    refine ⟨L', g1, h2.trans g2 (fun _ hi => .inl hi), by rw [g3, List.length_set], fun i hi => ?_, fun i hi => ?_⟩
    · rw [g4 i (by omega), List.getElem?_set_ne (by omega)]
    · cases i with
      | zero => rw [Nat.add_zero, g4 o (by omega), List.getElem?_set_self (by omega)]; rfl
      | succ i =>
        simp only [List.length_cons] at hi
        have := g5 i (by omega)
        rw [show o + 1 + i = o + (i + 1) by omega] at this
        rw [this]; rfl
theorem setCells_all {b : Nat} {vs L : List Value} (h : Bx w b L) (hl : L.length = vs.length) : Bx (w.setCells b 0 vs) b vs ∧ Fr (fun k => k = b) w (w.setCells b 0 vs) := by
  obtain ⟨L', g1, g2, g3, _, g5⟩ := setCells_bx vs 0 w L h (by omega)
  have e : L' = vs := List.ext_getElem? fun i => by
    by_cases hi : i < vs.length
    · have := g5 i hi; rwa [Nat.zero_add] at this
    · rw [List.getElem?_eq_none (by omega), List.getElem?_eq_none (by omega)]
  rw [e] at g1
  exact ⟨g1, g2⟩
theorem run_storeArr {t : TypeId} {b : Nat} {vs L : List Value} (hi : (P.info? t).map (·.size) = some vs.length) (hb : Bx w b L) (hl : L.length = vs.length) (h1 : ∀ v ∈ vs, v.oneCell' = true) : (storeVar t ⟨b, 0, none⟩ (.agg vs.toArray)).run P w = .ok () (w.setCells b 0 vs) := by
  have hst := run_storeCells_cells (P := P) b 0 vs 0 w (fun j hj => by
    have := hb.cell j (List.getElem?_eq_getElem (by omega : j < L.length))
    simp only [Nat.zero_add]; rw [this]; rfl) (fun j hj => by
    have := hb.froz j (List.getElem?_eq_getElem (by omega : j < L.length))
    simp only [Nat.zero_add]; exact this) h1
  cases hq : P.info? t with
  | none => rw [hq] at hi; cases hi
  | some i =>
    rw [hq] at hi
    have hi' : i.size = vs.length := Option.some.inj hi
    simp [storeVar, sizeOf, typeInfo, hq, hi', Value.cells, hst]
theorem wpList_ldArr {rest : List Oper} (hg : o.guard = none) (x : Operand) (t : TypeId) (hop : o.op = Op.load t x) (b : Nat) (hx : a.eval x = .pointer (some ⟨b, 0, none⟩)) {e : TypeId} {len : Nat} {vs : List Value} (hu : P.underlying t = some (.array len e)) (hi : (P.info? t).map (·.size) = some vs.length) (hb : Bx w b vs)
    (hK : wpList P ops Q rest (a.put o.dst (.agg vs.toArray)) w) : wpList P ops Q (o :: rest) a w := by
  have hl := run_loadArr hu hi hb
  refine wpList_plain hg fun K hK' => ?_
  unfold Oper.wp
  simp only [execOp, hop, hx]
  simp [Instr.loadAt, Instr.sureAddr, Sem.run_bind, Result.andThen, hl]
  exact hK' _ _ hK
theorem wpList_stArr {rest : List Oper} (hg : o.guard = none) (x y : Operand) (t : TypeId) (hop : o.op = Op.store t x y) (b : Nat) (hx : a.eval x = .pointer (some ⟨b, 0, none⟩)) {vs L : List Value} (hy : a.eval y = .agg vs.toArray) (hi : (P.info? t).map (·.size) = some vs.length) (hb : Bx w b L) (hl : L.length = vs.length) (h1 : ∀ v ∈ vs, v.oneCell' = true)
    (hd : o.dst = none) (hK : wpList P ops Q rest a (w.setCells b 0 vs)) : wpList P ops Q (o :: rest) a w := by
  have hs := run_storeArr (P := P) hi hb hl h1
  refine wpList_plain hg fun K hK' => ?_
  unfold Oper.wp
  simp only [execOp, hop, hx, hy]
  simp [Instr.storeAt, Instr.sureAddr, Sem.run_bind, Result.andThen, hs]
  exact hK' _ _ (by rw [hd]; exact hK)
theorem results_cell1 {fn : Func} {p : Tmp} {ty : TypeId} (h : fn.results = #[.cell p ty]) (tmps : Array Value) (P : Program) (w : World) :
    (results fn tmps).run P w = ((asAddr (tmps.getD p undef)).run P w).andThen fun a w₁ => (loadVar ty a).run P w₁ := by
  simp only [results, h]
  simp [Sem.run_bind, Result.andThen]
end

variable {w : World}
/-- The distances, in the call's own block. -/
structure FR (w wr : World) (ob fb : Nat) (far : List Nat) : Prop where
  bx : Bx wr fb (nv far)
  out : Bx wr ob (List.replicate 65 (.slice none 0 0))
  ne : ob ≠ fb
  ge : w.heap.size ≤ ob ∧ w.heap.size ≤ fb
  below : Below w.heap.size w wr
theorem FR.put {wr : World} {ob fb : Nat} {far : List Nat} (h : FR w wr ob fb far) {i x : Nat} (hi : i < far.length) : FR w (wr.setCell ⟨fb, i, none⟩ (.int .i64 x)) ob fb (far.set i x) := by
  have hs := bx_set h.bx (j := i) (by unfold nv; rw [List.length_map]; exact hi) (.int .i64 (x : Int))
  have e : (nv far).set i (.int .i64 (x : Int)) = nv (far.set i x) := by unfold nv; rw [List.map_set]
  rw [e] at hs
  exact ⟨hs.1, h.out.keep hs.2 h.ne, h.ne, h.ge, h.below.trans (hs.2.below h.below.size (fun k hk => by rw [hk]; exact h.ge.2))⟩
theorem FR.call {wr w2 : World} {ob fb : Nat} {far : List Nat} (h : FR w wr ob fb far) (hb : Below wr.heap.size wr w2) : FR w w2 ob fb far := by
  have hf : Fr (fun k => wr.heap.size ≤ k) wr w2 := ⟨hb.os, hb.tape, hb.output, hb.size, fun k hk _ => hb.block k hk, fun k hk => bty_eq (hb.block k hk)⟩
  exact ⟨h.bx.keep hf (fun e => absurd h.bx.1 (Nat.not_lt.2 e)), h.out.keep hf (fun e => absurd h.out.1 (Nat.not_lt.2 e)), h.ne, h.ge, h.below.trans (hb.mono h.below.size)⟩
theorem FR.cell {wr : World} {ob fb : Nat} {far : List Nat} (h : FR w wr ob fb far) {i : Nat} (hi : i < far.length) : wr.cell? ⟨fb, i, none⟩ = some (.int .i64 (far.getD i 0 : Nat)) ∧ wr.frozen? ⟨fb, i, none⟩ = false := by
  have e : (nv far)[i]? = some (.int .i64 (far.getD i 0 : Nat)) := by
    unfold nv
    rw [List.getElem?_map, List.getElem?_eq_getElem hi, List.getD_eq_getElem?_getD, List.getElem?_eq_getElem hi]; rfl
  exact ⟨h.bx.cell i e, h.bx.froz i e⟩

theorem zero65 : Try.zeroCells26 = (List.replicate 65 (Value.slice none 0 0)).toArray := by kernel_rfl
theorem FR.start (w : World) (cs : Array Value) (hcs : cs = (nv (List.replicate 64 0)).toArray) : FR w ((w.alloc (.cells Try.zeroCells26 26)).alloc (.cells cs 64)) w.heap.size (w.heap.size + 1) (List.replicate 64 0) := by
  have h1 := Bx.new (w.alloc (.cells Try.zeroCells26 26)) (nv (List.replicate 64 0)) 64
  rw [← hcs, World.size_alloc] at h1
  have h0 := Bx.new w (List.replicate 65 (Value.slice none 0 0)) 26
  rw [← zero65] at h0
  exact ⟨h1, h0.alloc _, by omega, ⟨Nat.le_refl _, by omega⟩, ((Below.refl _ _).alloc (Nat.le_refl _) _).alloc (by rw [World.size_alloc]; omega) _⟩
theorem rep_set {j : Nat} (hj : j < 64) : (List.replicate j 100 ++ List.replicate (64 - j) 0).set j 100 = List.replicate (j + 1) 100 ++ List.replicate (64 - (j + 1)) 0 := by
  rw [List.set_append_right _ _ (by simp), List.length_replicate, Nat.sub_self]
  have e : 64 - j = (64 - (j + 1)) + 1 := by omega
  rw [e, List.replicate_succ, List.set_cons_zero, List.replicate_succ']
  simp

theorem FR.drewN {wr : World} {ob fb : Nat} {far : List Nat} (h : FR w wr ob fb far) (n : Nat) : FR w (wr.drewN n) ob fb far := h.call ⟨rfl, rfl, rfl, Nat.le_refl _, fun _ _ => rfl⟩
theorem foldl_take {α β : Type} (f : β → α → β) (b : β) {l : List α} {i : Nat} {x : α} (h : l[i]? = some x) : (l.take (i + 1)).foldl f b = f ((l.take i).foldl f b) x := by
  rw [List.take_add_one, h]; simp [List.foldl_append]
theorem cells_succ (wall : Nat → Bool) (far : List Nat) (k : Nat) : cells wall far (k + 1) = cell wall (cells wall far k) k := by unfold cells; rw [List.range_succ, List.foldl_append]; rfl
/-- While a cell's neighbours are looked at. -/
structure IR (w wr : World) (ob fb : Nat) (wall : Nat → Bool) (f : Nat) (u : Value) (l : List Nat) (g : Option Nat) (far : List Nat) : Prop where
  fr : FR w wr ob fb far
  ok : Ok wall f far
  row : Row 1 wr u l.length (nv l) g
  ne : ∀ b, g = some b → b ≠ fb
theorem IR.drewN {wr : World} {ob fb : Nat} {wall : Nat → Bool} {f : Nat} {u : Value} {l : List Nat} {g : Option Nat} {far : List Nat} (h : IR w wr ob fb wall f u l g far) (n : Nat) : IR w (wr.drewN n) ob fb wall f u l g far := ⟨h.fr.drewN n, h.ok, h.row.drewN n, h.ne⟩
theorem IR.stay {wr : World} {ob fb : Nat} {wall : Nat → Bool} {f c d : Nat} {u : Value} {l : List Nat} {g : Option Nat} {far : List Nat} (h : IR w wr ob fb wall f u l g far) (hn : ¬ (wall c = false ∧ far.getD d 0 + 1 < far.getD c 0)) (n : Nat) : IR w (wr.drewN n) ob fb wall f u l g (relax wall c far d) := by
  unfold relax; rw [if_neg hn]; exact h.drewN n
theorem IR.put {wr : World} {ob fb : Nat} {wall : Nat → Bool} {f c d : Nat} {u : Value} {l : List Nat} {g : Option Nat} {far : List Nat} (h : IR w wr ob fb wall f u l g far) (hc : c < 64) (hd : d ∈ nb c) (hy : wall c = false ∧ far.getD d 0 + 1 < far.getD c 0) (n : Nat) : IR w ((wr.drewN n).setCell ⟨fb, c, none⟩ (.int .i64 ((far.getD d 0 : Nat) + 1 : Int))) ob fb wall f u l g (relax wall c far d) := by
  have h1 := (relax_ok h.ok hc hd).1
  have e : relax wall c far d = far.set c (far.getD d 0 + 1) := by unfold relax; rw [if_pos hy]
  rw [e] at h1 ⊢
  have hl := h.ok.len
  exact ⟨by have := (h.fr.drewN n).put (i := c) (x := far.getD d 0 + 1) (by omega); rwa [Int.natCast_add] at this, h1, (h.row.drewN n).keep (Fr.setCell _ _ _ _) h.ne, h.ne⟩
/-- The cells of a distance, of the first j. -/
def rws (F : List Nat) (j k : Nat) : List Nat := (List.range j).filter fun c => F.getD c 0 == k
theorem rws_succ (F : List Nat) (j k : Nat) : rws F (j + 1) k = rws F j k ++ (if F.getD j 0 = k then [j] else []) := by
  unfold rws
  rw [List.range_succ, List.filter_append]
  by_cases h : F.getD j 0 = k
  · rw [if_pos h, List.filter_cons_of_pos (by simpa using h)]; rfl
  · rw [if_neg h, List.filter_cons_of_neg (by simpa using h)]; rfl
theorem rws_len (F : List Nat) (j k : Nat) : (rws F j k).length ≤ j := by
  have := List.length_filter_le (fun c => F.getD c 0 == k) (List.range j)
  rw [List.length_range] at this; exact this
/-- The rows of cells by distance. -/
structure OR (w wr : World) (ob fb xb : Nat) (F : List Nat) (j : Nat) (vs : List Value) (gs : Nat → Option Nat) : Prop where
  fr : FR w wr ob fb F
  lt : ob < xb ∧ fb < xb
  len : vs.length = 65
  bx : Bx wr xb vs
  row : ∀ k v, vs[k]? = some v → Row 1 wr v (rws F j k).length (nv (rws F j k)) (gs k)
  far : ∀ k b, gs k = some b → xb < b
  ne : ∀ k k' b, gs k = some b → gs k' = some b → k = k'
  dom : ∀ k b, gs k = some b → k < 65
theorem FR.keep {wr w2 : World} {ob fb : Nat} {far : List Nat} (h : FR w wr ob fb far) {S : Nat → Prop} (hf : Fr S wr w2) (h1 : ¬ S ob) (h2 : ¬ S fb) (h3 : ∀ k, S k → w.heap.size ≤ k) : FR w w2 ob fb far :=
  ⟨h.bx.keep hf h2, h.out.keep hf h1, h.ne, h.ge, h.below.trans (hf.below h.below.size h3)⟩
theorem fr_of {w w2 : World} (hb : Below w.heap.size w w2) : Fr (fun k => w.heap.size ≤ k) w w2 := ⟨hb.os, hb.tape, hb.output, hb.size, fun k hk _ => hb.block k hk, fun k hk => bty_eq (hb.block k hk)⟩
theorem OR.drewN {wr : World} {ob fb xb : Nat} {F : List Nat} {j : Nat} {vs : List Value} {gs : Nat → Option Nat} (h : OR w wr ob fb xb F j vs gs) (n : Nat) : OR w (wr.drewN n) ob fb xb F j vs gs :=
  ⟨h.fr.drewN n, h.lt, h.len, h.bx.drewN n, fun k v hk => (h.row k v hk).drewN n, h.far, h.ne, h.dom⟩
theorem OR.skip {wr : World} {ob fb xb : Nat} {F : List Nat} {j : Nat} {vs : List Value} {gs : Nat → Option Nat} (h : OR w wr ob fb xb F j vs gs) (hx : ¬ F.getD j 0 < 65) : OR w wr ob fb xb F (j + 1) vs gs :=
  ⟨h.fr, h.lt, h.len, h.bx, fun k v hk => by
    have hk65 := (List.getElem?_eq_some_iff.1 hk).1
    have hl := h.len
    rw [rws_succ, if_neg (by omega), List.append_nil]; exact h.row k v hk, h.far, h.ne, h.dom⟩
theorem OR.put {wr wd w1 : World} {ob fb xb : Nat} {F : List Nat} {j x : Nat} {vs : List Value} {gs : Nat → Option Nat} {v2 : Value} {g2 : Nat} (h : OR w wr ob fb xb F j vs gs) (hx : F.getD j 0 = x) (hx65 : x < 65)
    (hB : Below wr.heap.size wr wd) (hF : Fr (fun k => gs x = some k) wd w1) (hr : Row 1 w1 v2 ((rws F j x).length + 1) (nv (rws F j x) ++ [.int .i64 j]) (some g2)) (hg : gs x = some g2 ∨ wd.heap.size ≤ g2) :
    OR w (w1.setCell ⟨xb, x, none⟩ v2) ob fb xb F (j + 1) (vs.set x v2) (fun k => if k = x then some g2 else gs k) := by
  have hl := h.len
  have hs := hB.size
  have hw := h.fr.below.size
  have hge := h.fr.ge
  have hxl := h.bx.1
  have hlt := h.lt
  have bx1 : Bx w1 xb vs := (h.bx.keep (fr_of hB) (fun e => absurd h.bx.1 (Nat.not_lt.2 e))).keep hF (fun e => by have := h.far _ _ e; omega)
  have hs2 := bx_set bx1 (j := x) (by omega) v2
  have fr1 : FR w w1 ob fb F := (h.fr.call hB).keep hF (fun e => by have := h.far _ _ e; omega) (fun e => by have := h.far _ _ e; omega) (fun k e => by have := h.far _ _ e; omega)
  have hg2 : xb < g2 := by
    rcases hg with e | e
    · exact h.far _ _ e
    · omega
  have hrl : ∀ k b, gs k = some b → b < wr.heap.size := fun k b e => by
    have hk := h.dom _ _ e
    have hr := h.row k _ (List.getElem?_eq_getElem (by omega))
    rw [e] at hr
    exact hr.lt
  refine ⟨fr1.keep hs2.2 (by omega) (by omega) (fun k e => by omega), h.lt, by rw [List.length_set]; exact hl, hs2.1, fun k v hk => ?_, fun k b e => ?_, fun k k' b e e' => ?_, fun k b e => ?_⟩
  · rw [rws_succ, hx]
    rw [List.getElem?_set] at hk
    by_cases hkx : x = k
    · subst hkx
      rw [if_pos rfl, if_pos (by omega)] at hk
      obtain rfl := Option.some.inj hk
      rw [if_pos rfl, if_pos rfl, List.length_append]
      show Row 1 _ _ _ (List.map _ _) _
      rw [List.map_append]
      exact hr.keep hs2.2 (fun b e => by have := Option.some.inj e; omega)
    · rw [if_neg hkx] at hk
      rw [if_neg hkx, List.append_nil, if_neg (fun e => hkx e.symm)]
      have hr0 := h.row k v hk
      refine ((hr0.keep (fr_of hB) (fun b e h' => ?_)).keep hF (fun b e h' => ?_)).keep hs2.2 (fun b e h' => ?_)
      · have := hrl k b e; omega
      · exact hkx (h.ne _ _ _ h' e)
      · have := h.far k b e; omega
  · by_cases hkx : k = x
    · rw [if_pos hkx] at e; have := Option.some.inj e; omega
    · rw [if_neg hkx] at e; exact h.far _ _ e
  · have key : ∀ k, k ≠ x → gs k = some g2 → False := fun k hk e => by
      rcases hg with e2 | e2
      · exact hk (h.ne _ _ _ e e2)
      · have := hrl k g2 e; omega
    by_cases hkx : k = x
    · rw [if_pos hkx] at e
      by_cases hkx' : k' = x
      · rw [hkx, hkx']
      · rw [if_neg hkx', ← Option.some.inj e] at e'
        exact (key _ hkx' e').elim
    · rw [if_neg hkx] at e
      by_cases hkx' : k' = x
      · rw [if_pos hkx', ] at e'
        rw [← Option.some.inj e'] at e
        exact (key _ hkx e).elim
      · rw [if_neg hkx'] at e'
        exact h.ne _ _ _ e e'
  · by_cases hkx : k = x
    · omega
    · rw [if_neg hkx] at e; exact h.dom _ _ e
theorem OR.start {wr : World} {ob fb : Nat} {F : List Nat} (h : FR w wr ob fb F) : OR w (wr.alloc (.cells Try.zeroCells26 26)) ob fb wr.heap.size F 0 (List.replicate 65 (.slice none 0 0)) (fun _ => none) := by
  have h0 := Bx.new wr (List.replicate 65 (Value.slice none 0 0)) 26
  rw [← zero65] at h0
  refine ⟨h.call ((Below.refl _ _).alloc (Nat.le_refl _) _), ⟨h.out.1, h.bx.1⟩, List.length_replicate, h0, fun k v hk => ?_, fun k b e => (by cases e), fun k k' b e => (by cases e), fun k b e => (by cases e)⟩
  rw [List.getElem?_replicate] at hk
  split at hk
  · obtain rfl := Option.some.inj hk
    exact Row.nil _ _
  · cases hk
theorem bit_one {W i : Nat} (hW : W < 2 ^ 64) (h : wbit W i = true) : bits .and .u64 ((W : Int) / 2 ^ i) 1 = 1 := by
  have h1 := and_one (W / 2 ^ i) (Nat.lt_of_le_of_lt (Nat.div_le_self _ _) hW)
  rw [of_decide_eq_true h] at h1
  rw [Int.natCast_ediv, Int.natCast_pow] at h1
  exact h1.trans rfl
theorem bit_zero {W i : Nat} (hW : W < 2 ^ 64) (h : wbit W i = false) : bits .and .u64 ((W : Int) / 2 ^ i) 1 = 0 := by
  have h1 := and_one (W / 2 ^ i) (Nat.lt_of_le_of_lt (Nat.div_le_self _ _) hW)
  have h2 := of_decide_eq_false h
  rw [show W / 2 ^ i % 2 = 0 by omega] at h1
  rw [Int.natCast_ediv, Int.natCast_pow] at h1
  exact h1.trans rfl

set_option maxHeartbeats 8000000 in
set_option maxRecDepth 100000 in
/-- 'Reached' -/
theorem reached_is {W f : Nat} (hW : W < 2 ^ 64) (hf : f < 256) : Calls Try.prog 10 #[.int .u64 W, .int .u8 f] w (fun e w' => ∃ vs : List Value, e = .returned (.agg vs.toArray) ∧ vs.length = 65 ∧ (∀ k v, vs[k]? = some v → Ints w' v ((layer (wbit W) (f % 64) k).map fun n : Nat => (n : Int))) ∧ Below w.heap.size w w') := by
  have HST := hidp (FR.start w)
  obtain ⟨ob, hob⟩ : ∃ ob, ob = w.heap.size := ⟨_, rfl⟩
  obtain ⟨fb, hfb⟩ : ∃ fb, fb = w.heap.size + 1 := ⟨_, rfl⟩
  rw [← hfb, ← hob] at HST
  go_enter Try.func10, Try.ntmps10
  go_wp2
  rw [← hfb, ← hob]
  clear hob hfb
  go_loopw [12] (fun i wr => ∃ j : Nat, j ≤ 64 ∧ i = .int .i64 j ∧ Hid (FR w wr ob fb (List.replicate j 100 ++ List.replicate (64 - j) 0))) (fun i _ => 64 - (intOf i).toNat)
  case atStart => exact ⟨0, by decide, rfl, hidp (HST.out _ (by kernel_rfl))⟩
  case round =>
    rename World => w1
    clear HST
    obtain ⟨j, hj, rfl, HR⟩ := hrel
    by_cases hlt : j < 64
    · have jlt : (j : Int) < 64 := by omega
      have jl0 : (0 : Int) ≤ (j : Int) := by omega
      have hlen : (List.replicate j 100 ++ List.replicate (64 - j) 0).length = 64 := by simp; omega
      obtain ⟨c1, c2⟩ := HR.out.cell (i := j) (by omega)
      have c3 := HR.out.bx.1
      have hput := HR.out.put (i := j) (x := 100) (by omega)
      rw [rep_set hlt] at hput
      have HN := hidp hput
      clear hput hlen HR
      go_wp2
      go_roundw
      case rel => exact ⟨j + 1, by omega, by go_num, HN⟩
      case measure => simp [intOf]; omega
    · obtain rfl : j = 64 := by omega
      have hR := HR.out
      rw [show 64 - 64 = 0 from rfl, List.replicate_zero, List.append_nil] at hR
      have HR1 := hidp hR
      clear hR HR
      have HOK := hidp (start_ok (wall := wbit W) (f := f % 64) (Nat.mod_lt _ (by decide)))
      go_upto_if 23 with (fail)
      go_cut [12] from 24 to 26 (fun _ wx => Hid (FR w wx ob fb (start (wbit W) (f % 64))))
      case first =>
        cases hb : wbit W (f % 64) with
        | true =>
          have hbit := bit_one hW hb
          have HN : Hid (FR w w1 ob fb (start (wbit W) (f % 64))) := hidp (by unfold start; rw [hb]; exact HR1.out)
          clear hb
          go_wp2
          go_meet
          exact HN
        | false =>
          have hbit := bit_zero hW hb
          have HN : Hid (FR w (w1.setCell ⟨fb, f % 64, none⟩ (.int .i64 0)) ob fb (start (wbit W) (f % 64))) := hidp (by unfold start; rw [if_pos hb]; exact HR1.out.put (by rw [List.length_replicate]; exact Nat.mod_lt _ (by decide)))
          obtain ⟨c1, c2⟩ := HR1.out.cell (i := f % 64) (by rw [List.length_replicate]; exact Nat.mod_lt _ (by decide))
          have hlt : (f : Int) % 64 < 64 := by omega
          have hge : 0 ≤ (f : Int) % 64 := by omega
          have hfe : ((f : Int) % 64).toNat = f % 64 := by omega
          have c3 := HR1.out.bx.1
          clear hb
          go_wp2
          go_meet
          exact HN
      case rest =>
        clear HR1
        have HC := hidp hcut
        obtain ⟨S0, hS0⟩ : ∃ S0, S0 = start (wbit W) (f % 64) := ⟨_, rfl⟩
        rw [← hS0] at HC HOK
        have HS0 := hidp hS0
        clear hcut hS0
        go_wp2
        go_loopw [27] (fun i wr => ∃ n : Nat, n ≤ 64 ∧ i = .int .i64 n ∧ Hid (FR w wr ob fb (rounds (wbit W) S0 n))) (fun i _ => 64 - (intOf i).toNat)
        case atStart => exact ⟨0, by decide, rfl, HC⟩
        case round =>
          rename World => w2
          clear HC
          obtain ⟨n, hn, rfl, HR2⟩ := hrel
          by_cases nlt' : n < 64
          · have nlt : (n : Int) < 64 := by omega
            have HO2 := hidp (rounds_ok HOK.out n)
            obtain ⟨S2, hS2⟩ : ∃ S2, S2 = rounds (wbit W) S0 n := ⟨_, rfl⟩
            have HN2 : Hid (∀ T, T = cells (wbit W) S2 64 → T = rounds (wbit W) S0 (n + 1)) := hidp (by intro T hT; rw [hT, hS2]; rfl)
            rw [← hS2] at HR2 HO2
            clear hS2
            go_wp2
            go_loopw [29] (fun i wr => ∃ k : Nat, k ≤ 64 ∧ i = .int .i64 k ∧ Hid (FR w wr ob fb (cells (wbit W) S2 k))) (fun i _ => 64 - (intOf i).toNat)
            case atStart => exact ⟨0, by decide, rfl, HR2⟩
            case round =>
              rename World => w3
              clear HR2
              obtain ⟨k, hk, rfl, HR3⟩ := hrel
              by_cases klt' : k < 64
              · have klt : (k : Int) < 64 := by omega
                have kge : (0 : Int) ≤ (k : Int) := by omega
                have HO3 := hidp (cells_ok HO2.out k (by omega)).1
                obtain ⟨S3, hS3⟩ : ∃ S3, S3 = cells (wbit W) S2 k := ⟨_, rfl⟩
                have HN3 : Hid (∀ T, T = cell (wbit W) S3 k → T = cells (wbit W) S2 (k + 1)) := hidp (by intro T hT; rw [hT, hS3, cells_succ])
                rw [← hS3] at HR3 HO3
                clear hS3
                have HBS := hidp (beside_is w3 klt')
                go_wp2_with fail
                refine HBS.out.mono ?_
                rintro e w4 ⟨u, g, rfl, hrow, hg, hb4⟩
                have HI := hidp (IR.mk (HR3.out.call hb4) HO3.out hrow (fun b hb e => by
                  have h1 := hg b hb
                  have h2 := HR3.out.bx.1
                  omega))
                obtain ⟨au, cu, rfl⟩ := hrow.len
                have hnb : (nb k).length ≤ 4 := by
                  unfold nb
                  simp only [List.length_append]
                  have a1 := one_le (8 ≤ k) (k - 8)
                  have a2 := one_le (0 < k % 8) (k - 1)
                  have a3 := one_le (k % 8 < 7) (k + 1)
                  have a4 := one_le (k < 56) (k + 8)
                  omega
                clear hrow hg hb4 HBS HO3 HR3
                go_wp2
                go_loopw [35] (fun i wr => ∃ q : Nat, q ≤ (nb k).length ∧ i = .int .i64 q ∧ Hid (IR w wr ob fb (wbit W) (f % 64) (.slice au (nb k).length cu) (nb k) g (((nb k).take q).foldl (relax (wbit W) k) S3))) (fun i _ => (nb k).length - (intOf i).toNat)
                case atStart => exact ⟨0, Nat.zero_le _, rfl, HI⟩
                case round =>
                  rename World => w5
                  clear HI
                  obtain ⟨q, hq, rfl, HR5⟩ := hrel
                  by_cases qlt' : q < (nb k).length
                  · have qlt : (q : Int) < ((nb k).length : Int) := by omega
                    obtain ⟨d, hd⟩ : ∃ d, (nb k)[q]? = some d := ⟨_, List.getElem?_eq_getElem qlt'⟩
                    have hdm : d ∈ nb k := List.mem_iff_getElem?.2 ⟨q, hd⟩
                    have d64 := nb_lt k klt' d hdm
                    have dlt : (d : Int) < 64 := by omega
                    have dge : (0 : Int) ≤ (d : Int) := by omega
                    have HNX : Hid (∀ T, T = relax (wbit W) k (((nb k).take q).foldl (relax (wbit W) k) S3) d → T = ((nb k).take (q + 1)).foldl (relax (wbit W) k) S3) := hidp (by intro T hT; rw [hT, foldl_take _ _ hd])
                    obtain ⟨S5, hS5⟩ : ∃ S5, S5 = ((nb k).take q).foldl (relax (wbit W) k) S3 := ⟨_, rfl⟩
                    rw [← hS5] at HR5 HNX
                    have hlen := HR5.out.ok.len
                    obtain ⟨a', cap', ev, _, hau, _, hcell⟩ := HR5.out.row.cut
                    injection ev with e1 e2 e3
                    subst e1; subst e3
                    obtain rfl := hau (by omega)
                    have crow := hcell q (.int .i64 d) (by rw [List.getElem?_map, hd]; rfl)
                    obtain ⟨cd, cdf⟩ := HR5.out.fr.cell (i := d) (by omega)
                    obtain ⟨ck, ckf⟩ := HR5.out.fr.cell (i := k) (by omega)
                    have hxle := HR5.out.ok.le d d64
                    have c3 := HR5.out.fr.bx.1
                    have HDM := hidp hdm
                    have HD := hidp d64
                    clear hS5 hau hcell hd hdm d64
                    cases hb : wbit W k with
                    | true =>
                      have hbit := bit_one hW hb
                      have HNN := hidp (fun n => HR5.out.stay (c := k) (d := d) (by rw [hb]; rintro ⟨h, _⟩; cases h) n)
                      clear hb
                      go_wp2
                      go_quiet (fail)
                      go_wp2
                      go_roundw
                      case rel => exact ⟨q + 1, by omega, by go_num, hidp (by rw [← HNX.out _ rfl]; exact HNN.out _)⟩
                      case measure => simp [intOf]; omega
                    | false =>
                      have hbit := bit_zero hW hb
                      have HST1 := hidp (fun hn n => HR5.out.stay (c := k) (d := d) hn n)
                      have HPT1 := hidp (fun hy n => HR5.out.put (c := k) (d := d) klt' HDM.out hy n)
                      have hbk := hidp hb
                      clear hb
                      generalize S5.getD d 0 = x at *
                      generalize S5.getD k 0 = y at *
                      have hwr : IntKind.i64.wrap ((x : Int) + 1) = (x : Int) + 1 := by rw [Last.i64_w, IntWalk.wrap64_in _ ⟨by omega, by omega⟩]
                      by_cases hxy : x + 1 < y
                      · have hdc : decide ((x : Int) + 1 < (y : Int)) = true := by simp; omega
                        have HNN := hidp (fun n => HPT1.out ⟨hbk.out, hxy⟩ n)
                        go_wp2
                        go_quiet (fail)
                        go_wp2
                        go_roundw
                        case rel => exact ⟨q + 1, by omega, by go_num, hidp (by rw [← HNX.out _ rfl]; exact HNN.out _)⟩
                        case measure => simp [intOf]; omega
                      · have hdc : decide ((x : Int) + 1 < (y : Int)) = false := by simp; omega
                        have HNN := hidp (fun n => HST1.out (fun h => hxy h.2) n)
                        go_wp2
                        go_quiet (fail)
                        go_wp2
                        go_roundw
                        case rel => exact ⟨q + 1, by omega, by go_num, hidp (by rw [← HNX.out _ rfl]; exact HNN.out _)⟩
                        case measure => simp [intOf]; omega
                  · obtain rfl : q = (nb k).length := by omega
                    rw [List.take_length] at HR5
                    have HN := hidp HR5.out.fr
                    clear HR5
                    go_wp2
                    go_roundw
                    case rel => exact ⟨k + 1, by omega, by go_num, hidp (by rw [← HN3.out _ rfl]; exact HN.out)⟩
                    case measure => simp [intOf]; omega
              · obtain rfl : k = 64 := by omega
                go_wp2
                go_roundw
                case rel => exact ⟨n + 1, by omega, by go_num, hidp (by rw [← HN2.out _ rfl]; exact HR3.out)⟩
                case measure => simp [intOf]; omega
          · have hn64 : n = 64 := by omega
            have nlt : ¬ (n : Int) < 64 := by omega
            rw [hn64] at HR2
            have HO2 := hidp (rounds_ok HOK.out 64)
            obtain ⟨F, hFq⟩ : ∃ F, F = rounds (wbit W) S0 64 := ⟨_, rfl⟩
            rw [← hFq] at HR2 HO2
            have HFQ := hidp hFq
            have HO0 := hidp (OR.start HR2.out)
            clear hFq HR2 HOK hn hn64
            go_wp2
            obtain ⟨xb, hxb⟩ : ∃ xb, xb = w2.heap.size := ⟨_, rfl⟩
            rw [← hxb] at HO0 ⊢
            clear hxb
            go_loopw [63] (fun i wr => ∃ j : Nat, ∃ vs gs, j ≤ 64 ∧ i = .int .i64 j ∧ Hid (OR w wr ob fb xb F j vs gs)) (fun i _ => 64 - (intOf i).toNat)
            case atStart => exact ⟨0, _, _, by decide, rfl, HO0⟩
            case round =>
              rename World => w3
              clear HO0
              obtain ⟨j, vs, gs, hj, rfl, HR⟩ := hrel
              by_cases jlt' : j < 64
              · have jlt : (j : Int) < 64 := by omega
                have jge : (0 : Int) ≤ (j : Int) := by omega
                have hxle := HO2.out.le j jlt'
                have hlen := HO2.out.len
                have hfl := HR.out.fr.bx.1
                have hxl := HR.out.bx.1
                obtain ⟨cd, cdf⟩ := HR.out.fr.cell (i := j) (by omega)
                obtain ⟨x, hx⟩ : ∃ x, F.getD j 0 = x := ⟨_, rfl⟩
                rw [hx] at cd hxle
                have HX := hidp hx
                by_cases hx65 : x < 65
                · have xlt : (x : Int) < 65 := by omega
                  have xge : (0 : Int) ≤ (x : Int) := by omega
                  have hvl := HR.out.len
                  obtain ⟨v, hv⟩ : ∃ v, vs[x]? = some v := ⟨_, List.getElem?_eq_getElem (by omega)⟩
                  have cv := HR.out.bx.cell x hv
                  have cvf := HR.out.bx.froz x hv
                  have HROW := hidp (HR.out.row x v hv)
                  have hrl := rws_len F j x
                  obtain ⟨av, cpv, hve⟩ := HROW.out.len
                  subst hve
                  clear hv hx hvl
                  obtain ⟨i0, hi0, hz0, hz1, hz2⟩ := info_parts infoN
                  have HI0 := hidp hi0
                  have HZ0 := hidp hz0
                  have HZ1 := hidp hz1
                  have HZ2 := hidp hz2
                  clear hi0 hz0 hz1 hz2
                  go_wp2_with fail
                  have HLT := hidp (And.intro hfl hxl)
                  have hnefx : ¬ fb = xb := by have := HR.out.lt; omega
                  have hnexf : ¬ xb = fb := fun h => hnefx h.symm
                  refine Last.start_ (S := (fun w' => w'.cell? ⟨fb, j, none⟩ = some (.int .i64 x) ∧ w'.cell? ⟨xb, x, none⟩ = some (.slice av (rws F j x).length cpv))) (ds := [12]) #[Z,Z,Z,Z,Z,Z,Z,Z,Z,Z,Z,Z,Z] (by rfl) (by rfl) (by rfl) ?_ (fun hHeld => ?_)
                  · go_keep
                  refine Last.tk 0 70 #[Y,Z,Z,Z,Z,Z,Z,Z,Z,Z,Z,Z,Z] rfl rfl hHeld ?_
                  refine Last.tk 1 71 #[Y,Y,Z,Z,Z,Z,Z,Z,Z,Z,Z,Z,Z] rfl rfl hHeld ?_
                  refine Last.tk 2 72 #[Y,Y,Y,Z,Z,Z,Z,Z,Z,Z,Z,Z,Z] rfl rfl hHeld ?_
                  refine Last.tk 3 73 #[Y,Y,Y,Y,Z,Z,Z,Z,Z,Z,Z,Z,Z] rfl rfl hHeld ?_
                  refine Last.tk 4 74 #[Y,Y,Y,Y,Y,Z,Z,Z,Z,Z,Z,Z,Z] rfl rfl hHeld ?_
                  refine Last.tk 5 75 #[Y,Y,Y,Y,Y,Y,Z,Z,Z,Z,Z,Z,Z] rfl rfl hHeld ?_
                  refine Last.tk 6 76 #[Y,Y,Y,Y,Y,Y,Y,Z,Z,Z,Z,Z,Z] rfl rfl hHeld ?_
                  refine Last.tk 7 77 #[Y,Y,Y,Y,Y,Y,Y,Y,Z,Z,Z,Z,Z] rfl rfl hHeld ?_
                  refine Last.tk 8 78 #[Y,Y,Y,Y,Y,Y,Y,Y,Y,Z,Z,Z,Z] rfl rfl hHeld ?_
                  refine Last.one_ (i := 9) (N := some 79) #[Y,Y,Y,Y,Y,Y,Y,Y,Y,Y,Z,Z,Z] rfl rfl (by kernel_rfl) (by decide) (fun K hK => ?_)
                  go_simp
                  refine hK.out _ _ ?_ (fun hHeld => ?_)
                  · go_keep
                  clear hK K
                  try simp only [Act.put, setIfInBounds_toArray, set_cons_zero, set_cons_succ]
                  refine Last.one_ (i := 10) (N := some 80) #[Y,Y,Y,Y,Y,Y,Y,Y,Y,Y,Y,Z,Z] rfl rfl (by kernel_rfl) (by decide) (fun K hK => ?_)
                  refine step_row (by rfl) _ _ _ (by rfl) 3 i0 _ 1 8 Try.underlying23 HI0.out HZ0.out HZ1.out HZ2.out (by rfl) (by decide) (.slice av (rws F j x).length cpv) (rws F j x).length (nv (rws F j x)) (gs x) (by rfl) (HROW.out.alloc _).drew ⟨w3.heap.size, 0, none⟩ 1 1 [.int .i64 (j : Int)] (by simp [Act.eval]) (by decide) (by rfl) (fun q u hq => by rw [Addr.add_lit, Nat.zero_add]; exact ((Bx.new w3 [.int .i64 (j : Int)] 3).drewN 1).cell q hq) (by simp [Value.oneCell']) (by unfold maxLen; omega) (by omega) ?_
                  intro v7 w7 g7 hr7 hg7 hF7
                  have hbw : Below w3.heap.size w3 (w3.alloc (.cells #[.int .i64 (j : Int)] 3)).drew := ((Below.refl _ _).alloc (Nat.le_refl _) _).drew
                  have H7 := hidp (And.intro hr7 (And.intro hg7 (And.intro hF7 hbw)))
                  have m0 : w7.cell? ⟨fb, j, none⟩ = some (.int .i64 x) := (hF7.cell (x := ⟨fb, j, none⟩) (by have h1 := HLT.out.1; have h2 := hbw.size; show fb < _; omega) (fun h => by have h1 := HR.out.far _ _ h; have h2 : xb < fb := h1; have := HR.out.lt; omega)).trans ((hbw.cell (p := ⟨fb, j, none⟩) HLT.out.1).trans cd)
                  have m1 : w7.cell? ⟨xb, x, none⟩ = some (.slice av (rws F j x).length cpv) := (hF7.cell (x := ⟨xb, x, none⟩) (by have h1 := HLT.out.2; have h2 := hbw.size; show xb < _; omega) (fun h => by have h1 := HR.out.far _ _ h; have h2 : xb < xb := h1; omega)).trans ((hbw.cell (p := ⟨xb, x, none⟩) HLT.out.2).trans cv)
                  have m2 : w7.frozen? ⟨xb, x, none⟩ = false := ((((HR.out.bx.keep (fr_of hbw) (fun e => absurd HLT.out.2 (Nat.not_lt.2 e))).keep hF7 (fun e => by have h1 := HR.out.far _ _ e; omega))).froz x (List.getElem?_eq_getElem (by have := HR.out.len; omega)))
                  obtain ⟨a7, c7, hv7⟩ := hr7.len
                  subst hv7
                  clear hr7 hg7 hF7 hbw
                  refine hK.out _ _ ⟨m0, m1⟩ (fun hHeld => ?_)
                  clear hK K
                  try simp only [Act.put, setIfInBounds_toArray, set_cons_zero, set_cons_succ]
                  refine Last.tk 11 81 #[Y,Y,Y,Y,Y,Y,Y,Y,Y,Y,Y,Y,Z] rfl rfl hHeld ?_
                  refine Last.last_ (i := 12) (N := none) #[Y,Y,Y,Y,Y,Y,Y,Y,Y,Y,Y,Y,Y] rfl rfl (by kernel_rfl) (by decide) (fun K hK => ?_)
                  go_simp
                  refine hK.out _ _ ?_
                  clear hK K
                  try simp only [Act.put, setIfInBounds_toArray, set_cons_zero, set_cons_succ]
                  refine Last.done_ (by kernel_rfl) ?_
                  have HN := hidp (HR.out.put HX.out hx65 H7.out.2.2.2 H7.out.2.2.1 H7.out.1 H7.out.2.1)
                  go_wp2
                  go_roundw
                  case rel => exact ⟨j + 1, _, _, by omega, by go_num, HN⟩
                  case measure => simp [intOf]; omega
                · have xlt : ¬ (x : Int) < 65 := by omega
                  have HN := hidp (HR.out.skip (by rw [HX.out]; exact hx65))
                  go_wp2
                  go_roundw
                  case rel => exact ⟨j + 1, _, _, by omega, by go_num, HN⟩
                  case measure => simp [intOf]; omega
              · obtain rfl : j = 64 := by omega
                have hvl := HR.out.len
                have hone : ∀ v ∈ vs, v.oneCell' = true := fun v hv => by
                  obtain ⟨k, hk⟩ := List.mem_iff_getElem?.1 hv
                  obtain ⟨a, c, rfl⟩ := (HR.out.row k v hk).len
                  rfl
                have hout := setCells_all HR.out.fr.out (vs := vs) (by rw [List.length_replicate, hvl])
                have HON := hidp hone
                have HOUT := hidp hout
                clear hone hout
                go_wp2_with first
                  | (refine wpList_ldArr rfl (.tmp 10) 26 rfl xb rfl Try.underlying26 (by rw [hvl]; kernel_rfl) HR.out.bx ?_)
                  | (refine wpList_stArr rfl (.tmp 4) (.tmp 83) 26 rfl ob rfl (vs := vs) (L := List.replicate 65 (.slice none 0 0)) rfl (by rw [hvl]; kernel_rfl) HR.out.fr.out (by rw [List.length_replicate, hvl]) HON.out rfl ?_)
                refine bodyPost_ret (v := .agg vs.toArray) ?_ rfl ?_
                · rw [results_cell1 rfl]
                  have hld := run_loadArr (P := Try.prog) Try.underlying26 (by rw [HR.out.len]; kernel_rfl) HOUT.out.1
                  show ((asAddr (Value.pointer (some ⟨ob, 0, none⟩))).run Try.prog _).andThen (fun a w₁ => (loadVar 26 a).run Try.prog w₁) = _
                  simp [asAddr, Result.andThen, hld]
                · refine ⟨vs, rfl, HR.out.len, fun k v hk => ?_, HR.out.fr.below.trans (HOUT.out.2.below HR.out.fr.below.size (fun k hk => by rw [hk]; exact HR.out.fr.ge.1))⟩
                  have hrow := (HR.out.row k v hk).keep HOUT.out.2 (fun b e h => by have h1 := HR.out.far _ _ e; have := HR.out.lt; omega)
                  have e : layer (wbit W) (f % 64) k = rws F 64 k := by unfold layer rws dist; rw [HFQ.out, HS0.out]
                  rw [e]
                  refine Row.sls (f := Value.int .i64) (g := gs k) ?_
                  rw [List.length_map, List.map_map]
                  exact hrow
end Go.Proofs.Ytbjhnefienjncaa.Bt.Mz
