/- The nodes of a map as records, and what one statement of the program makes of them in memory. -/
import Derived.Test.YtbjhnefienjncaaBtMem
namespace Go.Proofs.Ytbjhnefienjncaa.Bt
set_option linter.unusedVariables false
set_option linter.unusedSimpArgs false
open Go Go.RowKit

/-- The children of a node: where the list's header and its array lie, and the blocks of the children. -/
structure KidR where
  hdr : Nat
  base : Option (Nat × Nat)
  cap : Nat
  kids : List (Option Nat)
structure NodeR (I : Type) where
  iso : Int
  count : Int
  items : List I
  ib : Option (Nat × Nat)
  icap : Nat
  kids : Option KidR
structure MapR where
  iso : Int
  ctr : Option Addr
  root : Option Nat
  count : Int
  mn : Int
  mx : Int
/-- How an item lies in cells. -/
structure Enc (I : Type) where
  enc : I → List Value
  sz : Nat
  ty : TypeId
  mty : TypeId
  z : List Value
  len : ∀ i, (enc i).length = sz
  zlen : z.length = sz
  pos : 0 < sz
  one : ∀ i v, v ∈ enc i → v.oneCell' = true
structure Sto (I : Type) where
  m : Nat
  mp : MapR
  nd : Nat → Option (NodeR I)
inductive Part where | node | items | hdr | arr
  deriving DecidableEq
inductive Tag where | mp | of (n : Nat) (p : Part)
  deriving DecidableEq

section
variable {I : Type} (E : Enc I)

def mapCells (r : MapR) : List Value := [.int .u64 r.iso, .pointer r.ctr, pv r.root, .int .i64 r.count] ++ E.z ++ [.int .i64 r.mn, .int .i64 r.mx, .bool false, .bool false]
def nodeCells (r : NodeR I) : List Value := [.int .u64 r.iso, .int .i64 r.count, sv r.ib r.items.length r.icap, pv (r.kids.map (·.hdr))]
def itemCells (l : List I) : List Value := l.flatMap E.enc

def chunkN (n : Nat) (r : NodeR I) : Part → Option Ch
  | .node => some ⟨n, 0, 4, nodeCells r⟩
  | .items => r.ib.map fun p => ⟨p.1, p.2, r.icap * E.sz, itemCells E r.items⟩
  | .hdr => r.kids.map fun k => ⟨k.hdr, 0, 1, [sv k.base k.kids.length k.cap]⟩
  | .arr => r.kids.bind fun k => k.base.map fun p => ⟨p.1, p.2, k.cap, k.kids.map pv⟩
def chunk (s : Sto I) : Tag → Option Ch
  | .mp => some ⟨s.m, 0, E.sz + 8, mapCells E s.mp⟩
  | .of n p => (s.nd n).bind fun r => chunkN E n r p

/-- A nil list has nothing. -/
def NodeR.wf (r : NodeR I) : Prop := (r.ib = none → r.items = [] ∧ r.icap = 0) ∧ (∀ k, r.kids = some k → k.base = none → k.kids = [] ∧ k.cap = 0) ∧ r.items.length ≤ r.icap ∧ (∀ k, r.kids = some k → k.kids.length ≤ k.cap)
/-- The types of the blocks: the items' arrays, the map's. -/
def TyS (w : World) (s : Sto I) : Prop := bty w s.m = some E.mty ∧ ∀ n r, s.nd n = some r → ∀ p, r.ib = some p → bty w p.1 = some E.ty
structure RepS (S : Nat → Prop) (w : World) (s : Sto I) : Prop where
  rep : Rep S w (chunk E s)
  wf : ∀ n r, s.nd n = some r → r.wf
  ty : TyS E w s

def Sto.setNd (s : Sto I) (n : Nat) (r : NodeR I) : Sto I := { s with nd := fun k => if k = n then some r else s.nd k }
def Sto.setMp (s : Sto I) (r : MapR) : Sto I := { s with mp := r }

theorem Sto.nd_setNd (s : Sto I) (n k : Nat) (r : NodeR I) : (s.setNd n r).nd k = if k = n then some r else s.nd k := rfl
theorem Sto.nd_same (s : Sto I) (n : Nat) (r : NodeR I) : (s.setNd n r).nd n = some r := if_pos rfl
theorem Sto.nd_ne (s : Sto I) {n k : Nat} (r : NodeR I) (h : k ≠ n) : (s.setNd n r).nd k = s.nd k := if_neg h
theorem Sto.mp_setNd (s : Sto I) (n : Nat) (r : NodeR I) : (s.setNd n r).mp = s.mp := rfl
theorem Sto.m_setNd (s : Sto I) (n : Nat) (r : NodeR I) : (s.setNd n r).m = s.m := rfl
theorem Sto.nd_setMp (s : Sto I) (r : MapR) : (s.setMp r).nd = s.nd := rfl
theorem Sto.mp_setMp (s : Sto I) (r : MapR) : (s.setMp r).mp = r := rfl
theorem Sto.m_setMp (s : Sto I) (r : MapR) : (s.setMp r).m = s.m := rfl

theorem chunk_of {s : Sto I} {n : Nat} {r : NodeR I} (h : s.nd n = some r) (p : Part) : chunk E s (.of n p) = chunkN E n r p := by simp [chunk, h]
theorem chunk_same (s : Sto I) (n : Nat) (r : NodeR I) (p : Part) : chunk E (s.setNd n r) (.of n p) = chunkN E n r p := by simp [chunk, Sto.setNd]
theorem chunk_ne (s : Sto I) {n : Nat} (r : NodeR I) {t : Tag} (h : ∀ p, t ≠ .of n p) : chunk E (s.setNd n r) t = chunk E s t := by
  cases t with
  | mp => rfl
  | of k p =>
    have hk : k ≠ n := fun e => h p (by rw [e])
    simp only [chunk, Sto.nd_ne s r hk]

variable {E} {S : Nat → Prop} {w w' : World} {s : Sto I}

theorem itemCells_length (l : List I) : (itemCells E l).length = l.length * E.sz := by
  induction l with
  | nil => simp [itemCells]
  | cons x l ih =>
    have h : itemCells E (x :: l) = E.enc x ++ itemCells E l := rfl
    rw [h, List.length_append, ih, E.len, List.length_cons, Nat.add_mul]; omega
theorem itemCells_append (l m : List I) : itemCells E (l ++ m) = itemCells E l ++ itemCells E m := by simp [itemCells]
theorem itemCells_get (l : List I) : ∀ (i : Nat) (x : I), l[i]? = some x → ∀ j, j < E.sz → (itemCells E l)[i * E.sz + j]? = (E.enc x)[j]? := by
  induction l with
  | nil => intro i x h; cases h
  | cons y l ih =>
    intro i x h j hj
    have hc : itemCells E (y :: l) = E.enc y ++ itemCells E l := rfl
    cases i with
    | zero =>
      obtain rfl : y = x := by simpa using h
      rw [hc, List.getElem?_append_left (by rw [E.len]; omega)]; congr 1; omega
    | succ i =>
      rw [hc, List.getElem?_append_right (by rw [E.len, Nat.add_mul]; omega), E.len]
      rw [show (i + 1) * E.sz + j - E.sz = i * E.sz + j by rw [Nat.add_mul]; omega]
      exact ih i x (by simpa using h) j hj
/-- What stands in the cells of a list, by the item. -/
theorem itemCells_at {l : List I} {k : Nat} {v : Value} (h : (itemCells E l)[k]? = some v) : ∃ x, l[k / E.sz]? = some x ∧ (E.enc x)[k % E.sz]? = some v := by
  have hlt := (List.getElem?_eq_some_iff.1 h).1
  rw [itemCells_length] at hlt
  have hd : k / E.sz < l.length := Nat.div_lt_of_lt_mul (by rw [Nat.mul_comm]; exact hlt)
  refine ⟨l[k / E.sz], List.getElem?_eq_getElem hd, ?_⟩
  have := itemCells_get (E := E) l (k / E.sz) _ (List.getElem?_eq_getElem hd) (k % E.sz) (Nat.mod_lt _ E.pos)
  rw [show k / E.sz * E.sz + k % E.sz = k by rw [Nat.mul_comm]; exact Nat.div_add_mod k E.sz] at this
  rw [← this]; exact h

/-! ### what the cells hold -/
theorem RepS.node (R : RepS E S w s) {n : Nat} {r : NodeR I} (hn : s.nd n = some r) : Bx w n (nodeCells r) := by
  have h := R.rep.ok (.of n .node) ⟨n, 0, 4, nodeCells r⟩ (by rw [chunk_of E hn]; rfl)
  refine ⟨M_lt' (by have := h.some 0 (by show (0 : Nat) < 4; omega); exact this), fun j v hv => ?_⟩
  have := h.val j v hv
  simpa using this
theorem RepS.map (R : RepS E S w s) : Bx w s.m (mapCells E s.mp) := by
  have h := R.rep.ok .mp ⟨s.m, 0, E.sz + 8, mapCells E s.mp⟩ rfl
  refine ⟨M_lt' (by have := h.some 0 (by show (0 : Nat) < E.sz + 8; omega); exact this), fun j v hv => ?_⟩
  have := h.val j v hv
  simpa using this
theorem RepS.hdr (R : RepS E S w s) {n : Nat} {r : NodeR I} (hn : s.nd n = some r) {k : KidR} (hk : r.kids = some k) : Bx w k.hdr [sv k.base k.kids.length k.cap] := by
  have h := R.rep.ok (.of n .hdr) ⟨k.hdr, 0, 1, [sv k.base k.kids.length k.cap]⟩ (by rw [chunk_of E hn]; simp [chunkN, hk])
  refine ⟨M_lt' (by have := h.some 0 (by show (0 : Nat) < 1; omega); exact this), fun j v hv => ?_⟩
  have := h.val j v hv
  simpa using this
theorem RepS.items (R : RepS E S w s) {n : Nat} {r : NodeR I} (hn : s.nd n = some r) {b o : Nat} (hb : r.ib = some (b, o)) : (⟨b, o, r.icap * E.sz, itemCells E r.items⟩ : Ch).Ok w :=
  R.rep.ok (.of n .items) _ (by rw [chunk_of E hn]; simp [chunkN, hb])
theorem RepS.arr (R : RepS E S w s) {n : Nat} {r : NodeR I} (hn : s.nd n = some r) {k : KidR} (hk : r.kids = some k) {b o : Nat} (hb : k.base = some (b, o)) : (⟨b, o, k.cap, k.kids.map pv⟩ : Ch).Ok w :=
  R.rep.ok (.of n .arr) _ (by rw [chunk_of E hn]; simp [chunkN, hk, hb])
/-- A cell of an item. -/
theorem RepS.item (R : RepS E S w s) {n : Nat} {r : NodeR I} (hn : s.nd n = some r) {b o : Nat} (hb : r.ib = some (b, o)) {i : Nat} {x : I} (hx : r.items[i]? = some x) {j : Nat} {v : Value} (hv : (E.enc x)[j]? = some v) : M w b (o + (i * E.sz + j)) = some v := by
  refine (R.items hn hb).val (i * E.sz + j) v ?_
  have hj : j < E.sz := by have := (List.getElem?_eq_some_iff.1 hv).1; rwa [E.len] at this
  show (itemCells E r.items)[i * E.sz + j]? = some v
  rw [itemCells_get r.items i x hx j hj]; exact hv
/-- A child. -/
theorem itemCells_one (l : List I) : ∀ v ∈ itemCells E l, v.oneCell' = true := fun v hv => by
  obtain ⟨x, _, h⟩ := List.mem_flatMap.1 hv
  exact E.one x v h
/-- What is read from a list of items from number a on. -/
theorem RepS.src_items (R : RepS E S w s) {n : Nat} {r : NodeR I} (hn : s.nd n = some r) {b o : Nat} (hb : r.ib = some (b, o)) {a : Nat} {l m : List I} (h : r.items.drop a = l ++ m) (ha : a ≤ r.items.length) {j : Nat} {v : Value} (hv : (itemCells E l)[j]? = some v) : M w b (o + a * E.sz + j) = some v := by
  have hok := R.items hn hb
  have h1 : itemCells E r.items = itemCells E (r.items.take a) ++ (itemCells E l ++ itemCells E m) := by rw [← itemCells_append, ← itemCells_append, ← h, List.take_append_drop]
  have h2 : (itemCells E r.items)[a * E.sz + j]? = some v := by
    rw [h1, List.getElem?_append_right (by rw [itemCells_length, List.length_take]; rw [Nat.min_eq_left ha]; omega), itemCells_length, List.length_take, Nat.min_eq_left ha, Nat.add_sub_cancel_left,
      List.getElem?_append_left (by have := List.getElem?_eq_some_iff.1 hv; exact this.1)]
    exact hv
  rw [Nat.add_assoc]
  exact hok.val _ _ h2
theorem RepS.dst_items (R : RepS E S w s) {n : Nat} {r : NodeR I} (hn : s.nd n = some r) {b o : Nat} (hb : r.ib = some (b, o)) {j : Nat} (hj : j < r.icap * E.sz) : (M w b (o + j)).isSome = true := (R.items hn hb).some j hj
theorem Sto.setNd_again (s : Sto I) (n : Nat) (r q : NodeR I) : (s.setNd n r).setNd n q = s.setNd n q := by
  unfold Sto.setNd
  congr 1
  funext k
  by_cases h : k = n <;> simp [h]
theorem RepS.kid (R : RepS E S w s) {n : Nat} {r : NodeR I} (hn : s.nd n = some r) {k : KidR} (hk : r.kids = some k) {b o : Nat} (hb : k.base = some (b, o)) {i : Nat} {p : Option Nat} (hp : k.kids[i]? = some p) : M w b (o + i) = some (pv p) := by
  refine (R.arr hn hk hb).val i (pv p) ?_
  show (k.kids.map pv)[i]? = _
  rw [List.getElem?_map, hp]; rfl
theorem RepS.ib_some (R : RepS E S w s) {n : Nat} {r : NodeR I} (hn : s.nd n = some r) (h : r.items ≠ []) : ∃ b o, r.ib = some (b, o) := by
  cases hb : r.ib with
  | none => exact absurd ((R.wf n r hn).1 hb).1 h
  | some p => exact ⟨p.1, p.2, rfl⟩
theorem RepS.kb_some (R : RepS E S w s) {n : Nat} {r : NodeR I} (hn : s.nd n = some r) {k : KidR} (hk : r.kids = some k) (h : k.kids ≠ []) : ∃ b o, k.base = some (b, o) := by
  cases hb : k.base with
  | none => exact absurd ((R.wf n r hn).2.1 k hk hb).1 h
  | some p => exact ⟨p.1, p.2, rfl⟩

/-! ### blocks -/
theorem RepS.inS_node (R : RepS E S w s) {n : Nat} {r : NodeR I} (hn : s.nd n = some r) : S n := R.rep.ins (.of n .node) ⟨n, 0, 4, nodeCells r⟩ (by rw [chunk_of E hn]; rfl)
theorem RepS.inS_map (R : RepS E S w s) : S s.m := R.rep.ins .mp ⟨s.m, 0, E.sz + 8, mapCells E s.mp⟩ rfl
theorem RepS.node_ne_map (R : RepS E S w s) {n : Nat} {r : NodeR I} (hn : s.nd n = some r) : ¬ n = s.m := fun e =>
  R.rep.off (.of n .node) .mp ⟨n, 0, 4, nodeCells r⟩ ⟨s.m, 0, E.sz + 8, mapCells E s.mp⟩ (by simp) (by rw [chunk_of E hn]; rfl) rfl n 0 ⟨rfl, Nat.le_refl _, by show 0 < 0 + 4; omega⟩ ⟨e, Nat.le_refl _, by show 0 < 0 + (E.sz + 8); omega⟩
theorem RepS.inS_hdr (R : RepS E S w s) {n : Nat} {r : NodeR I} (hn : s.nd n = some r) {k : KidR} (hk : r.kids = some k) : S k.hdr :=
  R.rep.ins (.of n .hdr) ⟨k.hdr, 0, 1, [sv k.base k.kids.length k.cap]⟩ (by rw [chunk_of E hn]; simp [chunkN, hk])
theorem RepS.hdr_ne_node (R : RepS E S w s) {n : Nat} {r : NodeR I} (hn : s.nd n = some r) {k : KidR} (hk : r.kids = some k) {m : Nat} {q : NodeR I} (hm : s.nd m = some q) : ¬ k.hdr = m := fun e =>
  R.rep.off (.of n .hdr) (.of m .node) ⟨k.hdr, 0, 1, [sv k.base k.kids.length k.cap]⟩ ⟨m, 0, 4, nodeCells q⟩ (by simp) (by rw [chunk_of E hn]; simp [chunkN, hk]) (by rw [chunk_of E hm]; rfl) k.hdr 0 ⟨rfl, Nat.le_refl _, by show 0 < 0 + 1; omega⟩ ⟨e, Nat.le_refl _, by show 0 < 0 + 4; omega⟩
theorem RepS.inS_items (R : RepS E S w s) {n : Nat} {r : NodeR I} (hn : s.nd n = some r) {b o : Nat} (hb : r.ib = some (b, o)) : S b :=
  R.rep.ins (.of n .items) ⟨b, o, r.icap * E.sz, itemCells E r.items⟩ (by rw [chunk_of E hn]; simp [chunkN, hb])
theorem RepS.inS_arr (R : RepS E S w s) {n : Nat} {r : NodeR I} (hn : s.nd n = some r) {k : KidR} (hk : r.kids = some k) {b o : Nat} (hb : k.base = some (b, o)) : S b :=
  R.rep.ins (.of n .arr) ⟨b, o, k.cap, k.kids.map pv⟩ (by rw [chunk_of E hn]; simp [chunkN, hk, hb])

theorem RepS.tyf (R : RepS E S w s) {S1 : Nat → Prop} (hf : Fr S1 w w') : TyS E w' s :=
  ⟨(hf.ty _ (R.rep.lt _ R.inS_map)).trans R.ty.1, fun n r hn p hp => (hf.ty _ (R.rep.lt _ (R.inS_items hn (b := p.1) (o := p.2) hp))).trans (R.ty.2 n r hn p hp)⟩
theorem TyS.set (h : TyS E w s) {n : Nat} {r : NodeR I} (hr : ∀ p, r.ib = some p → bty w p.1 = some E.ty) : TyS E w (s.setNd n r) := ⟨h.1, fun k q hq p hp => by
  rw [Sto.nd_setNd] at hq
  split at hq
  · obtain rfl := Option.some.inj hq; exact hr p hp
  · exact h.2 k q hq p hp⟩
theorem RepS.keep (R : RepS E S w s) {S1 : Nat → Prop} (hf : Fr S1 w w') (hd : ∀ i, S i → ¬ S1 i) : RepS E S w' s := ⟨R.rep.keep hf hd, R.wf, R.tyf hf⟩
theorem RepS.drew (R : RepS E S w s) : RepS E S w.drew s := ⟨R.rep.drew, R.wf, R.ty⟩
theorem RepS.drewN (R : RepS E S w s) (n : Nat) : RepS E S (w.drewN n) s := ⟨R.rep.drewN n, R.wf, R.ty⟩
theorem RepS.alloc (R : RepS E S w s) (x : Obj) : RepS E S (w.alloc x) s := ⟨R.rep.alloc x, R.wf, R.tyf ((Fr.refl (fun _ => False) w).alloc x)⟩
theorem RepS.upd_out (R : RepS E S w s) {b o : Nat} {vs : List Value} (hu : Upd w w' b o vs) (hb : ¬ S b) : RepS E S w' s := ⟨R.rep.upd_out hu hb, R.wf, R.tyf hu.fr⟩
theorem RepS.wf_set (R : RepS E S w s) {n : Nat} {r : NodeR I} (h : r.wf) : ∀ k q, (s.setNd n r).nd k = some q → q.wf := fun k q hq => by
  rw [Sto.nd_setNd] at hq
  split at hq
  · obtain rfl := Option.some.inj hq; exact h
  · exact R.wf k q hq

/-! ### stores -/
/-- One chunk of a node has been written; the others are as they were. -/
theorem RepS.store (R : RepS E S w s) {n : Nat} {r r' : NodeR I} (hn : s.nd n = some r) (hw : r'.wf) {p : Part} {c : Ch} (hc : chunkN E n r p = some c) {b o j : Nat} {vs : List Value} (hu : Upd w w' b o vs) (hb : b = c.b) (ho : o = c.o + j) (hj : j + vs.length ≤ c.cap)
    {vals' : List Value} (hc' : chunkN E n r' p = some ⟨c.b, c.o, c.cap, vals'⟩) (hG : ∀ q, q ≠ p → chunkN E n r' q = chunkN E n r q) (hlen : vals'.length ≤ c.cap)
    (hv : ∀ i u, vals'[i]? = some u → (j ≤ i ∧ i < j + vs.length ∧ vs[i - j]? = some u) ∨ (¬ (j ≤ i ∧ i < j + vs.length) ∧ c.vals[i]? = some u)) : RepS E S w' (s.setNd n r') := by
  refine ⟨R.rep.store (x := .of n p) (c := c) (by rw [chunk_of E hn]; exact hc) hu hb ho hj (vals' := vals') (by rw [chunk_same]; exact hc') (fun t ht => ?_) hlen hv, R.wf_set hw, (R.tyf hu.fr).set fun q hq => ?_⟩
  rotate_left
  · have key : ∃ d, chunkN E n r .items = some d ∧ d.b = q.1 := by
      by_cases hp : p = .items
      · subst hp
        refine ⟨c, hc, ?_⟩
        simp only [chunkN, hq, Option.map_some, Option.some.injEq, Ch.mk.injEq] at hc'
        exact hc'.1.symm
      · have := hG .items (fun e => hp e.symm)
        refine ⟨_, this.symm.trans (by simp only [chunkN, hq, Option.map_some]; rfl), rfl⟩
    obtain ⟨d, hd, hdb⟩ := key
    cases hib : r.ib with
    | none => simp [chunkN, hib] at hd
    | some q' =>
      simp only [chunkN, hib, Option.map_some, Option.some.injEq] at hd
      rw [← hdb, ← hd]
      exact (R.tyf hu.fr).2 n r hn q' hib
  by_cases h : ∃ q, t = .of n q
  · obtain ⟨q, rfl⟩ := h
    rw [chunk_same, chunk_of E hn]
    exact hG q (fun e => ht (by rw [e]))
  · exact chunk_ne E s r' (fun q e => h ⟨q, e⟩)

theorem set_vals {l : List Value} {j : Nat} (hj : j < l.length) (v : Value) : ∀ i u, (l.set j v)[i]? = some u → (j ≤ i ∧ i < j + [v].length ∧ [v][i - j]? = some u) ∨ (¬ (j ≤ i ∧ i < j + [v].length) ∧ l[i]? = some u) := fun i u hi => by
  by_cases h : j = i
  · subst h
    rw [List.getElem?_set_self hj] at hi
    exact .inl ⟨Nat.le_refl _, by simp, by rw [Nat.sub_self]; exact hi⟩
  · rw [List.getElem?_set_ne h] at hi
    exact .inr ⟨by simp only [List.length_cons, List.length_nil]; omega, hi⟩

/-- 'n.count = c' -/
theorem RepS.set_count (R : RepS E S w s) {n : Nat} {r : NodeR I} (hn : s.nd n = some r) (c : Int) (hu : Upd w w' n 1 [.int .i64 c]) : RepS E S w' (s.setNd n { r with count := c }) :=
  R.store hn (R.wf n r hn) (p := .node) (c := ⟨n, 0, 4, nodeCells r⟩) rfl hu rfl rfl (by simp) (vals' := nodeCells { r with count := c }) rfl
    (fun q hq => by cases q <;> first | exact absurd rfl hq | rfl) (by simp [nodeCells]) (set_vals (l := nodeCells r) (j := 1) (by simp [nodeCells]) _)
/-- 'n.isoid = i' -/
theorem RepS.set_iso (R : RepS E S w s) {n : Nat} {r : NodeR I} (hn : s.nd n = some r) (c : Int) (hu : Upd w w' n 0 [.int .u64 c]) : RepS E S w' (s.setNd n { r with iso := c }) :=
  R.store hn (R.wf n r hn) (p := .node) (c := ⟨n, 0, 4, nodeCells r⟩) rfl hu rfl rfl (by simp) (vals' := nodeCells { r with iso := c }) rfl
    (fun q hq => by cases q <;> first | exact absurd rfl hq | rfl) (by simp [nodeCells]) (set_vals (l := nodeCells r) (j := 0) (by simp [nodeCells]) _)

/-- A run of items is written over. -/
theorem splice_vals {l m : List I} {a : Nat} (h : a + m.length ≤ l.length) : ∀ i u, (itemCells E (l.take a ++ m ++ l.drop (a + m.length)))[i]? = some u →
    (a * E.sz ≤ i ∧ i < a * E.sz + (itemCells E m).length ∧ (itemCells E m)[i - a * E.sz]? = some u) ∨ (¬ (a * E.sz ≤ i ∧ i < a * E.sz + (itemCells E m).length) ∧ (itemCells E l)[i]? = some u) := by
  intro i u hi
  have hl : itemCells E l = itemCells E (l.take a) ++ itemCells E ((l.drop a).take m.length) ++ itemCells E (l.drop (a + m.length)) := by
    rw [← itemCells_append, ← itemCells_append, List.append_assoc]
    congr 1
    conv => lhs; rw [← List.take_append_drop a l]
    congr 1
    rw [← List.drop_drop]
    exact (List.take_append_drop _ _).symm
  have la : (itemCells E (l.take a)).length = a * E.sz := by rw [itemCells_length, List.length_take, Nat.min_eq_left (by omega)]
  have lm : (itemCells E m).length = (itemCells E ((l.drop a).take m.length)).length := by
    rw [itemCells_length, itemCells_length, List.length_take, List.length_drop, Nat.min_eq_left (by omega)]
  rw [itemCells_append, itemCells_append] at hi
  by_cases h1 : i < a * E.sz
  · refine .inr ⟨by omega, ?_⟩
    rw [List.append_assoc, List.getElem?_append_left (by omega)] at hi
    rw [hl, List.append_assoc, List.getElem?_append_left (by omega)]; exact hi
  · by_cases h2 : i < a * E.sz + (itemCells E m).length
    · refine .inl ⟨by omega, h2, ?_⟩
      rw [List.append_assoc, List.getElem?_append_right (by omega), List.getElem?_append_left (by omega), la] at hi
      exact hi
    · refine .inr ⟨by omega, ?_⟩
      rw [List.getElem?_append_right (by rw [List.length_append]; omega)] at hi
      rw [hl, List.getElem?_append_right (by rw [List.length_append]; omega)]
      rw [List.length_append] at hi ⊢
      rw [← lm]; exact hi
/-- 'copy(n.items[a:], ..)', 'n.items[a] = x': m.length items from a on. -/
theorem RepS.set_items (R : RepS E S w s) {n : Nat} {r : NodeR I} (hn : s.nd n = some r) {b o : Nat} (hb : r.ib = some (b, o)) {a : Nat} (m : List I) (ha : a + m.length ≤ r.items.length) {off : Nat} (ho : off = o + a * E.sz)
    (hu : Upd w w' b off (itemCells E m)) : RepS E S w' (s.setNd n { r with items := r.items.take a ++ m ++ r.items.drop (a + m.length) }) := by
  have hw := R.wf n r hn
  have hl : (r.items.take a ++ m ++ r.items.drop (a + m.length)).length = r.items.length := by
    rw [List.length_append, List.length_append, List.length_take, List.length_drop, Nat.min_eq_left (by omega)]; omega
  have hsz : r.items.length * E.sz ≤ r.icap * E.sz := Nat.mul_le_mul_right _ hw.2.2.1
  refine R.store hn ⟨(fun h => absurd (hb.symm.trans h) (by simp)), hw.2.1, (by show (r.items.take a ++ m ++ r.items.drop (a + m.length)).length ≤ _; rw [hl]; exact hw.2.2.1), hw.2.2.2⟩ (p := .items) (c := ⟨b, o, r.icap * E.sz, itemCells E r.items⟩) (by simp [chunkN, hb]) hu rfl ho ?_
    (vals' := itemCells E (r.items.take a ++ m ++ r.items.drop (a + m.length))) (by simp [chunkN, hb]) (fun q hq => ?_) ?_ (splice_vals ha)
  · rw [itemCells_length]
    have : a * E.sz + m.length * E.sz ≤ r.items.length * E.sz := by rw [← Nat.add_mul]; exact Nat.mul_le_mul_right _ ha
    show a * E.sz + m.length * E.sz ≤ r.icap * E.sz
    omega
  · cases q with
    | node => show some _ = some _; simp only [nodeCells, hl]
    | items => exact absurd rfl hq
    | hdr => rfl
    | arr => rfl
  · rw [itemCells_length, hl]; exact hsz
/-- 'n.items[i] = x' -/
theorem RepS.set_item (R : RepS E S w s) {n : Nat} {r : NodeR I} (hn : s.nd n = some r) {b o : Nat} (hb : r.ib = some (b, o)) {i : Nat} (x : I) (hi : i < r.items.length) {off : Nat} (ho : off = o + i * E.sz)
    (hu : Upd w w' b off (E.enc x)) : RepS E S w' (s.setNd n { r with items := r.items.set i x }) := by
  have h := R.set_items hn hb (a := i) [x] (by simp only [List.length_cons, List.length_nil]; omega) ho (by simpa [itemCells] using hu)
  rwa [show r.items.take i ++ [x] ++ r.items.drop (i + [x].length) = r.items.set i x by
    rw [List.set_eq_take_append_cons_drop, if_pos hi]; simp] at h
/-- 'n.items = n.items[:k]' -/
theorem RepS.take_items (R : RepS E S w s) {n : Nat} {r : NodeR I} (hn : s.nd n = some r) {k : Nat} (hk : k ≤ r.items.length) (hu : Upd w w' n 2 [sv r.ib k r.icap]) : RepS E S w' (s.setNd n { r with items := r.items.take k }) := by
  have hw := R.wf n r hn
  have hl : (r.items.take k).length = k := by rw [List.length_take]; exact Nat.min_eq_left hk
  have hsz : r.items.length * E.sz ≤ r.icap * E.sz := Nat.mul_le_mul_right _ hw.2.2.1
  have hpre : ∀ i u, (itemCells E (r.items.take k))[i]? = some u → (itemCells E r.items)[i]? = some u := fun i u hi => by
    conv => lhs; rw [← List.take_append_drop k r.items]
    rw [itemCells_append, List.getElem?_append_left (List.getElem?_eq_some_iff.1 hi).1]; exact hi
  have R1 : Rep S w' (fun t => if t = .of n .node then some ⟨n, 0, 4, nodeCells { r with items := r.items.take k }⟩ else chunk E s t) := by
    refine R.rep.store (x := .of n .node) (c := ⟨n, 0, 4, nodeCells r⟩) (by rw [chunk_of E hn]; rfl) hu (j := 2) rfl rfl (by simp) (if_pos rfl) (fun t ht => if_neg ht) (by simp [nodeCells]) ?_
    have := set_vals (l := nodeCells r) (j := 2) (by simp [nodeCells]) (sv r.ib k r.icap)
    simpa [nodeCells, hl] using this
  refine ⟨?_, R.wf_set ⟨fun h => ⟨by rw [(hw.1 h).1]; simp, (hw.1 h).2⟩, hw.2.1, by show (r.items.take k).length ≤ r.icap; rw [hl]; have := hw.2.2.1; omega, hw.2.2.2⟩, (R.tyf hu.fr).set fun q hq => (R.tyf hu.fr).2 n r hn q hq⟩
  rcases (by cases r.ib with | none => exact .inl rfl | some p => exact .inr ⟨p.1, p.2, rfl⟩ : r.ib = none ∨ ∃ b o, r.ib = some (b, o)) with hb | ⟨b, o, hb⟩
  · refine R1.congr (fun t => ?_)
    by_cases h : ∃ q, t = .of n q
    · obtain ⟨q, rfl⟩ := h
      rw [chunk_same]
      cases q with
      | node => rw [if_pos rfl]; rfl
      | items => rw [if_neg (by simp), chunk_of E hn]; simp [chunkN, hb]
      | hdr => rw [if_neg (by simp), chunk_of E hn]; rfl
      | arr => rw [if_neg (by simp), chunk_of E hn]; rfl
    · rw [chunk_ne E s _ (fun q e => h ⟨q, e⟩), if_neg (fun e => h ⟨_, e⟩)]
  · have hok := R1.ok (.of n .items) ⟨b, o, r.icap * E.sz, itemCells E r.items⟩ (by rw [if_neg (by simp), chunk_of E hn]; simp [chunkN, hb])
    refine R1.less (x := .of n .items) (c := ⟨b, o, r.icap * E.sz, itemCells E r.items⟩) (d := ⟨b, o, r.icap * E.sz, itemCells E (r.items.take k)⟩) (by rw [if_neg (by simp), chunk_of E hn]; simp [chunkN, hb])
      (by rw [chunk_same]; simp [chunkN, hb]) (fun t ht => ?_) ⟨?_, hok.some, fun i u hi => hok.val i u (hpre i u hi)⟩ rfl (fun _ _ h => h)
    · by_cases h : ∃ q, t = .of n q
      · obtain ⟨q, rfl⟩ := h
        rw [chunk_same]
        cases q with
        | node => rw [if_pos rfl]; rfl
        | items => exact absurd rfl ht
        | hdr => rw [if_neg (by simp), chunk_of E hn]; rfl
        | arr => rw [if_neg (by simp), chunk_of E hn]; rfl
      · rw [chunk_ne E s _ (fun q e => h ⟨q, e⟩), if_neg (fun e => h ⟨_, e⟩)]
    · show (itemCells E (r.items.take k)).length ≤ _
      rw [itemCells_length, hl]
      exact Nat.le_trans (Nat.mul_le_mul_right _ hk) hsz

/-- What is known of the chunks, one of them turned. -/
def upc {τ : Type} [DecidableEq τ] (G : τ → Option Ch) (x : τ) (c : Option Ch) : τ → Option Ch := fun t => if t = x then c else G t
theorem upc_same {τ : Type} [DecidableEq τ] (G : τ → Option Ch) (x : τ) (c : Option Ch) : upc G x c x = c := if_pos rfl
theorem upc_ne {τ : Type} [DecidableEq τ] (G : τ → Option Ch) {x t : τ} (c : Option Ch) (h : t ≠ x) : upc G x c t = G t := if_neg h

/-- One cell of a chunk is written. -/
theorem Rep.store1 {τ : Type} [DecidableEq τ] {S : Nat → Prop} {w w' : World} {G : τ → Option Ch} (R : Rep S w G) {x : τ} {c : Ch} (hx : G x = some c) {b o j : Nat} {v : Value} (hu : Upd w w' b o [v]) (hb : b = c.b) (ho : o = c.o + j) (hj : j < c.vals.length) :
    Rep S w' (upc G x (some ⟨c.b, c.o, c.cap, c.vals.set j v⟩)) := by
  have hc := (R.ok x c hx).len
  exact R.store hx hu hb ho (by simp only [List.length_cons, List.length_nil]; omega) (upc_same _ _ _) (fun t ht => upc_ne _ _ ht) (by rw [List.length_set]; exact hc) (set_vals hj v)
theorem Rep.store1e {τ : Type} [DecidableEq τ] {S : Nat → Prop} {w w' : World} {G : τ → Option Ch} (R : Rep S w G) {x : τ} {c : Ch} (hx : G x = some c) {b o j : Nat} {v : Value} (hu : Upd w w' b o [v]) (hb : b = c.b) (ho : o = c.o + j) (hj : j < c.vals.length) :
    ∃ G', Rep S w' G' ∧ G' x = some ⟨c.b, c.o, c.cap, c.vals.set j v⟩ ∧ ∀ t, t ≠ x → G' t = G t := ⟨_, R.store1 hx hu hb ho hj, upc_same _ _ _, fun _ ht => upc_ne _ _ ht⟩
/-- Several cells of a chunk are written. -/
theorem Rep.storee {τ : Type} [DecidableEq τ] {S : Nat → Prop} {w w' : World} {G : τ → Option Ch} (R : Rep S w G) {x : τ} {c : Ch} (hx : G x = some c) {b o j : Nat} {vs : List Value} (hu : Upd w w' b o vs) (hb : b = c.b) (ho : o = c.o + j) (hj : j + vs.length ≤ c.vals.length) :
    ∃ G', Rep S w' G' ∧ G' x = some ⟨c.b, c.o, c.cap, c.vals.take j ++ vs ++ c.vals.drop (j + vs.length)⟩ ∧ ∀ t, t ≠ x → G' t = G t := by
  have hc := (R.ok x c hx).len
  have hl : (c.vals.take j ++ vs ++ c.vals.drop (j + vs.length)).length = c.vals.length := by
    rw [List.length_append, List.length_append, List.length_take, List.length_drop]; omega
  refine ⟨upc G x _, R.store hx hu hb ho (by omega) (upc_same _ _ _) (fun t ht => upc_ne _ _ ht) (by rw [hl]; exact hc) (fun i u hi => ?_), upc_same _ _ _, fun _ ht => upc_ne _ _ ht⟩
  have la : (c.vals.take j).length = j := by rw [List.length_take]; omega
  by_cases h1 : i < j
  · refine .inr ⟨by omega, ?_⟩
    rw [List.append_assoc, List.getElem?_append_left (by omega), List.getElem?_take_of_lt h1] at hi
    exact hi
  · by_cases h2 : i < j + vs.length
    · refine .inl ⟨by omega, h2, ?_⟩
      rw [List.append_assoc, List.getElem?_append_right (by omega), List.getElem?_append_left (by omega), la] at hi
      exact hi
    · refine .inr ⟨by omega, ?_⟩
      rw [List.getElem?_append_right (by rw [List.length_append]; omega), List.length_append, la, List.getElem?_drop] at hi
      rwa [show j + vs.length + (i - (j + vs.length)) = i by omega] at hi
/-- A chunk is cut in two. -/
theorem Rep.cut {τ : Type} [DecidableEq τ] {S : Nat → Prop} {w : World} {G : τ → Option Ch} (R : Rep S w G) {x y : τ} {c d e : Ch} (hxy : x ≠ y) (hx : G x = some c) (hd : d.Ok w) (he : e.Ok w) (hdb : d.b = c.b) (heb : e.b = c.b)
    (hdi : ∀ b o, d.In b o → c.In b o) (hei : ∀ b o, e.In b o → c.In b o) (hde : d.Off e) : Rep S w (upc (upc G x (some d)) y (some e)) := by
  have R1 : Rep S w (upc G x (some d)) := R.less hx (upc_same _ _ _) (fun t ht => upc_ne _ _ ht) hd hdb hdi
  refine R1.put (upc_same _ _ _) (fun t ht => upc_ne _ _ ht) he (fun t f ht hf => ?_) (fun _ h => h) (by rw [heb]; exact R.ins x c hx) R.lt
  by_cases htx : t = x
  · subst htx
    rw [upc_same] at hf
    obtain rfl := Option.some.inj hf
    exact hde.symm
  · rw [upc_ne _ _ htx] at hf
    exact fun b o h1 h2 => R.off x t c f (Ne.symm htx) hx hf b o (hei b o h1) h2

theorem itemCells_take : ∀ (l : List I) (k : Nat), (itemCells E l).take (k * E.sz) = itemCells E (l.take k)
  | [], k => by simp [itemCells]
  | x :: l, 0 => by simp [itemCells]
  | x :: l, k + 1 => by
    have hc : itemCells E (x :: l) = E.enc x ++ itemCells E l := rfl
    have hc' : itemCells E (x :: l.take k) = E.enc x ++ itemCells E (l.take k) := rfl
    rw [List.take_succ_cons, hc, hc', List.take_append, E.len, List.take_of_length_le (by rw [E.len, Nat.add_mul]; omega), ← itemCells_take l k]
    congr 2
    rw [Nat.add_mul]; omega
theorem itemCells_drop : ∀ (l : List I) (k : Nat), (itemCells E l).drop (k * E.sz) = itemCells E (l.drop k)
  | [], k => by simp [itemCells]
  | x :: l, 0 => by simp
  | x :: l, k + 1 => by
    have hc : itemCells E (x :: l) = E.enc x ++ itemCells E l := rfl
    rw [List.drop_succ_cons, hc, List.drop_append, E.len, List.drop_eq_nil_of_le (by rw [E.len, Nat.add_mul]; omega), ← itemCells_drop l k, List.nil_append]
    congr 1
    rw [Nat.add_mul]; omega
/-- An array of items is cut behind an item that nobody owns any more. -/
theorem Rep.cut_items {G : Tag → Option Ch} (R : Rep S w G) {x y : Tag} (hxy : x ≠ y) {b o cap i : Nat} {l : List I} {z : List Value} (hx : G x = some ⟨b, o, cap * E.sz, itemCells E (l.take i) ++ z ++ itemCells E (l.drop (i + 1))⟩) (hz : z.length = E.sz) (hi : i < l.length) (hc : l.length ≤ cap) :
    Rep S w (upc (upc G x (some ⟨b, o, i * E.sz, itemCells E (l.take i)⟩)) y (some ⟨b, o + (i + 1) * E.sz, (cap - (i + 1)) * E.sz, itemCells E (l.drop (i + 1))⟩)) := by
  have hok := R.ok x _ hx
  have l1 : (itemCells E (l.take i)).length = i * E.sz := by rw [itemCells_length, List.length_take, Nat.min_eq_left (by omega)]
  have l2 : (itemCells E (l.drop (i + 1))).length = (l.length - (i + 1)) * E.sz := by rw [itemCells_length, List.length_drop]
  have hm : (i + 1) * E.sz + (cap - (i + 1)) * E.sz = cap * E.sz := by rw [← Nat.add_mul]; congr 1; omega
  have hm1 : (i + 1) * E.sz = i * E.sz + E.sz := by rw [Nat.add_mul]; omega
  refine R.cut hxy hx ⟨?_, fun j hj => hok.some j ?_, fun j v hv => hok.val j v ?_⟩ ⟨?_, fun j hj => ?_, fun j v hv => ?_⟩ rfl rfl (fun b' o' h => ⟨h.1, h.2.1, ?_⟩) (fun b' o' h => ⟨h.1, ?_, ?_⟩) (fun b' o' h1 h2 => ?_)
  · exact Nat.le_of_eq l1
  · have hj' : j < i * E.sz := hj
    show j < cap * E.sz; omega
  · have hv' : (itemCells E (l.take i))[j]? = some v := hv
    show (itemCells E (l.take i) ++ z ++ itemCells E (l.drop (i + 1)))[j]? = some v
    rw [List.append_assoc, List.getElem?_append_left (List.getElem?_eq_some_iff.1 hv').1]; exact hv'
  · show (itemCells E (l.drop (i + 1))).length ≤ (cap - (i + 1)) * E.sz
    rw [l2]; exact Nat.mul_le_mul_right _ (by omega)
  · have hj' : j < (cap - (i + 1)) * E.sz := hj
    have := hok.some ((i + 1) * E.sz + j) (by show _ < cap * E.sz; omega)
    show (M w b (o + (i + 1) * E.sz + j)).isSome = true
    rw [Nat.add_assoc]; exact this
  · have hv' : (itemCells E (l.drop (i + 1)))[j]? = some v := hv
    have := hok.val ((i + 1) * E.sz + j) v (by
      show (itemCells E (l.take i) ++ z ++ itemCells E (l.drop (i + 1)))[(i + 1) * E.sz + j]? = some v
      rw [List.getElem?_append_right (by rw [List.length_append]; omega), List.length_append]
      rw [show (i + 1) * E.sz + j - ((itemCells E (l.take i)).length + z.length) = j by omega]; exact hv')
    show M w b (o + (i + 1) * E.sz + j) = some v
    rw [Nat.add_assoc]; exact this
  · have h' : o' < o + i * E.sz := h.2.2
    show o' < o + cap * E.sz; omega
  · have h' : o + (i + 1) * E.sz ≤ o' := h.2.1
    show o ≤ o'; omega
  · have h' : o' < o + (i + 1) * E.sz + (cap - (i + 1)) * E.sz := h.2.2
    show o' < o + cap * E.sz; omega
  · have h3 : o' < o + i * E.sz := h1.2.2
    have h4 : o + (i + 1) * E.sz ≤ o' := h2.2.1
    omega
/-- An array of children is cut. -/
theorem Rep.cut_arr {G : Tag → Option Ch} (R : Rep S w G) {x y : Tag} (hxy : x ≠ y) {b o cap i : Nat} {l : List (Option Nat)} (hx : G x = some ⟨b, o, cap, l.map pv⟩) (hi : i ≤ l.length) (hc : l.length ≤ cap) :
    Rep S w (upc (upc G x (some ⟨b, o, i, (l.take i).map pv⟩)) y (some ⟨b, o + i, cap - i, (l.drop i).map pv⟩)) := by
  have hok := R.ok x _ hx
  refine R.cut hxy hx ⟨?_, fun j hj => hok.some j ?_, fun j v hv => hok.val j v ?_⟩ ⟨?_, fun j hj => ?_, fun j v hv => ?_⟩ rfl rfl (fun b' o' h => ⟨h.1, h.2.1, ?_⟩) (fun b' o' h => ⟨h.1, ?_, ?_⟩) (fun b' o' h1 h2 => ?_)
  · show ((l.take i).map pv).length ≤ i
    rw [List.length_map, List.length_take]; omega
  · have hj' : j < i := hj
    show j < cap; omega
  · have hv' : ((l.take i).map pv)[j]? = some v := hv
    show (l.map pv)[j]? = some v
    have hj := (List.getElem?_eq_some_iff.1 hv').1
    rw [List.length_map, List.length_take] at hj
    rw [List.getElem?_map, List.getElem?_take_of_lt (by omega)] at hv'
    rw [List.getElem?_map]; exact hv'
  · show ((l.drop i).map pv).length ≤ cap - i
    rw [List.length_map, List.length_drop]; omega
  · have hj' : j < cap - i := hj
    have := hok.some (i + j) (by show _ < cap; omega)
    show (M w b (o + i + j)).isSome = true
    rw [Nat.add_assoc]; exact this
  · have hv' : ((l.drop i).map pv)[j]? = some v := hv
    have := hok.val (i + j) v (by
      show (l.map pv)[i + j]? = some v
      rw [List.getElem?_map, List.getElem?_drop] at hv'
      rw [List.getElem?_map]; exact hv')
    show M w b (o + i + j) = some v
    rw [Nat.add_assoc]; exact this
  · have h' : o' < o + i := h.2.2
    show o' < o + cap; omega
  · have h' : o + i ≤ o' := h.2.1
    show o ≤ o'; omega
  · have h' : o' < o + i + (cap - i) := h.2.2
    show o' < o + cap; omega
  · have h3 : o' < o + i := h1.2.2
    have h4 : o + i ≤ o' := h2.2.1
    omega

/-- The chunks behind a node is set are those before, turned at that node. -/
theorem chunk_set_eq {G : Tag → Option Ch} {n : Nat} {r : NodeR I} (h1 : ∀ p, G (.of n p) = chunkN E n r p) (h2 : ∀ t, (∀ p, t ≠ .of n p) → G t = chunk E s t) : ∀ t, chunk E (s.setNd n r) t = G t := fun t => by
  by_cases h : ∃ q, t = .of n q
  · obtain ⟨q, rfl⟩ := h
    rw [chunk_same, h1]
  · rw [chunk_ne E s _ (fun q e => h ⟨q, e⟩), h2 _ (fun q e => h ⟨q, e⟩)]

theorem nodeCells_set2 (r : NodeR I) (l : List I) (ib : Option (Nat × Nat)) (c : Nat) : (nodeCells r).set 2 (sv ib l.length c) = nodeCells { r with items := l, ib := ib, icap := c } := rfl

/-- 'n.items = append(n.items, ..)' -/
theorem RepS.app_items (R : RepS E S w s) {n : Nat} {r : NodeR I} (hn : s.nd n = some r) (xs : List I) {w1 w2 : World} {v' : Value}
    (ha : App E.ty w w1 r.ib r.items.length r.icap E.sz xs.length (itemCells E r.items) (itemCells E xs) v') (hu : Upd w1 w2 n 2 [v']) :
    ∃ ib' cap' S', v' = sv ib' (r.items ++ xs).length cap' ∧ (cap' ≤ maxLen ∨ cap' = r.icap) ∧ Fr S w w2 ∧ (∀ i, S' i → S i ∨ w.heap.size ≤ i) ∧ (∀ i, S i → S' i) ∧
      RepS E S' w2 (s.setNd n { r with items := r.items ++ xs, ib := ib', icap := cap' }) := by
  have hw := R.wf n r hn
  obtain ⟨b', o', cap', S', hv, hc, hm, hbt, hf, hs1, hs2, hR⟩ := R.rep.app (x := .of n .node) (y := .of n .items) (by simp) (cx := ⟨n, 0, 4, nodeCells r⟩) (by rw [chunk_of E hn]; rfl) (by rw [chunk_of E hn]; rfl) ha (itemCells_length _) (itemCells_length _) hu (jh := 2) rfl rfl (by simp [nodeCells])
  refine ⟨some (b', o'), cap', S', by rw [hv, List.length_append], hm, hf, hs1, hs2, ?_, R.wf_set ⟨(fun h => absurd h (by simp)), hw.2.1, (by show (r.items ++ xs).length ≤ cap'; rw [List.length_append]; exact hc), hw.2.2.2⟩, (R.tyf hf).set fun q hq => ?_⟩
  rotate_left
  · obtain rfl := Option.some.inj hq
    rcases hbt with ⟨o1, h⟩ | h
    · exact (R.tyf hf).2 n r hn (b', o1) h
    · exact h
  refine hR _ ?_ ?_ (fun t h1 h2 => ?_)
  · rw [chunk_same, hv]
    show some _ = some _
    congr 2
    rw [← List.length_append]; rfl
  · rw [chunk_same]; simp [chunkN, itemCells_append]
  · by_cases h : ∃ q, t = .of n q
    · obtain ⟨q, rfl⟩ := h
      rw [chunk_same, chunk_of E hn]
      cases q with
      | node => exact absurd rfl h1
      | items => exact absurd rfl h2
      | hdr => rfl
      | arr => rfl
    · exact chunk_ne E s _ (fun q e => h ⟨q, e⟩)

theorem RepS.app_keep_items (R : RepS E S w s) {n : Nat} {r : NodeR I} (hn : s.nd n = some r) {m : Nat} {news : List Value} {w1 : World} {v' : Value} (hm : news.length = m * E.sz)
    (ha : App E.ty w w1 r.ib r.items.length r.icap E.sz m (itemCells E r.items) news v') : RepS E S w1 s ∧ Fr S w w1 :=
  ⟨⟨R.rep.app_keep (y := .of n .items) (by rw [chunk_of E hn]; rfl) ha (itemCells_length _) hm, R.wf, R.tyf (ha.fr (S := S) (fun _ _ hb => R.inS_items hn hb))⟩, ha.fr (fun _ _ hb => R.inS_items hn hb)⟩

theorem kids_vals (l m : List (Option Nat)) (a : Nat) (h : a + m.length ≤ l.length) : ∀ i u, ((l.take a ++ m ++ l.drop (a + m.length)).map pv)[i]? = some u →
    (a ≤ i ∧ i < a + (m.map pv).length ∧ (m.map pv)[i - a]? = some u) ∨ (¬ (a ≤ i ∧ i < a + (m.map pv).length) ∧ (l.map pv)[i]? = some u) := by
  intro i u hi
  simp only [List.length_map]
  have la : (l.take a).length = a := by rw [List.length_take]; omega
  rw [List.getElem?_map] at hi
  by_cases h1 : i < a
  · refine .inr ⟨by omega, ?_⟩
    rw [List.append_assoc, List.getElem?_append_left (by omega), List.getElem?_take_of_lt h1] at hi
    rw [List.getElem?_map]; exact hi
  · by_cases h2 : i < a + m.length
    · refine .inl ⟨by omega, h2, ?_⟩
      rw [List.append_assoc, List.getElem?_append_right (by omega), List.getElem?_append_left (by omega), la] at hi
      rw [List.getElem?_map]; exact hi
    · refine .inr ⟨by omega, ?_⟩
      rw [List.getElem?_append_right (by rw [List.length_append]; omega), List.length_append, la, List.getElem?_drop] at hi
      rw [show a + m.length + (i - (a + m.length)) = i by omega] at hi
      rw [List.getElem?_map]; exact hi
/-- 'copy((*n.children)[a:], ..)', '(*n.children)[a] = p' -/
theorem RepS.set_kids (R : RepS E S w s) {n : Nat} {r : NodeR I} (hn : s.nd n = some r) {k : KidR} (hk : r.kids = some k) {b o : Nat} (hb : k.base = some (b, o)) {a : Nat} (m : List (Option Nat)) (ha : a + m.length ≤ k.kids.length) {off : Nat} (ho : off = o + a)
    (hu : Upd w w' b off (m.map pv)) : RepS E S w' (s.setNd n { r with kids := some { k with kids := k.kids.take a ++ m ++ k.kids.drop (a + m.length) } }) := by
  have hw := R.wf n r hn
  have hl : (k.kids.take a ++ m ++ k.kids.drop (a + m.length)).length = k.kids.length := by
    rw [List.length_append, List.length_append, List.length_take, List.length_drop, Nat.min_eq_left (by omega)]; omega
  have hkc := hw.2.2.2 k hk
  refine R.store hn ⟨hw.1, (fun k' hk' hb' => ?_), hw.2.2.1, (fun k' hk' => ?_)⟩ (p := .arr) (c := ⟨b, o, k.cap, k.kids.map pv⟩) (by simp [chunkN, hk, hb]) hu rfl ho ?_
    (vals' := (k.kids.take a ++ m ++ k.kids.drop (a + m.length)).map pv) (by simp [chunkN, hb]) (fun q hq => ?_) ?_ (kids_vals _ _ _ ha)
  · obtain rfl := Option.some.inj hk'
    exact absurd (hb.symm.trans hb') (by simp)
  · obtain rfl := Option.some.inj hk'
    show (k.kids.take a ++ m ++ k.kids.drop (a + m.length)).length ≤ k.cap
    rw [hl]; exact hkc
  · rw [List.length_map]
    show a + m.length ≤ k.cap
    omega
  · cases q with
    | node => simp [chunkN, nodeCells, hk]
    | items => rfl
    | hdr => simp only [chunkN, hk, Option.map_some]; rw [hl]
    | arr => exact absurd rfl hq
  · rw [List.length_map, hl]; exact hkc
/-- '(*n.children)[i] = p' -/
theorem RepS.set_kid (R : RepS E S w s) {n : Nat} {r : NodeR I} (hn : s.nd n = some r) {k : KidR} (hk : r.kids = some k) {b o : Nat} (hb : k.base = some (b, o)) {i : Nat} (p : Option Nat) (hi : i < k.kids.length) {off : Nat} (ho : off = o + i)
    (hu : Upd w w' b off [pv p]) : RepS E S w' (s.setNd n { r with kids := some { k with kids := k.kids.set i p } }) := by
  have h := R.set_kids hn hk hb (a := i) [p] (by simp only [List.length_cons, List.length_nil]; omega) ho (by simpa using hu)
  rwa [show k.kids.take i ++ [p] ++ k.kids.drop (i + [p].length) = k.kids.set i p by
    rw [List.set_eq_take_append_cons_drop, if_pos hi]; simp] at h
/-- '*n.children = (*n.children)[:j]' -/
theorem RepS.take_kids (R : RepS E S w s) {n : Nat} {r : NodeR I} (hn : s.nd n = some r) {k : KidR} (hk : r.kids = some k) {b o : Nat} (hb : k.base = some (b, o)) {j : Nat} (hj : j ≤ k.kids.length) (hu : Upd w w' k.hdr 0 [sv k.base j k.cap]) :
    RepS E S w' (s.setNd n { r with kids := some { k with kids := k.kids.take j } }) := by
  have hw := R.wf n r hn
  have hl : (k.kids.take j).length = j := by rw [List.length_take]; exact Nat.min_eq_left hj
  have hkc := hw.2.2.2 k hk
  have R1 : Rep S w' (upc (chunk E s) (.of n .hdr) (some ⟨k.hdr, 0, 1, [sv k.base j k.cap]⟩)) := by
    refine R.rep.store (x := .of n .hdr) (c := ⟨k.hdr, 0, 1, [sv k.base k.kids.length k.cap]⟩) (by rw [chunk_of E hn]; simp [chunkN, hk]) hu (j := 0) rfl rfl (by simp) (upc_same _ _ _) (fun t ht => upc_ne _ _ ht) (by simp) ?_
    exact set_vals (l := [sv k.base k.kids.length k.cap]) (j := 0) (by simp) (sv k.base j k.cap)
  have hok := R1.ok (.of n .arr) ⟨b, o, k.cap, k.kids.map pv⟩ (by rw [upc_ne _ _ (by simp), chunk_of E hn]; simp [chunkN, hk, hb])
  refine ⟨?_, R.wf_set ⟨hw.1, (fun k' hk' hb' => ?_), hw.2.2.1, (fun k' hk' => ?_)⟩, (R.tyf hu.fr).set fun q hq => (R.tyf hu.fr).2 n r hn q hq⟩
  · refine R1.less (x := .of n .arr) (c := ⟨b, o, k.cap, k.kids.map pv⟩) (d := ⟨b, o, k.cap, (k.kids.take j).map pv⟩) (by rw [upc_ne _ _ (by simp), chunk_of E hn]; simp [chunkN, hk, hb]) (by rw [chunk_same]; simp [chunkN, hb]) (fun t ht => ?_) ⟨?_, hok.some, fun i u hi => ?_⟩ rfl (fun _ _ h => h)
    · by_cases h : ∃ q, t = .of n q
      · obtain ⟨q, rfl⟩ := h
        rw [chunk_same]
        cases q with
        | node => rw [upc_ne _ _ (by simp), chunk_of E hn]; simp [chunkN, nodeCells, hk]
        | items => rw [upc_ne _ _ (by simp), chunk_of E hn]; rfl
        | hdr => rw [upc_same]; simp only [chunkN, Option.map_some]; rw [hl]
        | arr => exact absurd rfl ht
      · rw [chunk_ne E s _ (fun q e => h ⟨q, e⟩), upc_ne _ _ (fun e => h ⟨_, e⟩)]
    · show ((k.kids.take j).map pv).length ≤ k.cap
      rw [List.length_map, hl]; omega
    · have hi' : ((k.kids.take j).map pv)[i]? = some u := hi
      refine hok.val i u ?_
      show (k.kids.map pv)[i]? = some u
      rw [List.getElem?_map, List.getElem?_take] at hi'
      rw [List.getElem?_map]
      split at hi'
      · exact hi'
      · simp at hi'
  · obtain rfl := Option.some.inj hk'
    exact absurd (hb.symm.trans hb') (by simp)
  · obtain rfl := Option.some.inj hk'
    show (k.kids.take j).length ≤ k.cap
    rw [hl]; omega
/-- '*n.children = append(*n.children, ..)' -/
theorem RepS.app_kids (R : RepS E S w s) {n : Nat} {r : NodeR I} (hn : s.nd n = some r) {k : KidR} (hk : r.kids = some k) (xs : List (Option Nat)) {w1 w2 : World} {v' : Value} {e : TypeId}
    (ha : App e w w1 k.base k.kids.length k.cap 1 xs.length (k.kids.map pv) (xs.map pv) v') (hu : Upd w1 w2 k.hdr 0 [v']) :
    ∃ kb' cap' S', v' = sv kb' (k.kids ++ xs).length cap' ∧ (cap' ≤ maxLen ∨ cap' = k.cap) ∧ Fr S w w2 ∧ (∀ i, S' i → S i ∨ w.heap.size ≤ i) ∧ (∀ i, S i → S' i) ∧
      RepS E S' w2 (s.setNd n { r with kids := some { k with kids := k.kids ++ xs, base := kb', cap := cap' } }) := by
  have hw := R.wf n r hn
  obtain ⟨b', o', cap', S', hv, hc, hm, hbt, hf, hs1, hs2, hR⟩ := R.rep.app (x := .of n .hdr) (y := .of n .arr) (by simp) (cx := ⟨k.hdr, 0, 1, [sv k.base k.kids.length k.cap]⟩) (by rw [chunk_of E hn]; simp [chunkN, hk]) (by rw [chunk_of E hn]; simp only [chunkN, hk, Option.bind_some, Nat.mul_one]) ha (by simp) (by simp) hu (jh := 0) rfl rfl (by simp)
  refine ⟨some (b', o'), cap', S', by rw [hv, List.length_append], hm, hf, hs1, hs2, ?_, R.wf_set ⟨hw.1, (fun k' hk' hb' => ?_), hw.2.2.1, (fun k' hk' => ?_)⟩, (R.tyf hf).set fun q hq => (R.tyf hf).2 n r hn q hq⟩
  · refine hR _ ?_ ?_ (fun t h1 h2 => ?_)
    · rw [chunk_same, hv]; simp [chunkN]
    · rw [chunk_same]; simp [chunkN]
    · by_cases h : ∃ q, t = .of n q
      · obtain ⟨q, rfl⟩ := h
        rw [chunk_same, chunk_of E hn]
        cases q with
        | node => simp [chunkN, nodeCells, hk]
        | items => rfl
        | hdr => exact absurd rfl h1
        | arr => exact absurd rfl h2
      · exact chunk_ne E s _ (fun q e => h ⟨q, e⟩)
  · obtain rfl := Option.some.inj hk'
    exact absurd hb' (by simp)
  · obtain rfl := Option.some.inj hk'
    show (k.kids ++ xs).length ≤ cap'
    rw [List.length_append]; exact hc

theorem RepS.app_keep_kids (R : RepS E S w s) {n : Nat} {r : NodeR I} (hn : s.nd n = some r) {k : KidR} (hk : r.kids = some k) {m : Nat} {news : List Value} {w1 : World} {v' : Value} {e : TypeId} (hm : news.length = m * 1)
    (ha : App e w w1 k.base k.kids.length k.cap 1 m (k.kids.map pv) news v') : RepS E S w1 s ∧ Fr S w w1 :=
  ⟨⟨R.rep.app_keep (y := .of n .arr) (by rw [chunk_of E hn]; simp only [chunkN, hk, Option.bind_some, Nat.mul_one]) ha (by simp) hm, R.wf, R.tyf (ha.fr (S := S) (fun _ _ hb => R.inS_arr hn hk hb))⟩, ha.fr (fun _ _ hb => R.inS_arr hn hk hb)⟩

/-- 'n.items' becomes a new array. -/
theorem RepS.new_items (R : RepS E S w s) {n : Nat} {r : NodeR I} (hn : s.nd n = some r) (xs : List I) {w1 w2 : World} {g cap : Nat} (hg1 : w.heap.size ≤ g) (hg2 : g < w1.heap.size) (hok : (⟨g, 0, cap * E.sz, itemCells E xs⟩ : Ch).Ok w1) (hty : bty w1 g = some E.ty) (hl : xs.length ≤ cap)
    (hfr : Fr (fun _ => False) w w1) (hu : Upd w1 w2 n 2 [sv (some (g, 0)) xs.length cap]) :
    Ext S w (fun i => S i ∨ i = g) w2 ∧ RepS E (fun i => S i ∨ i = g) w2 (s.setNd n { r with items := xs, ib := some (g, 0), icap := cap }) := by
  have hw := R.wf n r hn
  obtain ⟨hf, hR⟩ := R.rep.fresh (x := .of n .node) (y := .of n .items) (by simp) (cx := ⟨n, 0, 4, nodeCells r⟩) (by rw [chunk_of E hn]; rfl) hg1 hg2 hok hfr hu (jh := 2) rfl rfl (by simp [nodeCells])
  refine ⟨⟨hf, fun i hi => ?_, fun i hi => .inl hi⟩, ?_, R.wf_set ⟨(fun h => absurd h (by simp)), hw.2.1, hl, hw.2.2.2⟩, (R.tyf hf).set fun q hq => ?_⟩
  · rcases hi with h | h
    · exact .inl h
    · exact .inr (by omega)
  · refine hR _ ?_ ?_ (fun t h1 h2 => ?_)
    · rw [chunk_same]; rfl
    · rw [chunk_same]; rfl
    · by_cases h : ∃ q, t = .of n q
      · obtain ⟨q, rfl⟩ := h
        rw [chunk_same, chunk_of E hn]
        cases q with
        | node => exact absurd rfl h1
        | items => exact absurd rfl h2
        | hdr => rfl
        | arr => rfl
      · exact chunk_ne E s _ (fun q e => h ⟨q, e⟩)
  · obtain rfl := Option.some.inj hq
    exact (hu.fr.ty g hg2).trans hty
/-- '*n.children' becomes a new array. -/
theorem RepS.new_kids (R : RepS E S w s) {n : Nat} {r : NodeR I} (hn : s.nd n = some r) {k : KidR} (hk : r.kids = some k) (xs : List (Option Nat)) {w1 w2 : World} {g cap : Nat} (hg1 : w.heap.size ≤ g) (hg2 : g < w1.heap.size) (hok : (⟨g, 0, cap, xs.map pv⟩ : Ch).Ok w1) (hl : xs.length ≤ cap)
    (hfr : Fr (fun _ => False) w w1) (hu : Upd w1 w2 k.hdr 0 [sv (some (g, 0)) xs.length cap]) :
    Ext S w (fun i => S i ∨ i = g) w2 ∧ RepS E (fun i => S i ∨ i = g) w2 (s.setNd n { r with kids := some { k with kids := xs, base := some (g, 0), cap := cap } }) := by
  have hw := R.wf n r hn
  obtain ⟨hf, hR⟩ := R.rep.fresh (x := .of n .hdr) (y := .of n .arr) (by simp) (cx := ⟨k.hdr, 0, 1, [sv k.base k.kids.length k.cap]⟩) (by rw [chunk_of E hn]; simp [chunkN, hk]) hg1 hg2 hok hfr hu (jh := 0) rfl rfl (by simp)
  refine ⟨⟨hf, fun i hi => ?_, fun i hi => .inl hi⟩, ?_, R.wf_set ⟨hw.1, (fun k' hk' hb' => ?_), hw.2.2.1, (fun k' hk' => ?_)⟩, (R.tyf hf).set fun q hq => (R.tyf hf).2 n r hn q hq⟩
  · rcases hi with h | h
    · exact .inl h
    · exact .inr (by omega)
  · refine hR _ ?_ ?_ (fun t h1 h2 => ?_)
    · rw [chunk_same]; simp [chunkN]
    · rw [chunk_same]; simp [chunkN]
    · by_cases h : ∃ q, t = .of n q
      · obtain ⟨q, rfl⟩ := h
        rw [chunk_same, chunk_of E hn]
        cases q with
        | node => simp [chunkN, nodeCells, hk]
        | items => rfl
        | hdr => exact absurd rfl h1
        | arr => exact absurd rfl h2
      · exact chunk_ne E s _ (fun q e => h ⟨q, e⟩)
  · obtain rfl := Option.some.inj hk'
    exact absurd hb' (by simp)
  · obtain rfl := Option.some.inj hk'
    exact hl

/-! ### the map's own cells -/
theorem RepS.store_mp (R : RepS E S w s) {r' : MapR} {off : Nat} {v : Value} (hu : Upd w w' s.m off [v]) (hoff : off < (mapCells E s.mp).length) (hv : mapCells E r' = (mapCells E s.mp).set off v) : RepS E S w' (s.setMp r') := by
  have hlen : (mapCells E s.mp).length = E.sz + 8 := by simp [mapCells, E.zlen]
  refine ⟨R.rep.store (x := .mp) (c := ⟨s.m, 0, E.sz + 8, mapCells E s.mp⟩) rfl hu (j := off) rfl (by simp) (by rw [hlen] at hoff; simp only [List.length_cons, List.length_nil]; omega) (vals' := mapCells E r') rfl (fun t ht => ?_) (by rw [hv, List.length_set, hlen]; exact Nat.le_refl _) (by rw [hv]; exact set_vals hoff v), R.wf, R.tyf hu.fr⟩
  cases t with
  | mp => exact absurd rfl ht
  | of k p => rfl
theorem RepS.put_mp (R : RepS E S w s) (r' : MapR) {off : Nat} (v : Value) (hoff : off < E.sz + 8) (hv : mapCells E r' = (mapCells E s.mp).set off v) :
    Ext S w S (w.setCell ⟨s.m, off, none⟩ v) ∧ RepS E S (w.setCell ⟨s.m, off, none⟩ v) (s.setMp r') := by
  have hlen : off < (mapCells E s.mp).length := by simp [mapCells, E.zlen]; omega
  have hu := Upd.one w (b := s.m) (o := off) v (by rw [R.map.2 off _ (List.getElem?_eq_getElem hlen)]; rfl)
  exact ⟨(Ext.refl S w).upd hu (.inl R.inS_map), R.store_mp hu hlen hv⟩
theorem RepS.set_root (R : RepS E S w s) (p : Option Nat) (hu : Upd w w' s.m 2 [pv p]) : RepS E S w' (s.setMp { s.mp with root := p }) :=
  R.store_mp hu (by simp [mapCells]) (by simp [mapCells])
theorem RepS.set_mcount (R : RepS E S w s) (c : Int) (hu : Upd w w' s.m 3 [.int .i64 c]) : RepS E S w' (s.setMp { s.mp with count := c }) :=
  R.store_mp hu (by simp [mapCells]) (by simp [mapCells])

/-! ### a new node -/
theorem RepS.new_node (R : RepS E S w s) {n : Nat} {r : NodeR I} (hib : r.ib = none) (hi : r.items = []) (hc : r.icap = 0) (hnS : ¬ S n) (hx : Bx w n (nodeCells r))
    (hk : ∀ k, r.kids = some k → ¬ S k.hdr ∧ k.hdr ≠ n ∧ k.base = none ∧ k.kids = [] ∧ k.cap = 0 ∧ Bx w k.hdr [sv none 0 0]) :
    RepS E (fun i => S i ∨ i = n ∨ ∃ k, r.kids = some k ∧ i = k.hdr) w (s.setNd n r) := by
  have hnone : s.nd n = none := by
    cases h : s.nd n with
    | none => rfl
    | some q => exact absurd (R.inS_node h) hnS
  have hch : ∀ p, chunk E s (.of n p) = none := fun p => by simp [chunk, hnone]
  have hwf : r.wf := ⟨fun _ => ⟨hi, hc⟩, fun k hk' _ => ⟨(hk k hk').2.2.2.1, (hk k hk').2.2.2.2.1⟩, by rw [hi]; simp, fun k hk' => by rw [(hk k hk').2.2.2.1]; simp⟩
  refine ⟨?_, R.wf_set hwf, R.ty.set fun q hq => absurd hq (by rw [hib]; simp)⟩
  have R1 : Rep (fun i => S i ∨ i = n) w (upc (chunk E s) (.of n .node) (some ⟨n, 0, 4, nodeCells r⟩)) := by
    refine R.rep.new (x := .of n .node) (c := ⟨n, 0, 4, nodeCells r⟩) (upc_same _ _ _) (fun t ht => upc_ne _ _ ht) ⟨by simp [nodeCells], fun j hj => ?_, fun j v hv => ?_⟩ hnS (fun i h => .inl h) (.inr rfl) (fun i h => ?_)
    · have hj' : j < 4 := hj
      have hlt : j < (nodeCells r).length := by simp [nodeCells]; omega
      show (M w n (0 + j)).isSome = true
      rw [Nat.zero_add, hx.2 j _ (List.getElem?_eq_getElem hlt)]; rfl
    · show M w n (0 + j) = some v
      rw [Nat.zero_add]; exact hx.2 j v hv
    · rcases h with h | h
      · exact R.rep.lt i h
      · subst h; exact hx.1
  cases hks : r.kids with
  | none =>
    refine (R1.widen (S' := fun i => S i ∨ i = n ∨ ∃ k : KidR, none = some k ∧ i = k.hdr) (fun i h => h.elim .inl (fun h => .inr (.inl h))) (fun i h => ?_)).congr (chunk_set_eq (fun p => ?_) (fun t ht => ?_))
    · rcases h with h | h | ⟨_, h, _⟩
      · exact R.rep.lt i h
      · subst h; exact hx.1
      · cases h
    · cases p with
      | node => rw [upc_same]; rfl
      | items => rw [upc_ne _ _ (by simp), hch]; simp [chunkN, hib]
      | hdr => rw [upc_ne _ _ (by simp), hch]; simp [chunkN, hks]
      | arr => rw [upc_ne _ _ (by simp), hch]; simp [chunkN, hks]
    · exact upc_ne _ _ (ht _)
  | some k =>
    obtain ⟨h1, h2, h3, h4, h5, h6⟩ := hk k hks
    have R2 : Rep (fun i => S i ∨ i = n ∨ ∃ k', some k = some k' ∧ i = k'.hdr) w (upc (upc (chunk E s) (.of n .node) (some ⟨n, 0, 4, nodeCells r⟩)) (.of n .hdr) (some ⟨k.hdr, 0, 1, [sv none 0 0]⟩)) := by
      refine R1.new (x := .of n .hdr) (c := ⟨k.hdr, 0, 1, [sv none 0 0]⟩) (upc_same _ _ _) (fun t ht => upc_ne _ _ ht) ⟨by simp, fun j hj => ?_, fun j v hv => ?_⟩ (fun h => h.elim h1 h2) (fun i h => h.elim .inl (fun h => .inr (.inl h))) (.inr (.inr ⟨k, rfl, rfl⟩)) (fun i h => ?_)
      · have hj' : j < 1 := hj
        obtain rfl : j = 0 := by omega
        show (M w k.hdr (0 + 0)).isSome = true
        rw [h6.2 0 _ rfl]; rfl
      · show M w k.hdr (0 + j) = some v
        rw [Nat.zero_add]; exact h6.2 j v hv
      · rcases h with h | h | ⟨k', h, h'⟩
        · exact R.rep.lt i h
        · subst h; exact hx.1
        · obtain rfl := Option.some.inj h
          subst h'; exact h6.1
    refine R2.congr (chunk_set_eq (fun p => ?_) (fun t ht => ?_))
    · cases p with
      | node => rw [upc_ne _ _ (by simp), upc_same]; rfl
      | items => rw [upc_ne _ _ (by simp), upc_ne _ _ (by simp), hch]; simp [chunkN, hib]
      | hdr => rw [upc_same]; simp [chunkN, hks, h3, h4, h5]
      | arr => rw [upc_ne _ _ (by simp), upc_ne _ _ (by simp), hch]; simp [chunkN, hks, h3]
    · rw [upc_ne _ _ (ht _)]; exact upc_ne _ _ (ht _)
end
end Go.Proofs.Ytbjhnefienjncaa.Bt
