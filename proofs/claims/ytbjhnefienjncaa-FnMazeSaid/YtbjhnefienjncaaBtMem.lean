/- Chunks of memory: which cells a data structure of the program owns, and how one store, one append or one copy turns them. -/
import Derived.WalkKit
import Derived.Deep.QuietTactic
import Derived.BigQuiet
import Derived.Laws.CopyOwn
import Derived.Deep.RegionLaw
namespace Go.Proofs.Ytbjhnefienjncaa.Bt
set_option linter.unusedVariables false
set_option linter.unusedSimpArgs false
open Go Go.RowKit

/-! ### cells that are not frozen -/
/-- What a cell that is not frozen holds. -/
def M (w : World) (b o : Nat) : Option Value := if w.frozen? ⟨b, o, none⟩ = true then none else w.cell? ⟨b, o, none⟩

theorem M_cell {w : World} {b o : Nat} {v : Value} (h : M w b o = some v) : w.cell? ⟨b, o, none⟩ = some v := by
  unfold M at h; split at h
  · cases h
  · exact h
theorem M_froz {w : World} {b o : Nat} {v : Value} (h : M w b o = some v) : w.frozen? ⟨b, o, none⟩ = false := by
  unfold M at h; split at h
  · cases h
  · rename_i hf; simpa using hf
theorem M_of {w : World} {b o : Nat} {v : Value} (h : w.cell? ⟨b, o, none⟩ = some v) (hf : w.frozen? ⟨b, o, none⟩ = false) : M w b o = some v := by
  unfold M; rw [hf]; simpa using h
theorem M_lt {w : World} {b o : Nat} {v : Value} (h : M w b o = some v) : b < w.heap.size := World.block_lt_of_cell? w _ (M_cell h)
theorem M_lt' {w : World} {b o : Nat} (h : (M w b o).isSome = true) : b < w.heap.size := by
  obtain ⟨v, hv⟩ := Option.isSome_iff_exists.1 h
  exact M_lt hv
theorem M_block {w w' : World} {b o : Nat} (h : w'.heap[b]? = w.heap[b]?) : M w' b o = M w b o := by
  unfold M
  rw [World.cell?_of_block (a := ⟨b, o, none⟩) (w := w) (w' := w') h, World.frozen?_of_block (a := ⟨b, o, none⟩) (w := w) (w' := w') h]
theorem M_drew (w : World) (b o : Nat) : M w.drew b o = M w b o := rfl
theorem M_drewN (w : World) (n b o : Nat) : M (w.drewN n) b o = M w b o := rfl
theorem M_alloc_old (w : World) (x : Obj) {b : Nat} (o : Nat) (h : b < w.heap.size) : M (w.alloc x) b o = M w b o := M_block (Below.heap_alloc w x b h)
theorem M_alloc_new (w : World) (c : Array Value) (t : TypeId) (o : Nat) : M (w.alloc (.cells c t)) w.heap.size o = c[o]? := by
  unfold M
  have h1 : (w.alloc (.cells c t)).frozen? ⟨w.heap.size, o, none⟩ = false := by simp
  have h2 : (w.alloc (.cells c t)).cell? ⟨w.heap.size, o, none⟩ = c[o]? := by simp
  rw [h1, h2]; rfl
theorem M_setCell (w : World) {b o : Nat} (v : Value) (h : (M w b o).isSome = true) (b' o' : Nat) :
    M (w.setCell ⟨b, o, none⟩ v) b' o' = if b' = b ∧ o' = o then some v else M w b' o' := by
  obtain ⟨u, hu⟩ := Option.isSome_iff_exists.1 h
  unfold M
  rw [World.frozen?_setCell]
  by_cases hb : b' = b ∧ o' = o
  · obtain ⟨rfl, rfl⟩ := hb
    rw [M_froz hu, World.cell?_setCell_same w _ _ (M_cell hu)]; simp
  · rw [if_neg hb, World.cell?_setCell_other]
    intro e; injection e with e1 e2; exact hb ⟨e1.symm, e2.symm⟩

/-- The type of the variables of a block. -/
def bty (w : World) (b : Nat) : Option TypeId := match w.heap[b]? with
  | some (.cells _ t _) => some t
  | _ => none
theorem bty_eq {w w' : World} {b : Nat} (h : w'.heap[b]? = w.heap[b]?) : bty w' b = bty w b := by unfold bty; rw [h]
theorem bty_of {w : World} {b : Nat} {c : Array Value} {t : TypeId} {f : Nat × Nat} (h : w.heap[b]? = some (.cells c t f)) : bty w b = some t := by unfold bty; rw [h]
theorem bty_drew (w : World) (b : Nat) : bty w.drew b = bty w b := rfl
theorem bty_drewN (w : World) (n b : Nat) : bty (w.drewN n) b = bty w b := rfl
theorem bty_alloc_old (w : World) (x : Obj) {b : Nat} (h : b < w.heap.size) : bty (w.alloc x) b = bty w b := bty_eq (Below.heap_alloc w x b h)
theorem bty_alloc_new (w : World) (c : Array Value) (t : TypeId) : bty (w.alloc (.cells c t)) w.heap.size = some t := by
  unfold bty
  have h : (w.alloc (.cells c t)).heap[w.heap.size]? = some (.cells c t) := by show (w.heap.push _)[w.heap.size]? = _; simp
  rw [h]
theorem bty_setCell (w : World) (a : Addr) (v : Value) (b : Nat) : bty (w.setCell a v) b = bty w b := by
  unfold bty World.setCell
  simp only [Array.getElem?_modify]
  by_cases h : a.block = b
  · subst h
    rw [if_pos rfl]
    cases w.heap[a.block]? with
    | none => rfl
    | some o => cases o <;> rfl
  · rw [if_neg h]
theorem bty_lt {w : World} {b : Nat} {t : TypeId} (h : bty w b = some t) : b < w.heap.size := by
  unfold bty at h
  rcases Nat.lt_or_ge b w.heap.size with h' | h'
  · exact h'
  · rw [Array.getElem?_eq_none h'] at h; cases h

/-! ### what has changed between two worlds -/
/-- Nothing outside the blocks of S has changed; there may be new blocks. -/
structure Fr (S : Nat → Prop) (w w' : World) : Prop where
  os : w'.os = w.os
  tape : w'.tape = w.tape
  output : w'.output = w.output
  size : w.heap.size ≤ w'.heap.size
  block : ∀ k, k < w.heap.size → ¬ S k → w'.heap[k]? = w.heap[k]?
  ty : ∀ k, k < w.heap.size → bty w' k = bty w k

theorem Fr.refl (S : Nat → Prop) (w : World) : Fr S w w := ⟨rfl, rfl, rfl, Nat.le_refl _, fun _ _ _ => rfl, fun _ _ => rfl⟩
theorem Fr.trans {S S' : Nat → Prop} {a b c : World} (h : Fr S a b) (k : Fr S' b c) (hS : ∀ i, S' i → S i ∨ a.heap.size ≤ i) : Fr S a c :=
  ⟨k.os.trans h.os, k.tape.trans h.tape, k.output.trans h.output, Nat.le_trans h.size k.size, fun i hi hn =>
    (k.block i (Nat.lt_of_lt_of_le hi h.size) (fun hs => by rcases hS i hs with h' | h'; exact hn h'; omega)).trans (h.block i hi hn),
    fun i hi => (k.ty i (Nat.lt_of_lt_of_le hi h.size)).trans (h.ty i hi)⟩
theorem Fr.mono {S S' : Nat → Prop} {a b : World} (h : Fr S a b) (hS : ∀ i, S i → S' i) : Fr S' a b :=
  ⟨h.os, h.tape, h.output, h.size, fun i hi hn => h.block i hi (fun hs => hn (hS i hs)), h.ty⟩
theorem Fr.drew {S : Nat → Prop} {a b : World} (h : Fr S a b) : Fr S a b.drew := ⟨h.os, h.tape, h.output, h.size, h.block, h.ty⟩
theorem Fr.drewN {S : Nat → Prop} {a b : World} (h : Fr S a b) (n : Nat) : Fr S a (b.drewN n) := ⟨h.os, h.tape, h.output, h.size, h.block, h.ty⟩
theorem Fr.alloc {S : Nat → Prop} {a b : World} (h : Fr S a b) (x : Obj) : Fr S a (b.alloc x) :=
  ⟨h.os, h.tape, h.output, Nat.le_trans h.size (by simp), fun i hi hn => (Below.heap_alloc b x i (Nat.lt_of_lt_of_le hi h.size)).trans (h.block i hi hn), fun i hi => (bty_alloc_old b x (Nat.lt_of_lt_of_le hi h.size)).trans (h.ty i hi)⟩
theorem Fr.M {S : Nat → Prop} {a b : World} (h : Fr S a b) {i : Nat} (hi : i < a.heap.size) (hn : ¬ S i) (o : Nat) : M b i o = M a i o := M_block (h.block i hi hn)
theorem Fr.cell {S : Nat → Prop} {a b : World} (h : Fr S a b) {x : Addr} (hi : x.block < a.heap.size) (hn : ¬ S x.block) : b.cell? x = a.cell? x := World.cell?_of_block (w := a) (h.block x.block hi hn)
theorem Fr.froz {S : Nat → Prop} {a b : World} (h : Fr S a b) {x : Addr} (hi : x.block < a.heap.size) (hn : ¬ S x.block) : b.frozen? x = a.frozen? x := World.frozen?_of_block (w := a) (h.block x.block hi hn)
theorem Fr.below {S : Nat → Prop} {a b : World} {B : Nat} (h : Fr S a b) (hB : B ≤ a.heap.size) (hS : ∀ i, S i → B ≤ i) : Below B a b :=
  ⟨h.os, h.tape, h.output, h.size, fun i hi => h.block i (by omega) (fun hs => by have := hS i hs; omega)⟩

/-- The cells from (b, o) on now hold vs; no other cell has changed. -/
structure Upd (w w' : World) (b o : Nat) (vs : List Value) : Prop where
  cells : ∀ b' o', M w' b' o' = if b' = b ∧ o ≤ o' ∧ o' < o + vs.length then vs[o' - o]? else M w b' o'
  size : w'.heap.size = w.heap.size
  fr : Fr (· = b) w w'

theorem Fr.setCell (w : World) (b o : Nat) (v : Value) : Fr (· = b) w (w.setCell ⟨b, o, none⟩ v) :=
  ⟨rfl, rfl, rfl, by simp [World.setCell], fun k _ hk => Below.heap_setCell w ⟨b, o, none⟩ v k hk, fun k _ => bty_setCell w _ v k⟩
theorem Upd.one (w : World) {b o : Nat} (v : Value) (h : (M w b o).isSome = true) : Upd w (w.setCell ⟨b, o, none⟩ v) b o [v] where
  cells b' o' := by
    rw [M_setCell w v h]
    by_cases hb : b' = b ∧ o' = o
    · obtain ⟨rfl, rfl⟩ := hb; simp
    · rw [if_neg hb, if_neg (by simp only [List.length_cons, List.length_nil]; omega)]
  size := by simp [World.setCell]
  fr := Fr.setCell w b o v
theorem Upd.drew {w w' : World} {b o : Nat} {vs : List Value} (h : Upd w w' b o vs) : Upd w w'.drew b o vs := ⟨h.cells, h.size, h.fr.drew⟩
theorem Upd.drewN {w w' : World} {b o : Nat} {vs : List Value} (h : Upd w w' b o vs) (n : Nat) : Upd w (w'.drewN n) b o vs := ⟨h.cells, h.size, h.fr.drewN n⟩
theorem Upd.from_drew {w w' : World} {b o : Nat} {vs : List Value} (h : Upd w.drew w' b o vs) : Upd w w' b o vs := ⟨h.cells, h.size, ⟨h.fr.os, h.fr.tape, h.fr.output, h.fr.size, h.fr.block, h.fr.ty⟩⟩
theorem Upd.from_drewN {w w' : World} {n b o : Nat} {vs : List Value} (h : Upd (w.drewN n) w' b o vs) : Upd w w' b o vs := ⟨h.cells, h.size, ⟨h.fr.os, h.fr.tape, h.fr.output, h.fr.size, h.fr.block, h.fr.ty⟩⟩
/-- A further cell right behind. -/
theorem Upd.snoc {w w' : World} {b o : Nat} {vs : List Value} (h : Upd w w' b o vs) (v : Value) {o' : Nat} (ho : o' = o + vs.length) (hs : (M w b o').isSome = true) :
    Upd w (w'.setCell ⟨b, o', none⟩ v) b o (vs ++ [v]) where
  cells b' p := by
    subst ho
    have hs' : (M w' b (o + vs.length)).isSome = true := by rw [h.cells, if_neg (by omega)]; exact hs
    rw [M_setCell w' v hs', h.cells]
    by_cases h1 : b' = b ∧ p = o + vs.length
    · obtain ⟨rfl, rfl⟩ := h1
      rw [if_pos ⟨rfl, rfl⟩, if_pos (by simp), Nat.add_sub_cancel_left]; simp
    · rw [if_neg h1]
      by_cases h2 : b' = b ∧ o ≤ p ∧ p < o + vs.length
      · rw [if_pos h2, if_pos (by simp; omega), List.getElem?_append_left (by omega)]
      · rw [if_neg h2, if_neg (by simp; omega)]
  size := by simp [World.setCell, h.size]
  fr := h.fr.trans (Fr.setCell w' b o' v) (fun i hi => .inl hi)
theorem Upd.two (w : World) {b o : Nat} (v u : Value) (h : (M w b o).isSome = true) (h' : (M w b (o + 1)).isSome = true) :
    Upd w ((w.setCell ⟨b, o, none⟩ v).setCell ⟨b, o + 1, none⟩ u) b o [v, u] := (Upd.one w v h).snoc u rfl h'
theorem Upd.setCells : ∀ (vs : List Value) (w : World) (b o : Nat), (∀ j, j < vs.length → (M w b (o + j)).isSome = true) → Upd w (w.setCells b o vs) b o vs
  | [], w, b, o, _ => ⟨fun b' o' => by rw [if_neg (by simp only [List.length_nil]; omega)]; rfl, rfl, Fr.refl _ _⟩
  | v :: vs, w, b, o, h => by
    have h0 : (M w b o).isSome = true := by have := h 0 (by simp); simpa using this
    have h1 := Upd.one w v h0
    have ih := Upd.setCells vs (w.setCell ⟨b, o, none⟩ v) b (o + 1) (fun j hj => by
      rw [h1.cells, if_neg (by simp only [List.length_cons, List.length_nil]; omega)]
      have := h (j + 1) (by simp; omega)
      rwa [show o + 1 + j = o + (j + 1) by omega])
    refine ⟨fun b' o' => ?_, ?_, ?_⟩
    · show M ((w.setCell ⟨b, o, none⟩ v).setCells b (o + 1) vs) b' o' = _
      rw [ih.cells, h1.cells]
      by_cases e1 : b' = b ∧ o + 1 ≤ o' ∧ o' < o + 1 + vs.length
      · rw [if_pos e1, if_pos (by simp; omega)]
        obtain ⟨k, hk⟩ : ∃ k, o' = o + 1 + k := ⟨o' - (o + 1), by omega⟩
        subst hk
        rw [show o + 1 + k - (o + 1) = k by omega, show o + 1 + k - o = k + 1 by omega]; rfl
      · rw [if_neg e1]
        by_cases e2 : b' = b ∧ o' = o
        · obtain ⟨rfl, rfl⟩ := e2
          rw [if_pos (by simp), if_pos (by simp)]; simp
        · rw [if_neg (by simp only [List.length_cons, List.length_nil]; omega), if_neg (by simp only [List.length_cons]; omega)]
    · show ((w.setCell ⟨b, o, none⟩ v).setCells b (o + 1) vs).heap.size = _
      rw [ih.size, h1.size]
    · exact h1.fr.trans ih.fr (fun i hi => .inl hi)

/-! ### chunks -/
/-- Cells of one block that belong together: from o on, cap of them; the first ones are known. -/
structure Ch where
  b : Nat
  o : Nat
  cap : Nat
  vals : List Value

def Ch.In (c : Ch) (b o : Nat) : Prop := b = c.b ∧ c.o ≤ o ∧ o < c.o + c.cap
def Ch.Off (c d : Ch) : Prop := ∀ b o, c.In b o → d.In b o → False
structure Ch.Ok (w : World) (c : Ch) : Prop where
  len : c.vals.length ≤ c.cap
  some : ∀ j, j < c.cap → (M w c.b (c.o + j)).isSome = true
  val : ∀ j v, c.vals[j]? = .some v → M w c.b (c.o + j) = .some v

theorem Ch.Off.symm {c d : Ch} (h : c.Off d) : d.Off c := fun b o h1 h2 => h b o h2 h1

/-- The world holds all chunks; no two of them meet; all lie in the blocks of S. -/
structure Rep {τ : Type} (S : Nat → Prop) (w : World) (G : τ → Option Ch) : Prop where
  ok : ∀ x c, G x = some c → c.Ok w
  off : ∀ x y c d, x ≠ y → G x = some c → G y = some d → c.Off d
  ins : ∀ x c, G x = some c → S c.b
  lt : ∀ b, S b → b < w.heap.size

section
variable {τ : Type} {S : Nat → Prop} {w w' : World} {G : τ → Option Ch}

theorem Rep.val (R : Rep S w G) {x : τ} {c : Ch} (hx : G x = some c) {j : Nat} {v : Value} (hv : c.vals[j]? = some v) {b o : Nat} (hb : b = c.b) (ho : o = c.o + j) : M w b o = some v := by
  subst hb; subst ho; exact (R.ok x c hx).val j v hv

/-- Nothing of the chunks has changed. -/
theorem Rep.keep (R : Rep S w G) {S1 : Nat → Prop} (hf : Fr S1 w w') (hd : ∀ i, S i → ¬ S1 i) : Rep S w' G where
  ok x c hx := ⟨(R.ok x c hx).len, fun j hj => by rw [hf.M (R.lt _ (R.ins x c hx)) (hd _ (R.ins x c hx))]; exact (R.ok x c hx).some j hj,
    fun j v hv => by rw [hf.M (R.lt _ (R.ins x c hx)) (hd _ (R.ins x c hx))]; exact (R.ok x c hx).val j v hv⟩
  off := R.off
  ins := R.ins
  lt b hb := Nat.lt_of_lt_of_le (R.lt b hb) hf.size
theorem Rep.drew (R : Rep S w G) : Rep S w.drew G := R.keep (S1 := fun _ => False) (Fr.refl _ w).drew (fun _ _ h => h)
theorem Rep.drewN (R : Rep S w G) (n : Nat) : Rep S (w.drewN n) G := R.keep (S1 := fun _ => False) ((Fr.refl _ w).drewN n) (fun _ _ h => h)
theorem Rep.alloc (R : Rep S w G) (x : Obj) : Rep S (w.alloc x) G := R.keep (S1 := fun _ => False) ((Fr.refl _ w).alloc x) (fun _ _ h => h)
theorem Rep.upd_out (R : Rep S w G) {b o : Nat} {vs : List Value} (hu : Upd w w' b o vs) (hb : ¬ S b) : Rep S w' G := R.keep hu.fr (fun _ hi e => hb (e ▸ hi))
theorem Rep.widen (R : Rep S w G) {S' : Nat → Prop} (h : ∀ i, S i → S' i) (hl : ∀ i, S' i → i < w.heap.size) : Rep S' w G := ⟨R.ok, R.off, fun x c hx => h _ (R.ins x c hx), hl⟩

/-- A store into one chunk. -/
theorem Rep.store (R : Rep S w G) {G' : τ → Option Ch} {x : τ} {c : Ch} (hx : G x = some c) {b o j : Nat} {vs : List Value} (hu : Upd w w' b o vs) (hb : b = c.b) (ho : o = c.o + j) (hj : j + vs.length ≤ c.cap)
    {vals' : List Value} (hx' : G' x = some ⟨c.b, c.o, c.cap, vals'⟩) (hG : ∀ y, y ≠ x → G' y = G y) (hlen : vals'.length ≤ c.cap)
    (hv : ∀ i u, vals'[i]? = some u → (j ≤ i ∧ i < j + vs.length ∧ vs[i - j]? = some u) ∨ (¬ (j ≤ i ∧ i < j + vs.length) ∧ c.vals[i]? = some u)) : Rep S w' G' := by
  subst hb; subst ho
  have hcx := R.ok x c hx
  have sm : ∀ b' o', (M w b' o').isSome = true → (M w' b' o').isSome = true := fun b' o' h => by
    rw [hu.cells]; split
    · rw [List.getElem?_eq_getElem (by omega)]; rfl
    · exact h
  refine ⟨fun y d hy => ?_, fun y z d e hne hy hz => ?_, fun y d hy => ?_, fun b hb => by rw [hu.size]; exact R.lt b hb⟩
  · by_cases hyx : y = x
    · subst hyx
      rw [hx'] at hy; obtain rfl := Option.some.inj hy
      refine ⟨hlen, fun i hi => sm _ _ (hcx.some i hi), fun i u hi => ?_⟩
      show M w' c.b (c.o + i) = some u
      rw [hu.cells]
      rcases hv i u hi with ⟨h1, h2, h3⟩ | ⟨h1, h2⟩
      · rw [if_pos ⟨rfl, by omega, by omega⟩, show c.o + i - (c.o + j) = i - j by omega]; exact h3
      · rw [if_neg (by omega)]; exact hcx.val i u h2
    · rw [hG y hyx] at hy
      have hd := R.ok y d hy
      have hne : ∀ i, i < d.cap → M w' d.b (d.o + i) = M w d.b (d.o + i) := fun i hi => by
        rw [hu.cells, if_neg]
        rintro ⟨h1, h2, h3⟩
        exact R.off x y c d (Ne.symm hyx) hx hy d.b (d.o + i) ⟨h1, by omega, by omega⟩ ⟨rfl, by omega, by omega⟩
      refine ⟨hd.len, fun i hi => by rw [hne i hi]; exact hd.some i hi, fun i u hi => ?_⟩
      have hil : i < d.vals.length := (List.getElem?_eq_some_iff.1 hi).1
      rw [hne i (by have := hd.len; omega)]; exact hd.val i u hi
  · by_cases hyx : y = x
    · subst hyx
      rw [hx'] at hy; obtain rfl := Option.some.inj hy
      rw [hG z (Ne.symm hne)] at hz
      exact R.off y z c e hne hx hz
    · rw [hG y hyx] at hy
      by_cases hzx : z = x
      · subst hzx
        rw [hx'] at hz; obtain rfl := Option.some.inj hz
        exact R.off y z d c hne hy hx
      · rw [hG z hzx] at hz
        exact R.off y z d e hne hy hz
  · by_cases hyx : y = x
    · subst hyx
      rw [hx'] at hy; obtain rfl := Option.some.inj hy
      exact R.ins y c hx
    · rw [hG y hyx] at hy; exact R.ins y d hy

/-- A chunk more, or another one in a chunk's place, that lies apart from all others. -/
theorem Rep.put (R : Rep S w G) {G' : τ → Option Ch} {S' : Nat → Prop} {x : τ} {c : Ch} (hx' : G' x = some c) (hG : ∀ y, y ≠ x → G' y = G y) (hok : c.Ok w)
    (hoff : ∀ y d, y ≠ x → G y = some d → c.Off d) (hS : ∀ i, S i → S' i) (hc : S' c.b) (hlt : ∀ i, S' i → i < w.heap.size) : Rep S' w G' := by
  refine ⟨fun y d hy => ?_, fun y z d e hne hy hz => ?_, fun y d hy => ?_, hlt⟩
  · by_cases hyx : y = x
    · subst hyx; rw [hx'] at hy; obtain rfl := Option.some.inj hy; exact hok
    · rw [hG y hyx] at hy; exact R.ok y d hy
  · by_cases hyx : y = x
    · subst hyx; rw [hx'] at hy; obtain rfl := Option.some.inj hy
      rw [hG z (Ne.symm hne)] at hz; exact hoff z e (Ne.symm hne) hz
    · rw [hG y hyx] at hy
      by_cases hzx : z = x
      · subst hzx; rw [hx'] at hz; obtain rfl := Option.some.inj hz; exact (hoff y d hyx hy).symm
      · rw [hG z hzx] at hz; exact R.off y z d e hne hy hz
  · by_cases hyx : y = x
    · subst hyx; rw [hx'] at hy; obtain rfl := Option.some.inj hy; exact hc
    · rw [hG y hyx] at hy; exact hS _ (R.ins y d hy)

/-- A chunk is forgotten. -/
theorem Rep.drop (R : Rep S w G) {G' : τ → Option Ch} {x : τ} (hx' : G' x = none) (hG : ∀ y, y ≠ x → G' y = G y) : Rep S w G' := by
  have hs : ∀ y d, G' y = some d → G y = some d := fun y d hy => by
    by_cases hyx : y = x
    · subst hyx; rw [hx'] at hy; cases hy
    · rw [← hG y hyx]; exact hy
  exact ⟨fun y d hy => R.ok y d (hs y d hy), fun y z d e hne hy hz => R.off y z d e hne (hs y d hy) (hs z e hz), fun y d hy => R.ins y d (hs y d hy), R.lt⟩

/-- A chunk in a new block. -/
theorem Rep.new (R : Rep S w G) {G' : τ → Option Ch} {S' : Nat → Prop} {x : τ} {c : Ch} (hx' : G' x = some c) (hG : ∀ y, y ≠ x → G' y = G y) (hok : c.Ok w) (hnew : ¬ S c.b)
    (hS : ∀ i, S i → S' i) (hc : S' c.b) (hlt : ∀ i, S' i → i < w.heap.size) : Rep S' w G' :=
  R.put hx' hG hok (fun y d _ hy b o h1 h2 => hnew (by have := R.ins y d hy; rwa [← h2.1, h1.1] at this)) hS hc hlt

/-- Less is known of a chunk, or less of it is owned. -/
theorem Rep.less (R : Rep S w G) {G' : τ → Option Ch} {x : τ} {c d : Ch} (hx : G x = some c) (hx' : G' x = some d) (hG : ∀ y, y ≠ x → G' y = G y) (hok : d.Ok w) (hb : d.b = c.b) (hin : ∀ b o, d.In b o → c.In b o) : Rep S w G' :=
  R.put hx' hG hok (fun y e hne hy b o h1 h2 => R.off x y c e (Ne.symm hne) hx hy b o (hin b o h1) h2) (fun _ h => h) (by rw [hb]; exact R.ins x c hx) R.lt
end


/-! ### append -/
def sv (base : Option (Nat × Nat)) (n cap : Nat) : Value := .slice (base.map fun p => ⟨p.1, p.2, none⟩) n cap
def pv (p : Option Nat) : Value := .pointer (p.map fun n => ⟨n, 0, none⟩)

theorem sv_inj {b o n c : Nat} {ib : Option (Nat × Nat)} {n' c' : Nat} (h : Value.slice (some ⟨b, o, none⟩) n c = sv ib n' c') : ib = some (b, o) ∧ c = c' := by
  cases ib with
  | none => simp [sv] at h
  | some p =>
    obtain ⟨p1, p2⟩ := p
    simp only [sv, Option.map_some, Value.slice.injEq, Option.some.injEq, Addr.mk.injEq] at h
    obtain ⟨⟨rfl, rfl, _⟩, _, rfl⟩ := h
    exact ⟨rfl, rfl⟩
theorem Rep.congr {τ : Type} {S : Nat → Prop} {w : World} {G G' : τ → Option Ch} (R : Rep S w G) (h : ∀ x, G' x = G x) : Rep S w G' := by
  rw [show G' = G from funext h]; exact R

/-- What append makes of a slice that owns its array: the cells behind it are written, or there is a new array. -/
def App (e : TypeId) (w w' : World) (base : Option (Nat × Nat)) (n cap sz m : Nat) (olds news : List Value) (v' : Value) : Prop :=
  (∃ b o, base = some (b, o) ∧ n + m ≤ cap ∧ v' = sv (some (b, o)) (n + m) cap ∧ Upd w w' b (o + n * sz) news) ∨
  (∃ g cap', v' = sv (some (g, 0)) (n + m) cap' ∧ w.heap.size ≤ g ∧ g < w'.heap.size ∧ n + m ≤ cap' ∧ cap' ≤ maxLen ∧ (⟨g, 0, cap' * sz, olds ++ news⟩ : Ch).Ok w' ∧ bty w' g = some e ∧ Fr (fun _ => False) w w')

theorem Fr.of_grown {w w' : World} (h : w.grownBy w' none) : Fr (fun _ => False) w w' := ⟨h.os, h.tape, h.output, h.size, fun k hk _ => h.block k hk (by simp), fun k hk => bty_eq (h.block k hk (by simp))⟩

/-- A row that the call owns, as a chunk. -/
theorem Ch.of_owns {w : World} {B : Nat} {e : TypeId} {sz : Nat} {v : Value} {n : Nat} {xs : List Value} (h : w.ownsRow B e sz v n xs) (hn : 0 < n) :
    ∃ g cap, v = sv (some (g, 0)) n cap ∧ B ≤ g ∧ g < w.heap.size ∧ n ≤ cap ∧ cap ≤ maxLen ∧ bty w g = some e ∧ (⟨g, 0, cap * sz, xs⟩ : Ch).Ok w := by
  obtain ⟨hl, h⟩ := h
  rcases h with ⟨rfl, h0⟩ | ⟨g, cap, cur, rfl, hB, hg, hc, hm, hs, ht⟩
  · omega
  refine ⟨g, cap, rfl, hB, (Array.getElem?_eq_some_iff.1 hg).1, hc, hm, bty_of hg, ?_⟩
  have hM : ∀ j, M w g j = cur[j]? := fun j => by
    unfold M
    have h1 : w.frozen? ⟨g, j, none⟩ = false := by simp [World.frozen?, hg]
    have h2 : w.cell? ⟨g, j, none⟩ = cur[j]? := by simp [World.cell?, hg]
    rw [h1, h2]; rfl
  refine ⟨?_, fun j hj => ?_, fun j v hv => ?_⟩
  · show xs.length ≤ cap * sz
    rw [hl]; exact Nat.mul_le_mul_right _ hc
  · show (M w g (0 + j)).isSome = true
    have hj' : j < cur.size := by rw [hs]; exact hj
    rw [Nat.zero_add, hM, Array.getElem?_eq_getElem hj']; rfl
  · show M w g (0 + j) = some v
    have hv' : xs[j]? = some v := hv
    rw [Nat.zero_add, hM]
    rw [← ht, List.getElem?_take] at hv'
    split at hv'
    · simpa using hv'
    · cases hv'

section
variable {P : Program} {ops : Array Oper} {o : Oper} {a : Act} {w : World} {Q : Exit → Act → World → Prop}

theorem run_app (t ty : TypeId) (e : TypeId) (i : TypeInfo) (z : Value) (size bytes : Nat) (h1 : P.underlying t = some (.slice e)) (h2 : P.info? e = some i) (h3 : i.zero = some z) (h4 : i.size = size) (h5 : i.bytes = bytes) (h6 : z.cells.size = size) (h7 : 0 < size)
    (base : Option (Nat × Nat)) (n cap : Nat) (olds : List Value) (hnone : base = none → n = 0 ∧ cap = 0) (hlo : olds.length = n * size)
    (hold : ∀ b o, base = some (b, o) → (⟨b, o, cap * size, olds⟩ : Ch).Ok w)
    (ad : Addr) (m c : Nat) (news : List Value) (hm : 0 < m) (hn : news.length = m * size) (hc : ∀ j u, news[j]? = some u → w.cell? (ad.add j) = some u) (h1c : ∀ u ∈ news, u.oneCell' = true)
    (b1 : n + m ≤ maxLen) (b2 : (n + m) * bytes ≤ 140737488355328) :
    ∃ v' w', (Builtin.append_ #[t, t] ty #[sv base n cap, .slice (some ad) m c]).run P w = .ok v' w' ∧ App e w w' base n cap size m olds news v' := by
  by_cases hr : n + m ≤ cap
  · obtain ⟨⟨b, o⟩, rfl⟩ : ∃ p, base = some p := by
      cases base with
      | none => have := hnone rfl; omega
      | some p => exact ⟨p, rfl⟩
    have ho := hold b o rfl
    have hroom : n * size + news.length ≤ cap * size := by rw [hn, ← Nat.add_mul]; exact Nat.mul_le_mul_right _ hr
    have hcell : ∀ j, j < news.length → (M w b (o + n * size + j)).isSome = true := fun j hj => by rw [Nat.add_assoc]; exact ho.some (n * size + j) (by show _ < cap * size; omega)
    subst h4
    have hrun := run_append_room_cells (P := P) w t ty e i h1 h2 b o n cap ad m c news hn hc h1c hr
      (fun j hj => by obtain ⟨u, hu⟩ := Option.isSome_iff_exists.1 (hcell j hj); rw [M_cell hu]; rfl)
      (fun j hj => by obtain ⟨u, hu⟩ := Option.isSome_iff_exists.1 (hcell j hj); exact M_froz hu)
    exact ⟨_, _, hrun, .inl ⟨b, o, rfl, hr, rfl, Upd.setCells news w b (o + n * i.size) hcell⟩⟩
  · have key : ∀ v' w', w'.ownsRow w.heap.size e size v' (n + m) (olds ++ news) → w.grownBy w' none → App e w w' base n cap size m olds news v' := fun v' w' r1 r2 => by
      obtain ⟨g, cap', hv, hg1, hg2, hc1, hc2, hty, hok⟩ := Ch.of_owns r1 (by omega)
      exact .inr ⟨g, cap', hv, hg1, hg2, hc1, hc2, hok, hty, Fr.of_grown r2⟩
    cases base with
    | some p =>
      obtain ⟨b, o⟩ := p
      have ho := hold b o rfl
      obtain ⟨v', w', hrun, r1, r2⟩ := run_append_arg_grows (P := P) w t ty e i z size bytes h1 h2 h3 h4 h5 h6 h7 ⟨b, o, none⟩ n cap olds hlo
        (fun j u hj => by rw [Addr.add_lit]; exact M_cell (ho.val j u hj)) ad m c news hn hc (by omega) b1 b2
      exact ⟨v', w', hrun, key v' w' r1 r2⟩
    | none =>
      obtain ⟨rfl, rfl⟩ := hnone rfl
      obtain rfl : olds = [] := List.eq_nil_of_length_eq_zero (by simpa using hlo)
      obtain ⟨v', w', hrun, r1, r2, _⟩ := run_append_own (P := P) w w.heap.size t ty e i z size bytes h1 h2 h3 h4 h5 h6 h7 (.slice none 0 0) 0 [] (World.ownsRow_nil w _ e size) ad m c news hn hc h1c b1 b2 (Nat.le_refl _)
      exact ⟨v', w', hrun, key v' w' r1 r2⟩

/-- append, as a step of a region that draws its order. -/
theorem step_app {K : Act → World → Prop} {F : Prop} (hg : o.guard = none) (s x : Operand) (t : TypeId) (hop : o.op = Op.call { callee := Callee.builtin Builtin.append, args := #[s, x], argTypes := #[t, t] })
    (e : TypeId) (i : TypeInfo) (z : Value) (size bytes : Nat) (h1 : P.underlying t = some (.slice e)) (h2 : P.info? e = some i) (h3 : i.zero = some z) (h4 : i.size = size) (h5 : i.bytes = bytes) (h6 : z.cells.size = size) (h7 : 0 < size)
    (base : Option (Nat × Nat)) (n cap : Nat) (olds : List Value) (hs : a.eval s = sv base n cap) (hnone : base = none → n = 0 ∧ cap = 0) (hlo : olds.length = n * size)
    (hold : ∀ b o, base = some (b, o) → (⟨b, o, cap * size, olds⟩ : Ch).Ok w)
    (ad : Addr) (m c : Nat) (news : List Value) (hx : a.eval x = .slice (some ad) m c) (hm : 0 < m) (hn : news.length = m * size) (hc : ∀ j u, news[j]? = some u → w.cell? (ad.add j) = some u) (h1c : ∀ u ∈ news, u.oneCell' = true)
    (b1 : n + m ≤ maxLen) (b2 : (n + m) * bytes ≤ 140737488355328)
    (hK : ∀ v' w', App e w w' base n cap size m olds news v' → K (a.put o.dst v') w') :
    if Region.wanted o (yielded ops a.tmps) = true then Oper.wp P o a w K Q else F := by
  have hw : Region.wanted o (yielded ops a.tmps) = true := by simp [Region.wanted, hg]
  rw [if_pos hw]
  obtain ⟨v', w', hrun, happ⟩ := run_app (P := P) (w := w) t o.type e i z size bytes h1 h2 h3 h4 h5 h6 h7 base n cap olds hnone hlo hold ad m c news hm hn hc h1c b1 b2
  unfold Oper.wp
  simp [execOp, hop, resolve, invoke, builtin, hs, hx, hrun, Result.andThen]
  exact hK v' w' happ

theorem wpList_app {rest : List Oper} (hg : o.guard = none) (s x : Operand) (t : TypeId) (hop : o.op = Op.call { callee := Callee.builtin Builtin.append, args := #[s, x], argTypes := #[t, t] })
    (e : TypeId) (i : TypeInfo) (z : Value) (size bytes : Nat) (h1 : P.underlying t = some (.slice e)) (h2 : P.info? e = some i) (h3 : i.zero = some z) (h4 : i.size = size) (h5 : i.bytes = bytes) (h6 : z.cells.size = size) (h7 : 0 < size)
    (base : Option (Nat × Nat)) (n cap : Nat) (olds : List Value) (hs : a.eval s = sv base n cap) (hnone : base = none → n = 0 ∧ cap = 0) (hlo : olds.length = n * size)
    (hold : ∀ b o, base = some (b, o) → (⟨b, o, cap * size, olds⟩ : Ch).Ok w)
    (ad : Addr) (m c : Nat) (news : List Value) (hx : a.eval x = .slice (some ad) m c) (hm : 0 < m) (hn : news.length = m * size) (hc : ∀ j u, news[j]? = some u → w.cell? (ad.add j) = some u) (h1c : ∀ u ∈ news, u.oneCell' = true)
    (b1 : n + m ≤ maxLen) (b2 : (n + m) * bytes ≤ 140737488355328)
    (hK : ∀ v' w', App e w w' base n cap size m olds news v' → wpList P ops Q rest (a.put o.dst v') w') : wpList P ops Q (o :: rest) a w := by
  refine wpList_plain hg fun K hK' => ?_
  have := step_app (P := P) (ops := ops) (Q := Q) (K := K) (F := False) hg s x t hop e i z size bytes h1 h2 h3 h4 h5 h6 h7 base n cap olds hs hnone hlo hold ad m c news hx hm hn hc h1c b1 b2 (fun v' w' h => hK' _ _ (hK v' w' h))
  rwa [if_pos (by simp [Region.wanted, hg])] at this
end

/-- Append to the array of chunk y, whose header is cell jh of chunk x, and the store of the header. -/
theorem Rep.app {τ : Type} [DecidableEq τ] {S : Nat → Prop} {w w1 w2 : World} {G : τ → Option Ch} (R : Rep S w G) {x y : τ} (hxy : x ≠ y) {cx : Ch} (hx : G x = some cx) {base : Option (Nat × Nat)} {n cap sz m : Nat} {olds news : List Value} {v' : Value} {e : TypeId}
    (hy : G y = base.map fun p => ⟨p.1, p.2, cap * sz, olds⟩) (ha : App e w w1 base n cap sz m olds news v') (hlo : olds.length = n * sz) (hln : news.length = m * sz)
    {b o jh : Nat} (hu : Upd w1 w2 b o [v']) (hb : b = cx.b) (ho : o = cx.o + jh) (hjh : jh < cx.vals.length) :
    ∃ b' o' cap' S', v' = sv (some (b', o')) (n + m) cap' ∧ n + m ≤ cap' ∧ (cap' ≤ maxLen ∨ cap' = cap) ∧ ((∃ o1, base = some (b', o1)) ∨ bty w2 b' = some e) ∧ Fr S w w2 ∧ (∀ i, S' i → S i ∨ w.heap.size ≤ i) ∧ (∀ i, S i → S' i) ∧
      ∀ G' : τ → Option Ch, G' x = some ⟨cx.b, cx.o, cx.cap, cx.vals.set jh v'⟩ → G' y = some ⟨b', o', cap' * sz, olds ++ news⟩ → (∀ t, t ≠ x → t ≠ y → G' t = G t) → Rep S' w2 G' := by
  subst hb; subst ho
  have hxb := R.ins x cx hx
  have hcx := R.ok x cx hx
  have set_val : ∀ (i : Nat) (u : Value), (cx.vals.set jh v')[i]? = some u → (jh ≤ i ∧ i < jh + [v'].length ∧ [v'][i - jh]? = some u) ∨ (¬ (jh ≤ i ∧ i < jh + [v'].length) ∧ cx.vals[i]? = some u) := fun i u hi => by
    rw [List.getElem?_set] at hi
    split at hi
    · rename_i h; subst h
      simp only [List.length_cons, List.length_nil]
      exact .inl ⟨by omega, by omega, by rw [Nat.sub_self]; exact hi⟩
    · rename_i h
      exact .inr ⟨by simp only [List.length_cons, List.length_nil]; omega, hi⟩
  have hcap : jh + [v'].length ≤ cx.cap := by have := hcx.len; simp only [List.length_cons, List.length_nil]; omega
  rcases ha with ⟨ab, ao, rfl, hr, hv, hup⟩ | ⟨g, cap', hv, hg1, hg2, hc1, hc2, hok, hty, hfr⟩
  · have hay := R.ins y _ hy
    refine ⟨ab, ao, cap, S, hv, hr, .inr rfl, .inl ⟨_, rfl⟩, ?_, fun i h => .inl h, fun i h => h, fun G' h1 h2 h3 => ?_⟩
    · refine ((hup.fr.mono (S' := S) (fun i (hi : i = ab) => by subst hi; exact hay)).trans hu.fr ?_)
      intro i hi
      exact .inl (by have hi' : i = cx.b := hi; subst hi'; exact hxb)
    · have hroom : n * sz + news.length ≤ cap * sz := by rw [hln, ← Nat.add_mul]; exact Nat.mul_le_mul_right _ hr
      have R1 : Rep S w1 (fun t => if t = y then some ⟨ab, ao, cap * sz, olds ++ news⟩ else G t) := by
        refine R.store (x := y) hy hup rfl rfl hroom (if_pos rfl) (fun t ht => if_neg ht) (by rw [List.length_append, hlo]; exact hroom) (fun i u hi => ?_)
        rw [List.getElem?_append] at hi
        split at hi
        · exact .inr ⟨by omega, hi⟩
        · have := (List.getElem?_eq_some_iff.1 hi).1
          exact .inl ⟨by omega, by omega, by rw [← hlo]; exact hi⟩
      refine R1.store (x := x) (c := cx) (by rw [if_neg hxy]; exact hx) hu rfl rfl hcap h1 (fun t ht => ?_) (by rw [List.length_set]; exact hcx.len) set_val
      show G' t = if t = y then _ else _
      split
      · rename_i e; subst e; exact h2
      · rename_i e; exact h3 t ht e
  · refine ⟨g, 0, cap', fun i => S i ∨ i = g, hv, hc1, .inl hc2, .inr ((hu.fr.ty g hg2).trans hty), ?_, fun i hi => ?_, fun i h => .inl h, fun G' h1 h2 h3 => ?_⟩
    · refine ((hfr.mono (fun _ h => h.elim)).trans (S := S) hu.fr ?_)
      intro i hi
      exact .inl (by have hi' : i = cx.b := hi; subst hi'; exact hxb)
    · rcases hi with hi | hi
      · exact .inl hi
      · exact .inr (by omega)
    · have hng : ¬ S g := fun h => by have := R.lt g h; omega
      have R0 : Rep S w1 G := R.keep hfr (fun _ _ h => h)
      have R1 : Rep S w1 (fun t => if t = y then none else G t) := R0.drop (x := y) (if_pos rfl) (fun t ht => if_neg ht)
      have R2 : Rep (fun i => S i ∨ i = g) w1 (fun t => if t = y then some ⟨g, 0, cap' * sz, olds ++ news⟩ else G t) := by
        refine R1.new (x := y) (c := ⟨g, 0, cap' * sz, olds ++ news⟩) (if_pos rfl) (fun t ht => by show (if t = y then _ else _) = (if t = y then _ else _); rw [if_neg ht, if_neg ht]) hok hng (fun i h => .inl h) (.inr rfl) (fun i hi => ?_)
        rcases hi with hi | hi
        · exact R0.lt i hi
        · omega
      refine R2.store (x := x) (c := cx) (by rw [if_neg hxy]; exact hx) hu rfl rfl hcap h1 (fun t ht => ?_) (by rw [List.length_set]; exact hcx.len) set_val
      show G' t = if t = y then _ else _
      split
      · rename_i e; subst e; exact h2
      · rename_i e; exact h3 t ht e

/-- A new array for chunk y, whose header is cell jh of chunk x. -/
theorem Rep.fresh {τ : Type} [DecidableEq τ] {S : Nat → Prop} {w w1 w2 : World} {G : τ → Option Ch} (R : Rep S w G) {x y : τ} (hxy : x ≠ y) {cx : Ch} (hx : G x = some cx) {d : Ch} (hg1 : w.heap.size ≤ d.b) (hg2 : d.b < w1.heap.size) (hok : d.Ok w1) (hfr : Fr (fun _ => False) w w1)
    {b o jh : Nat} {v' : Value} (hu : Upd w1 w2 b o [v']) (hb : b = cx.b) (ho : o = cx.o + jh) (hjh : jh < cx.vals.length) :
    Fr S w w2 ∧ ∀ G' : τ → Option Ch, G' x = some ⟨cx.b, cx.o, cx.cap, cx.vals.set jh v'⟩ → G' y = some d → (∀ t, t ≠ x → t ≠ y → G' t = G t) → Rep (fun i => S i ∨ i = d.b) w2 G' := by
  subst hb; subst ho
  have hxb := R.ins x cx hx
  have hcx := R.ok x cx hx
  have set_val : ∀ (i : Nat) (u : Value), (cx.vals.set jh v')[i]? = some u → (jh ≤ i ∧ i < jh + [v'].length ∧ [v'][i - jh]? = some u) ∨ (¬ (jh ≤ i ∧ i < jh + [v'].length) ∧ cx.vals[i]? = some u) := fun i u hi => by
    rw [List.getElem?_set] at hi
    split at hi
    · rename_i h; subst h
      simp only [List.length_cons, List.length_nil]
      exact .inl ⟨by omega, by omega, by rw [Nat.sub_self]; exact hi⟩
    · rename_i h
      exact .inr ⟨by simp only [List.length_cons, List.length_nil]; omega, hi⟩
  have hcap : jh + [v'].length ≤ cx.cap := by have := hcx.len; simp only [List.length_cons, List.length_nil]; omega
  refine ⟨(hfr.mono (fun _ h => h.elim)).trans (S := S) hu.fr (fun i hi => .inl (by have hi' : i = cx.b := hi; subst hi'; exact hxb)), fun G' h1 h2 h3 => ?_⟩
  have hng : ¬ S d.b := fun h => by have := R.lt d.b h; omega
  have R0 : Rep S w1 G := R.keep hfr (fun _ _ h => h)
  have R1 : Rep S w1 (fun t => if t = y then none else G t) := R0.drop (x := y) (if_pos rfl) (fun t ht => if_neg ht)
  have R2 : Rep (fun i => S i ∨ i = d.b) w1 (fun t => if t = y then some d else G t) := by
    refine R1.new (x := y) (c := d) (if_pos rfl) (fun t ht => by show (if t = y then _ else _) = (if t = y then _ else _); rw [if_neg ht, if_neg ht]) hok hng (fun i h => .inl h) (.inr rfl) (fun i hi => ?_)
    rcases hi with hi | hi
    · exact R0.lt i hi
    · omega
  refine R2.store (x := x) (c := cx) (by rw [if_neg hxy]; exact hx) hu rfl rfl hcap h1 (fun t ht => ?_) (by rw [List.length_set]; exact hcx.len) set_val
  show G' t = if t = y then _ else _
  split
  · rename_i e; subst e; exact h2
  · rename_i e; exact h3 t ht e
/-- Append to an empty slice makes a new array. -/
theorem App.fresh {e : TypeId} {w w' : World} {base : Option (Nat × Nat)} {sz m : Nat} {news : List Value} {v' : Value} (h : App e w w' base 0 0 sz m [] news v') (hm : 0 < m) :
    ∃ g cap', v' = sv (some (g, 0)) m cap' ∧ w.heap.size ≤ g ∧ g < w'.heap.size ∧ m ≤ cap' ∧ (⟨g, 0, cap' * sz, news⟩ : Ch).Ok w' ∧ bty w' g = some e ∧ Fr (fun _ => False) w w' := by
  rcases h with ⟨_, _, _, hr, _⟩ | ⟨g, cap', hv, h1, h2, h3, _, h4, h5, h6⟩
  · omega
  · exact ⟨g, cap', by rw [hv, Nat.zero_add], h1, h2, by omega, by simpa using h4, h5, h6⟩
theorem App.fr {S : Nat → Prop} {w w' : World} {base : Option (Nat × Nat)} {n cap sz m : Nat} {olds news : List Value} {v' : Value} {e : TypeId} (h : App e w w' base n cap sz m olds news v') (hb : ∀ b o, base = some (b, o) → S b) : Fr S w w' := by
  rcases h with ⟨b, o, hb', _, _, hu⟩ | ⟨_, _, _, _, _, _, _, _, _, hf⟩
  · exact hu.fr.mono (fun i (hi : i = b) => by subst hi; exact hb _ o hb')
  · exact hf.mono (fun _ h => h.elim)
theorem App.form {w w' : World} {base : Option (Nat × Nat)} {n cap sz m : Nat} {olds news : List Value} {v' : Value} {e : TypeId} (h : App e w w' base n cap sz m olds news v') : ∃ b o c, v' = .slice (some ⟨b, o, none⟩) (n + m) c := by
  rcases h with ⟨b, o, _, _, h, _⟩ | ⟨g, c, h, _⟩
  · exact ⟨b, o, cap, h⟩
  · exact ⟨g, 0, c, h⟩
/-- What append writes nobody has known. -/
theorem Rep.app_keep {τ : Type} {S : Nat → Prop} {w w' : World} {G : τ → Option Ch} (R : Rep S w G) {y : τ} {base : Option (Nat × Nat)} {n cap sz m : Nat} {olds news : List Value} {v' : Value} {e : TypeId}
    (hy : G y = base.map fun p => ⟨p.1, p.2, cap * sz, olds⟩) (ha : App e w w' base n cap sz m olds news v') (hlo : olds.length = n * sz) (hln : news.length = m * sz) : Rep S w' G := by
  rcases ha with ⟨b, o, rfl, hr, _, hu⟩ | ⟨_, _, _, _, _, _, _, _, _, hf⟩
  · have hroom : n * sz + news.length ≤ cap * sz := by rw [hln, ← Nat.add_mul]; exact Nat.mul_le_mul_right _ hr
    refine R.store (x := y) (c := ⟨b, o, cap * sz, olds⟩) hy hu rfl rfl hroom (vals' := olds) hy (fun _ _ => rfl) (R.ok y _ hy).len (fun i u hi => .inr ⟨?_, hi⟩)
    have := (List.getElem?_eq_some_iff.1 hi).1
    omega
  · exact R.keep hf (fun _ _ h => h)

/-! ### copy -/
section
variable {P : Program} {ops : Array Oper} {o : Oper} {a : Act} {w : World} {Q : Exit → Act → World → Prop}

theorem run_copy (dT sT ty elem : TypeId) (i : TypeInfo) (sz : Nat) (b off dLen dCap : Nat) (ad : Addr) (sLen sCap : Nat) (cs : List Value) (hu : P.underlying dT = some (.slice elem)) (hi : P.info? elem = some i) (hs : i.size = sz)
    (hn : cs.length = Nat.min sLen dLen * sz) (hsrc : ∀ j v, cs[j]? = some v → w.cell? (ad.add j) = some v) (hc : ∀ j, j < cs.length → (M w b (off + j)).isSome = true) (h1 : ∀ v ∈ cs, v.oneCell' = true) :
    (Builtin.copy_ #[dT, sT] ty #[.slice (some ⟨b, off, none⟩) dLen dCap, .slice (some ad) sLen sCap]).run P w = .ok (.int .i64 (Nat.min sLen dLen : Nat)) (w.setCells b off cs) := by
  subst hs
  have hl := run_loadCells_list (P := P) w ad cs hsrc
  have hst := run_storeCells_cells (P := P) b off cs 0 w
    (fun j hj => by obtain ⟨u, hu⟩ := Option.isSome_iff_exists.1 (hc j hj); rw [Nat.add_zero, M_cell hu]; rfl)
    (fun j hj => by obtain ⟨u, hu⟩ := Option.isSome_iff_exists.1 (hc j hj); rw [Nat.add_zero]; exact M_froz hu) h1
  simp only [Nat.add_zero] at hst
  simp [Builtin.copy_, run_underlying hu, Builtin.lenOf, Builtin.firstCells, sizeOf, typeInfo, hi, ← hn, hl, hst, goInt]

theorem run_copy_zero (dT sT ty elem : TypeId) (i : TypeInfo) (d ad : Option Addr) (dLen dCap sLen sCap : Nat) (hu : P.underlying dT = some (.slice elem)) (hi : P.info? elem = some i) (hn : Nat.min sLen dLen = 0) :
    (Builtin.copy_ #[dT, sT] ty #[.slice d dLen dCap, .slice ad sLen sCap]).run P w = .ok (.int .i64 0) w := by
  have hl : ∀ x : Addr, (loadCells x 0).run P w = .ok #[] w := fun x => run_loadCells_list (P := P) w x [] (by simp)
  have hst : ∀ x : Addr, (storeCells x []).run P w = .ok () w := fun x => rfl
  cases d <;> cases ad <;> simp [Builtin.copy_, run_underlying hu, Builtin.lenOf, Builtin.firstCells, sizeOf, typeInfo, hi, hn, hl, hst, goInt]

/-- copy, as a step of a region that draws its order. -/
theorem step_copy {K : Act → World → Prop} {F : Prop} (hg : o.guard = none) (d s : Operand) (dT sT : TypeId) (hop : o.op = Op.call { callee := Callee.builtin Builtin.copy, args := #[d, s], argTypes := #[dT, sT] })
    (elem : TypeId) (i : TypeInfo) (sz : Nat) (hu : P.underlying dT = some (.slice elem)) (hi : P.info? elem = some i) (hs : i.size = sz)
    (b off dLen dCap : Nat) (hd : ∃ da, a.eval d = .slice da dLen dCap ∧ (0 < dLen → da = some ⟨b, off, none⟩)) (sb so sLen sCap : Nat) (hx : ∃ sa, a.eval s = .slice sa sLen sCap ∧ (0 < sLen → sa = some ⟨sb, so, none⟩)) (cs : List Value)
    (hn : cs.length = Nat.min sLen dLen * sz) (hsrc : ∀ j v, cs[j]? = some v → M w sb (so + j) = some v) (hc : ∀ j, j < cs.length → (M w b (off + j)).isSome = true) (h1 : ∀ v ∈ cs, v.oneCell' = true)
    (hK : ∀ w', Upd w w' b off cs → K (a.put o.dst (.int .i64 (Nat.min sLen dLen : Nat))) w') :
    if Region.wanted o (yielded ops a.tmps) = true then Oper.wp P o a w K Q else F := by
  have hw : Region.wanted o (yielded ops a.tmps) = true := by simp [Region.wanted, hg]
  rw [if_pos hw]
  obtain ⟨da, hd, hd'⟩ := hd
  obtain ⟨sa, hx, hx'⟩ := hx
  have hstep : ∀ w', Upd w w' b off cs → (Builtin.copy_ #[dT, sT] o.type #[.slice da dLen dCap, .slice sa sLen sCap]).run P w = .ok (.int .i64 (Nat.min sLen dLen : Nat)) w' → Oper.wp P o a w K Q := fun w' hup hrun => by
    unfold Oper.wp
    simp [execOp, hop, resolve, invoke, builtin, hd, hx, hrun, Result.andThen]
    exact hK w' hup
  by_cases h0 : Nat.min sLen dLen = 0
  · have hr := run_copy_zero (P := P) (w := w) dT sT o.type elem i da sa dLen dCap sLen sCap hu hi h0
    obtain rfl : cs = [] := List.eq_nil_of_length_eq_zero (by rw [hn, h0, Nat.zero_mul])
    refine hstep w ?_ (by rw [hr, h0]; rfl)
    exact Upd.setCells [] w b off (by simp)
  · have hmin : Nat.min sLen dLen ≤ sLen ∧ Nat.min sLen dLen ≤ dLen := ⟨Nat.min_le_left _ _, Nat.min_le_right _ _⟩
    rw [hd' (by omega)] at hstep
    rw [hx' (by omega)] at hstep
    refine hstep _ (Upd.setCells cs w b off hc) (run_copy (P := P) (w := w) dT sT o.type elem i sz b off dLen dCap ⟨sb, so, none⟩ sLen sCap cs hu hi hs hn (fun j v hj => ?_) hc h1)
    rw [Addr.add_lit]; exact M_cell (hsrc j v hj)

theorem wpList_copy {rest : List Oper} (hg : o.guard = none) (d s : Operand) (dT sT : TypeId) (hop : o.op = Op.call { callee := Callee.builtin Builtin.copy, args := #[d, s], argTypes := #[dT, sT] })
    (elem : TypeId) (i : TypeInfo) (sz : Nat) (hu : P.underlying dT = some (.slice elem)) (hi : P.info? elem = some i) (hs : i.size = sz)
    (b off dLen dCap : Nat) (hd : ∃ da, a.eval d = .slice da dLen dCap ∧ (0 < dLen → da = some ⟨b, off, none⟩)) (sb so sLen sCap : Nat) (hx : ∃ sa, a.eval s = .slice sa sLen sCap ∧ (0 < sLen → sa = some ⟨sb, so, none⟩)) (cs : List Value)
    (hn : cs.length = Nat.min sLen dLen * sz) (hsrc : ∀ j v, cs[j]? = some v → M w sb (so + j) = some v) (hc : ∀ j, j < cs.length → (M w b (off + j)).isSome = true) (h1 : ∀ v ∈ cs, v.oneCell' = true)
    (hK : ∀ w', Upd w w' b off cs → wpList P ops Q rest (a.put o.dst (.int .i64 (Nat.min sLen dLen : Nat))) w') : wpList P ops Q (o :: rest) a w := by
  refine wpList_plain hg fun K hK' => ?_
  have := step_copy (P := P) (ops := ops) (Q := Q) (K := K) (F := False) hg d s dT sT hop elem i sz hu hi hs b off dLen dCap hd sb so sLen sCap hx cs hn hsrc hc h1 (fun w' h => hK' _ _ (hK w' h))
  rwa [if_pos (by simp [Region.wanted, hg])] at this
end

/-! ### a boxed variable -/
/-- Block b begins with the cells vs. -/
def Bx (w : World) (b : Nat) (vs : List Value) : Prop := b < w.heap.size ∧ ∀ j v, vs[j]? = some v → M w b j = some v
theorem Bx.new (w : World) (c : List Value) (t : TypeId) : Bx (w.alloc (.cells c.toArray t)) w.heap.size c := ⟨by simp, fun j v hv => by rw [M_alloc_new]; simpa using hv⟩
theorem Bx.keep {S : Nat → Prop} {w w' : World} {b : Nat} {vs : List Value} (h : Bx w b vs) (hf : Fr S w w') (hn : ¬ S b) : Bx w' b vs :=
  ⟨Nat.lt_of_lt_of_le h.1 hf.size, fun j v hv => by rw [hf.M h.1 hn]; exact h.2 j v hv⟩
theorem Bx.drew {w : World} {b : Nat} {vs : List Value} (h : Bx w b vs) : Bx w.drew b vs := h
theorem Bx.drewN {w : World} {b : Nat} {vs : List Value} (h : Bx w b vs) (n : Nat) : Bx (w.drewN n) b vs := h
theorem Bx.alloc {w : World} {b : Nat} {vs : List Value} (h : Bx w b vs) (x : Obj) : Bx (w.alloc x) b vs := ⟨by have := h.1; simp; omega, fun j v hv => by rw [M_alloc_old w x j h.1]; exact h.2 j v hv⟩
theorem Bx.upd {w w' : World} {b b' o : Nat} {vs us : List Value} (h : Bx w b vs) (hu : Upd w w' b' o us) (hn : b ≠ b') : Bx w' b vs := h.keep hu.fr hn
theorem Bx.cell {w : World} {b : Nat} {vs : List Value} (h : Bx w b vs) (j : Nat) {v : Value} (hv : vs[j]? = some v) : w.cell? ⟨b, j, none⟩ = some v := M_cell (h.2 j v hv)
theorem Bx.froz {w : World} {b : Nat} {vs : List Value} (h : Bx w b vs) (j : Nat) {v : Value} (hv : vs[j]? = some v) : w.frozen? ⟨b, j, none⟩ = false := M_froz (h.2 j v hv)

/-! ### a store's blocks from one world to another -/
/-- From the blocks S of the world w to the blocks S' of the world w'. -/
structure Ext (S : Nat → Prop) (w : World) (S' : Nat → Prop) (w' : World) : Prop where
  fr : Fr S w w'
  new : ∀ i, S' i → S i ∨ w.heap.size ≤ i
  old : ∀ i, S i → S' i
theorem Ext.refl (S : Nat → Prop) (w : World) : Ext S w S w := ⟨Fr.refl _ _, fun _ h => .inl h, fun _ h => h⟩
theorem Ext.trans {S1 S2 S3 : Nat → Prop} {a b c : World} (h : Ext S1 a S2 b) (k : Ext S2 b S3 c) : Ext S1 a S3 c :=
  ⟨h.fr.trans k.fr h.new, fun i hi => by
    rcases k.new i hi with h' | h'
    · exact h.new i h'
    · exact .inr (Nat.le_trans h.fr.size h'), fun i hi => k.old i (h.old i hi)⟩
theorem Ext.drew {S S' : Nat → Prop} {a b : World} (h : Ext S a S' b) : Ext S a S' b.drew := ⟨h.fr.drew, h.new, h.old⟩
theorem Ext.drewN {S S' : Nat → Prop} {a b : World} (h : Ext S a S' b) (n : Nat) : Ext S a S' (b.drewN n) := ⟨h.fr.drewN n, h.new, h.old⟩
theorem Ext.alloc {S S' : Nat → Prop} {a b : World} (h : Ext S a S' b) (x : Obj) : Ext S a S' (b.alloc x) := ⟨h.fr.alloc x, h.new, h.old⟩
theorem Ext.upd {S S' : Nat → Prop} {a b c : World} (h : Ext S a S' b) {k o : Nat} {vs : List Value} (hu : Upd b c k o vs) (hk : S' k ∨ a.heap.size ≤ k) : Ext S a S' c :=
  ⟨h.fr.trans hu.fr (fun i (hi : i = k) => by subst hi; exact hk.elim (h.new i) .inr), h.new, h.old⟩
theorem Ext.notin {S S' : Nat → Prop} {a b : World} (h : Ext S a S' b) {i : Nat} (hi : i < a.heap.size) (hn : ¬ S i) : ¬ S' i := fun hs => by
  rcases h.new i hs with h' | h'
  · exact hn h'
  · omega
theorem Ext.bx {S S' : Nat → Prop} {a b : World} (h : Ext S a S' b) {i : Nat} {vs : List Value} (hb : Bx a i vs) (hn : ¬ S i) : Bx b i vs := hb.keep h.fr hn
theorem Upd.M_ne {w w' : World} {b o : Nat} {vs : List Value} (h : Upd w w' b o vs) {b' o' : Nat} (hn : ¬ (b' = b ∧ o ≤ o' ∧ o' < o + vs.length)) : M w' b' o' = M w b' o' := by rw [h.cells, if_neg hn]
theorem Upd.M_at {w w' : World} {b o : Nat} {vs : List Value} (h : Upd w w' b o vs) {j : Nat} (hj : j < vs.length) : M w' b (o + j) = vs[j]? := by rw [h.cells, if_pos ⟨rfl, by omega, by omega⟩, Nat.add_sub_cancel_left]
theorem Upd.again {w w1 w2 : World} {b o : Nat} {vs us : List Value} (h : Upd w w1 b o vs) (k : Upd w1 w2 b o us) (hl : vs.length = us.length) : Upd w w2 b o us where
  cells b' o' := by
    rw [k.cells]
    by_cases h1 : b' = b ∧ o ≤ o' ∧ o' < o + us.length
    · rw [if_pos h1, if_pos h1]
    · rw [if_neg h1, if_neg h1, h.cells, if_neg (by rw [hl]; exact h1)]
  size := k.size.trans h.size
  fr := h.fr.trans k.fr (fun i hi => .inl hi)

end Go.Proofs.Ytbjhnefienjncaa.Bt
