/- Some nodes of a map at hand, and blocks that the call has laid itself. -/
import Derived.Test.YtbjhnefienjncaaBtKn
namespace Go.Proofs.Ytbjhnefienjncaa.Bt
set_option linter.unusedVariables false
set_option linter.unusedSimpArgs false
open Go Go.RowKit

section
variable {I : Type} {E : Enc I} {S0 : Nat → Prop} {w0 w w' : World} {s0 : Sto I}

/-- Blocks that the call has laid itself. -/
def Boxes (S : Nat → Prop) (w0 w : World) (BX : List (Nat × List Value)) : Prop := ∀ p, p ∈ BX → Bx w p.1 p.2 ∧ ¬ S p.1 ∧ w0.heap.size ≤ p.1
theorem Boxes.step {S S' : Nat → Prop} {w0 w w' : World} {BX : List (Nat × List Value)} (h : Boxes S w0 w BX) (hE : Ext S w S' w') : Boxes S' w0 w' BX := fun p hp =>
  ⟨hE.bx (h p hp).1 (h p hp).2.1, hE.notin (h p hp).1.1 (h p hp).2.1, (h p hp).2.2⟩
/-- From the store s0 on: the nodes of L have become what L tells; no other node has changed; BX: the call's own blocks. -/
structure KB (E : Enc I) (S0 : Nat → Prop) (w0 : World) (s0 : Sto I) (BX : List (Nat × List Value)) (L : List (Nat × NodeR I)) (w : World) : Prop where
  ex : ∃ S s, RepS E S w s ∧ Ext S0 w0 S w ∧ (∀ a r, (a, r) ∈ L → s.nd a = some r) ∧ (L.map (·.1)).Nodup ∧ s.m = s0.m ∧ s.mp = s0.mp ∧ (∀ z, z ∉ L.map (·.1) → s.nd z = s0.nd z) ∧ Boxes S w0 w BX
variable {BX : List (Nat × List Value)} {L A B : List (Nat × NodeR I)} {a : Nat} {r : NodeR I}
theorem KB.start {S : Nat → Prop} {s : Sto I} (R : RepS E S w s) (h : ∀ a r, (a, r) ∈ L → s.nd a = some r) (hd : (L.map (·.1)).Nodup) : KB E S w s [] L w := ⟨S, s, R, Ext.refl _ _, h, hd, rfl, rfl, fun _ _ => rfl, fun _ h => by cases h⟩
theorem KB.drew (K : KB E S0 w0 s0 BX L w) : KB E S0 w0 s0 BX L w.drew := by
  obtain ⟨S, s, R, h, a, b, c, d, e, f⟩ := K; exact ⟨S, s, R.drew, h.drew, a, b, c, d, e, f.step (Ext.refl _ _).drew⟩
theorem KB.drewN (K : KB E S0 w0 s0 BX L w) (n : Nat) : KB E S0 w0 s0 BX L (w.drewN n) := by
  obtain ⟨S, s, R, h, a, b, c, d, e, f⟩ := K; exact ⟨S, s, R.drewN n, h.drewN n, a, b, c, d, e, f.step ((Ext.refl _ _).drewN n)⟩
theorem KB.alloc (K : KB E S0 w0 s0 BX L w) (x : Obj) : KB E S0 w0 s0 BX L (w.alloc x) := by
  obtain ⟨S, s, R, h, a, b, c, d, e, f⟩ := K; exact ⟨S, s, R.alloc x, h.alloc x, a, b, c, d, e, f.step ((Ext.refl _ _).alloc x)⟩
/-- A block more. -/
theorem KB.box (K : KB E S0 w0 s0 BX L w) (vs : List Value) (t : TypeId) : KB E S0 w0 s0 ((w.heap.size, vs) :: BX) L (w.alloc (.cells vs.toArray t)) := by
  obtain ⟨S, s, R, h, a, b, c, d, e, f⟩ := K
  refine ⟨S, s, R.alloc _, h.alloc _, a, b, c, d, e, fun p hp => ?_⟩
  rcases List.mem_cons.1 hp with rfl | hp
  · exact ⟨Bx.new w vs t, fun hs => by have := R.rep.lt _ hs; simp at this, h.fr.size⟩
  · exact (f.step ((Ext.refl _ _).alloc _)) p hp
theorem KB.bx (K : KB E S0 w0 s0 BX L w) {b : Nat} {vs : List Value} (h : (b, vs) ∈ BX) : Bx w b vs := by
  obtain ⟨S, s, R, _, _, _, _, _, _, f⟩ := K
  exact (f _ h).1
/-- The first block is written. -/
theorem KB.set_box {b : Nat} {vs vs' : List Value} (K : KB E S0 w0 s0 ((b, vs) :: BX) L w) (hu : Upd w w' b 0 vs') (hd : ∀ p ∈ BX, p.1 ≠ b) : KB E S0 w0 s0 ((b, vs') :: BX) L w' := by
  obtain ⟨S, s, R, h, a, b', c, d, e, f⟩ := K
  have hb := f (b, vs) (by simp)
  refine ⟨S, s, R.upd_out hu hb.2.1, h.upd hu (.inr hb.2.2), a, b', c, d, e, fun p hp => ?_⟩
  rcases List.mem_cons.1 hp with rfl | hp
  · refine ⟨⟨by rw [hu.size]; exact hb.1.1, fun j v hv => ?_⟩, hb.2.1, hb.2.2⟩
    have hj := (List.getElem?_eq_some_iff.1 hv).1
    have := hu.M_at (j := j) hj
    rw [Nat.zero_add] at this
    rw [this]; exact hv
  · have hp' := f p (List.mem_cons_of_mem _ hp)
    exact ⟨hp'.1.upd hu (hd p hp), hp'.2.1, hp'.2.2⟩
theorem KB.swap {x y : Nat × List Value} (K : KB E S0 w0 s0 (x :: y :: BX) L w) : KB E S0 w0 s0 (y :: x :: BX) L w := by
  obtain ⟨S, s, R, h, a, b, c, d, e, f⟩ := K
  exact ⟨S, s, R, h, a, b, c, d, e, fun p hp => f p (by simp only [List.mem_cons] at hp ⊢; rcases hp with h | h | h; exact .inr (.inl h); exact .inl h; exact .inr (.inr h))⟩
/-! one node of the list brought out -/
theorem KB.n0 {a : Nat} {r : NodeR I} {B : List (Nat × NodeR I)} (K : KB E S0 w0 s0 BX ((a, r) :: B) w) : KB E S0 w0 s0 BX ([] ++ (a, r) :: B) w := K
theorem KB.n1 {p : Nat × NodeR I} {a : Nat} {r : NodeR I} {B : List (Nat × NodeR I)} (K : KB E S0 w0 s0 BX (p :: (a, r) :: B) w) : KB E S0 w0 s0 BX ([p] ++ (a, r) :: B) w := K
theorem KB.n2 {p q : Nat × NodeR I} {a : Nat} {r : NodeR I} {B : List (Nat × NodeR I)} (K : KB E S0 w0 s0 BX (p :: q :: (a, r) :: B) w) : KB E S0 w0 s0 BX ([p, q] ++ (a, r) :: B) w := K
theorem KB.n3 {p q u : Nat × NodeR I} {a : Nat} {r : NodeR I} {B : List (Nat × NodeR I)} (K : KB E S0 w0 s0 BX (p :: q :: u :: (a, r) :: B) w) : KB E S0 w0 s0 BX ([p, q, u] ++ (a, r) :: B) w := K
theorem KB.cell (K : KB E S0 w0 s0 BX (A ++ (a, r) :: B) w) : a < w.heap.size ∧ w.cell? ⟨a, 0, none⟩ = some (.int .u64 r.iso) ∧ w.cell? ⟨a, 1, none⟩ = some (.int .i64 r.count) ∧ w.cell? ⟨a, 2, none⟩ = some (sv r.ib r.items.length r.icap) ∧ w.cell? ⟨a, 3, none⟩ = some (pv (r.kids.map (·.hdr))) := by
  obtain ⟨S, s, R, _, h, _⟩ := K
  have hn := h a r (by simp)
  exact ⟨(R.node hn).1, (R.node hn).cell 0 rfl, (R.node hn).cell 1 rfl, (R.node hn).cell 2 rfl, (R.node hn).cell 3 rfl⟩
theorem KB.mem (K : KB E S0 w0 s0 BX (A ++ (a, r) :: B) w) : M w a 1 = some (.int .i64 r.count) ∧ M w a 2 = some (sv r.ib r.items.length r.icap) := by
  obtain ⟨S, s, R, _, h, _⟩ := K
  have hn := h a r (by simp)
  exact ⟨(R.node hn).2 1 _ rfl, (R.node hn).2 2 _ rfl⟩
theorem KB.hdr (K : KB E S0 w0 s0 BX (A ++ (a, r) :: B) w) {k : KidR} (hk : r.kids = some k) : k.hdr < w.heap.size ∧ M w k.hdr 0 = some (sv k.base k.kids.length k.cap) := by
  obtain ⟨S, s, R, _, h, _⟩ := K
  have hn := h a r (by simp)
  exact ⟨(R.hdr hn hk).1, (R.hdr hn hk).2 0 _ rfl⟩
theorem KB.wf (K : KB E S0 w0 s0 BX (A ++ (a, r) :: B) w) : r.wf := by
  obtain ⟨S, s, R, _, h, _⟩ := K
  exact R.wf a r (h a r (by simp))
theorem KB.item (K : KB E S0 w0 s0 BX (A ++ (a, r) :: B) w) {b o : Nat} (hb : r.ib = some (b, o)) {i : Nat} {x : I} (hx : r.items[i]? = some x) {j : Nat} {v : Value} (hv : (E.enc x)[j]? = some v) : M w b (o + (i * E.sz + j)) = some v := by
  obtain ⟨S, s, R, _, h, _⟩ := K
  exact R.item (h a r (by simp)) hb hx hv
theorem KB.kid (K : KB E S0 w0 s0 BX (A ++ (a, r) :: B) w) {k : KidR} (hk : r.kids = some k) {b o : Nat} (hb : k.base = some (b, o)) {i : Nat} {p : Option Nat} (hp : k.kids[i]? = some p) : M w b (o + i) = some (pv p) := by
  obtain ⟨S, s, R, _, h, _⟩ := K
  exact R.kid (h a r (by simp)) hk hb hp
theorem KB.blt (K : KB E S0 w0 s0 BX (A ++ (a, r) :: B) w) {b o : Nat} (hb : r.ib = some (b, o)) : b < w.heap.size := by
  obtain ⟨S, s, R, _, h, _⟩ := K
  exact R.rep.lt b (R.inS_items (h a r (by simp)) hb)
theorem KB.items (K : KB E S0 w0 s0 BX (A ++ (a, r) :: B) w) {b o : Nat} (hb : r.ib = some (b, o)) : (⟨b, o, r.icap * E.sz, itemCells E r.items⟩ : Ch).Ok w := by
  obtain ⟨S, s, R, _, h, _⟩ := K
  exact R.items (h a r (by simp)) hb
theorem KB.arr (K : KB E S0 w0 s0 BX (A ++ (a, r) :: B) w) {k : KidR} (hk : r.kids = some k) {b o : Nat} (hb : k.base = some (b, o)) : (⟨b, o, k.cap, k.kids.map pv⟩ : Ch).Ok w := by
  obtain ⟨S, s, R, _, h, _⟩ := K
  exact R.arr (h a r (by simp)) hk hb
theorem KB.ty (K : KB E S0 w0 s0 BX (A ++ (a, r) :: B) w) {b o : Nat} (hb : r.ib = some (b, o)) : bty w b = some E.ty := by
  obtain ⟨S, s, R, _, h, _⟩ := K
  exact R.ty.2 a r (h a r (by simp)) (b, o) hb
theorem KB.src (K : KB E S0 w0 s0 BX (A ++ (a, r) :: B) w) {b o : Nat} (hb : r.ib = some (b, o)) {i : Nat} {l m : List I} (hl : r.items.drop i = l ++ m) (hi : i ≤ r.items.length) {j : Nat} {v : Value} (hv : (itemCells E l)[j]? = some v) : M w b (o + i * E.sz + j) = some v := by
  obtain ⟨S, s, R, _, h, _⟩ := K
  exact R.src_items (h a r (by simp)) hb hl hi hv
theorem KB.map (K : KB E S0 w0 s0 BX L w) : Bx w s0.m (mapCells E s0.mp) ∧ bty w s0.m = some E.mty := by
  obtain ⟨S, s, R, _, _, _, h1, h2, _⟩ := K
  rw [← h1, ← h2]; exact ⟨R.map, R.ty.1⟩
theorem KB.ne (K : KB E S0 w0 s0 BX L w) {i j : Nat} {x y : Nat × NodeR I} (hx : L[i]? = some x) (hy : L[j]? = some y) (h : i ≠ j) : x.1 ≠ y.1 := by
  obtain ⟨S, s, _, _, _, hd, _⟩ := K
  intro e
  have h1 : (L.map (·.1))[i]? = some x.1 := by rw [List.getElem?_map, hx]; rfl
  have h2 : (L.map (·.1))[j]? = some y.1 := by rw [List.getElem?_map, hy]; rfl
  obtain ⟨l1, e1⟩ := List.getElem?_eq_some_iff.1 h1
  obtain ⟨l2, e2⟩ := List.getElem?_eq_some_iff.1 h2
  rcases Nat.lt_or_gt_of_ne h with hl | hl
  · exact List.pairwise_iff_getElem.1 hd i j l1 l2 hl (by rw [e1, e2, e])
  · exact List.pairwise_iff_getElem.1 hd j i l2 l1 hl (by rw [e1, e2, e])

/-- One node has become another one. -/
theorem KB.put (K : KB E S0 w0 s0 BX (A ++ (a, r) :: B) w) {r' : NodeR I} (h : ∀ S s, RepS E S w s → s.nd a = some r → ∃ S', RepS E S' w' (s.setNd a r') ∧ Ext S w S' w') : KB E S0 w0 s0 BX (A ++ (a, r') :: B) w' := by
  obtain ⟨S, s, R, hE, hn, hd, h1, h2, h3, hX⟩ := K
  obtain ⟨S', R', hE'⟩ := h S s R (hn a r (by simp))
  have hm : (A ++ (a, r') :: B).map (·.1) = (A ++ (a, r) :: B).map (·.1) := by simp
  refine ⟨S', _, R', hE.trans hE', fun b q hb => ?_, by rw [hm]; exact hd, h1, h2, fun z hz => ?_, hX.step hE'⟩
  · rw [Sto.nd_setNd]
    have hda : a ∉ A.map (·.1) ∧ a ∉ B.map (·.1) := by
      rw [List.map_append, List.map_cons, List.nodup_append] at hd
      exact ⟨fun hm => (hd.2.2 a hm a (by simp)) rfl, (List.nodup_cons.1 hd.2.1).1⟩
    rcases List.mem_append.1 hb with hb | hb
    · have hne : b ≠ a := fun e => hda.1 (e ▸ List.mem_map.2 ⟨_, hb, rfl⟩)
      rw [if_neg hne]; exact hn b q (by simp [hb])
    · rcases List.mem_cons.1 hb with hb | hb
      · simp only [Prod.mk.injEq] at hb
        obtain ⟨rfl, rfl⟩ := hb
        rw [if_pos rfl]
      · have hne : b ≠ a := fun e => hda.2 (e ▸ List.mem_map.2 ⟨_, hb, rfl⟩)
        rw [if_neg hne]; exact hn b q (by simp [hb])
  · rw [hm] at hz
    rw [Sto.nd_setNd, if_neg (fun e => hz (by rw [e]; simp))]
    exact h3 z hz
theorem KB.count (K : KB E S0 w0 s0 BX (A ++ (a, r) :: B) w) (c : Int) (hu : Upd w w' a 1 [.int .i64 c]) : KB E S0 w0 s0 BX (A ++ (a, { r with count := c }) :: B) w' :=
  K.put fun S s R hn => ⟨S, R.set_count hn c hu, (Ext.refl S w).upd hu (.inl (R.inS_node hn))⟩
theorem KB.set_item (K : KB E S0 w0 s0 BX (A ++ (a, r) :: B) w) {b o : Nat} (hb : r.ib = some (b, o)) {i : Nat} (x : I) (hi : i < r.items.length) {off : Nat} (ho : off = o + i * E.sz) (hu : Upd w w' b off (E.enc x)) : KB E S0 w0 s0 BX (A ++ (a, { r with items := r.items.set i x }) :: B) w' :=
  K.put fun S s R hn => ⟨S, R.set_item hn hb x hi ho hu, (Ext.refl S w).upd hu (.inl (R.inS_items hn hb))⟩
theorem KB.set_items (K : KB E S0 w0 s0 BX (A ++ (a, r) :: B) w) {b o : Nat} (hb : r.ib = some (b, o)) {i : Nat} (m : List I) (hi : i + m.length ≤ r.items.length) {off : Nat} (ho : off = o + i * E.sz) (hu : Upd w w' b off (itemCells E m)) : KB E S0 w0 s0 BX (A ++ (a, { r with items := r.items.take i ++ m ++ r.items.drop (i + m.length) }) :: B) w' :=
  K.put fun S s R hn => ⟨S, R.set_items hn hb m hi ho hu, (Ext.refl S w).upd hu (.inl (R.inS_items hn hb))⟩
theorem KB.take_items (K : KB E S0 w0 s0 BX (A ++ (a, r) :: B) w) {k : Nat} (hk : k ≤ r.items.length) (hu : Upd w w' a 2 [sv r.ib k r.icap]) : KB E S0 w0 s0 BX (A ++ (a, { r with items := r.items.take k }) :: B) w' :=
  K.put fun S s R hn => ⟨S, R.take_items hn hk hu, (Ext.refl S w).upd hu (.inl (R.inS_node hn))⟩
theorem KB.set_kid (K : KB E S0 w0 s0 BX (A ++ (a, r) :: B) w) {k : KidR} (hk : r.kids = some k) {b o : Nat} (hb : k.base = some (b, o)) {i : Nat} (p : Option Nat) (hi : i < k.kids.length) {off : Nat} (ho : off = o + i) (hu : Upd w w' b off [pv p]) : KB E S0 w0 s0 BX (A ++ (a, { r with kids := some { k with kids := k.kids.set i p } }) :: B) w' :=
  K.put fun S s R hn => ⟨S, R.set_kid hn hk hb p hi ho hu, (Ext.refl S w).upd hu (.inl (R.inS_arr hn hk hb))⟩
theorem KB.set_kids (K : KB E S0 w0 s0 BX (A ++ (a, r) :: B) w) {k : KidR} (hk : r.kids = some k) {b o : Nat} (hb : k.base = some (b, o)) {i : Nat} (m : List (Option Nat)) (hi : i + m.length ≤ k.kids.length) {off : Nat} (ho : off = o + i) (hu : Upd w w' b off (m.map pv)) : KB E S0 w0 s0 BX (A ++ (a, { r with kids := some { k with kids := k.kids.take i ++ m ++ k.kids.drop (i + m.length) } }) :: B) w' :=
  K.put fun S s R hn => ⟨S, R.set_kids hn hk hb m hi ho hu, (Ext.refl S w).upd hu (.inl (R.inS_arr hn hk hb))⟩
theorem KB.take_kids (K : KB E S0 w0 s0 BX (A ++ (a, r) :: B) w) {k : KidR} (hk : r.kids = some k) {b o : Nat} (hb : k.base = some (b, o)) {j : Nat} (hj : j ≤ k.kids.length) (hu : Upd w w' k.hdr 0 [sv k.base j k.cap]) : KB E S0 w0 s0 BX (A ++ (a, { r with kids := some { k with kids := k.kids.take j } }) :: B) w' :=
  K.put fun S s R hn => ⟨S, R.take_kids hn hk hb hj hu, (Ext.refl S w).upd hu (.inl (R.inS_hdr hn hk))⟩

/-- The list that append has made is not stored yet. -/
theorem KB.app_keep (K : KB E S0 w0 s0 BX (A ++ (a, r) :: B) w) {m n : Nat} {news : List Value} {v' : Value} (hn : r.items.length = n) (hm : news.length = m * E.sz) (h : AppX E.ty w w' r.ib n r.icap E.sz m (itemCells E r.items) news v') : KB E S0 w0 s0 BX (A ++ (a, r) :: B) w' := by
  subst hn
  rcases h with ⟨_, rfl, _⟩ | ⟨_, h⟩
  · exact K
  · obtain ⟨S, s, R, hE, hn, q1, q2, q3, q4, q5⟩ := K
    obtain ⟨R', hF⟩ := R.app_keep_items (hn a r (by simp)) hm h
    have hE' : Ext S w S w' := ⟨hF, fun _ h => .inl h, fun _ h => h⟩
    exact ⟨S, s, R', hE.trans hE', hn, q1, q2, q3, q4, q5.step hE'⟩
theorem KB.app_items (K : KB E S0 w0 s0 BX (A ++ (a, r) :: B) w) (xs : List I) {w1 : World} {v' : Value} {n m : Nat} (hl : r.items.length = n) (hm : xs.length = m) (h : AppX E.ty w w1 r.ib n r.icap E.sz m (itemCells E r.items) (itemCells E xs) v') (hu : Upd w1 w' a 2 [v']) :
    ∃ ib' cap', v' = sv ib' (r.items ++ xs).length cap' ∧ KB E S0 w0 s0 BX (A ++ (a, { r with items := r.items ++ xs, ib := ib', icap := cap' }) :: B) w' := by
  subst hl; subst hm
  rcases h with ⟨h0, rfl, rfl⟩ | ⟨_, h⟩
  · obtain rfl : xs = [] := List.eq_nil_of_length_eq_zero h0
    refine ⟨r.ib, r.icap, by rw [List.append_nil], ?_⟩
    have := K.take_items (Nat.le_refl _) hu
    rwa [List.take_length, ← List.append_nil r.items] at this
  · have K' := K
    obtain ⟨S, s, R, hE, hn, hd, q⟩ := K
    obtain ⟨ib', cap', S', hv, _, hF, hs1, hs2, R'⟩ := R.app_items (hn a r (by simp)) xs h hu
    refine ⟨ib', cap', hv, ?_⟩
    clear R hn R'
    refine K'.put fun S1 s1 R1 hn1 => ?_
    obtain ⟨ib2, cap2, S2, hv2, _, hF2, hs12, hs22, R2⟩ := R1.app_items hn1 xs h hu
    obtain ⟨rfl, rfl⟩ : ib' = ib2 ∧ cap' = cap2 := by
      rw [hv2] at hv
      cases ib2 with
      | none =>
        cases ib' with
        | none => simp [sv] at hv; exact ⟨rfl, hv.symm⟩
        | some p => simp [sv] at hv
      | some p =>
        obtain ⟨rfl, rfl⟩ := sv_inj (b := p.1) (o := p.2) hv
        exact ⟨rfl, rfl⟩
    exact ⟨S2, R2, hF2, hs12, hs22⟩
theorem KB.appk_keep (K : KB E S0 w0 s0 BX (A ++ (a, r) :: B) w) {k : KidR} (hk : r.kids = some k) {m n : Nat} {news : List Value} {v' : Value} {e : TypeId} (hn : k.kids.length = n) (hm : news.length = m * 1) (h : App e w w' k.base n k.cap 1 m (k.kids.map pv) news v') : KB E S0 w0 s0 BX (A ++ (a, r) :: B) w' := by
  subst hn
  obtain ⟨S, s, R, hE, hn, q1, q2, q3, q4, q5⟩ := K
  obtain ⟨R', hF⟩ := R.app_keep_kids (hn a r (by simp)) hk hm h
  have hE' : Ext S w S w' := ⟨hF, fun _ h => .inl h, fun _ h => h⟩
  exact ⟨S, s, R', hE.trans hE', hn, q1, q2, q3, q4, q5.step hE'⟩
theorem KB.app_kids (K : KB E S0 w0 s0 BX (A ++ (a, r) :: B) w) {k : KidR} (hk : r.kids = some k) (xs : List (Option Nat)) {w1 : World} {v' : Value} {e : TypeId} {n m : Nat} (hl : k.kids.length = n) (hm : xs.length = m) (h : App e w w1 k.base n k.cap 1 m (k.kids.map pv) (xs.map pv) v') (hu : Upd w1 w' k.hdr 0 [v']) :
    ∃ kb' cap', v' = sv kb' (k.kids ++ xs).length cap' ∧ KB E S0 w0 s0 BX (A ++ (a, { r with kids := some { k with kids := k.kids ++ xs, base := kb', cap := cap' } }) :: B) w' := by
  subst hl; subst hm
  have K' := K
  obtain ⟨S, s, R, hE, hn, hd, q⟩ := K
  obtain ⟨ib', cap', S', hv, _, hF, hs1, hs2, R'⟩ := R.app_kids (hn a r (by simp)) hk xs h hu
  refine ⟨ib', cap', hv, ?_⟩
  clear R hn R'
  refine K'.put fun S1 s1 R1 hn1 => ?_
  obtain ⟨ib2, cap2, S2, hv2, _, hF2, hs12, hs22, R2⟩ := R1.app_kids hn1 hk xs h hu
  obtain ⟨rfl, rfl⟩ : ib' = ib2 ∧ cap' = cap2 := by
    rw [hv2] at hv
    cases ib2 with
    | none =>
      cases ib' with
      | none => simp [sv] at hv; exact ⟨rfl, hv.symm⟩
      | some p => simp [sv] at hv
    | some p =>
      obtain ⟨rfl, rfl⟩ := sv_inj (b := p.1) (o := p.2) hv
      exact ⟨rfl, rfl⟩
  exact ⟨S2, R2, hF2, hs12, hs22⟩
end

end Go.Proofs.Ytbjhnefienjncaa.Bt
