/- Some nodes of a map at hand, while a call works on them. -/
import Derived.Test.YtbjhnefienjncaaBtRel
namespace Go.Proofs.Ytbjhnefienjncaa.Bt
set_option linter.unusedVariables false
set_option linter.unusedSimpArgs false
open Go Go.RowKit

section
variable {I : Type} {E : Enc I} {S0 : Nat → Prop} {w0 w w' : World} {s0 : Sto I}

/-- From the store s0 on: the nodes of L have become what L tells; no other node has changed. -/
structure KS (E : Enc I) (S0 : Nat → Prop) (w0 : World) (s0 : Sto I) (L : List (Nat × NodeR I)) (w : World) : Prop where
  ex : ∃ S s, RepS E S w s ∧ Ext S0 w0 S w ∧ (∀ a r, (a, r) ∈ L → s.nd a = some r) ∧ (L.map (·.1)).Nodup ∧ s.m = s0.m ∧ s.mp = s0.mp ∧ ∀ z, z ∉ L.map (·.1) → s.nd z = s0.nd z

theorem KS.start {S : Nat → Prop} {s : Sto I} {L : List (Nat × NodeR I)} (R : RepS E S w s) (h : ∀ a r, (a, r) ∈ L → s.nd a = some r) (hd : (L.map (·.1)).Nodup) : KS E S w s L w := ⟨S, s, R, Ext.refl _ _, h, hd, rfl, rfl, fun _ _ => rfl⟩
variable {L A B : List (Nat × NodeR I)} {a : Nat} {r : NodeR I}
theorem KS.drew (K : KS E S0 w0 s0 L w) : KS E S0 w0 s0 L w.drew := by
  obtain ⟨S, s, R, h, k⟩ := K; exact ⟨S, s, R.drew, h.drew, k⟩
theorem KS.drewN (K : KS E S0 w0 s0 L w) (n : Nat) : KS E S0 w0 s0 L (w.drewN n) := by
  obtain ⟨S, s, R, h, k⟩ := K; exact ⟨S, s, R.drewN n, h.drewN n, k⟩
theorem KS.alloc (K : KS E S0 w0 s0 L w) (x : Obj) : KS E S0 w0 s0 L (w.alloc x) := by
  obtain ⟨S, s, R, h, k⟩ := K; exact ⟨S, s, R.alloc x, h.alloc x, k⟩
/-- What the call has laid itself changes no node. -/
theorem KS.keep (K : KS E S0 w0 s0 L w) {k : Nat} (hf : Fr (fun i => i = k) w w') (h : ∀ S s, RepS E S w s → Ext S0 w0 S w → ¬ S k) (hk : w0.heap.size ≤ k) : KS E S0 w0 s0 L w' := by
  obtain ⟨S, s, R, hE, q⟩ := K
  have hn := h S s R hE
  exact ⟨S, s, R.keep hf (fun i hi e => hn (e ▸ hi)), ⟨hE.fr.trans hf (fun i e => .inr (e ▸ hk)), hE.new, hE.old⟩, q⟩
/-! one node of the list brought out -/
theorem KS.n0 {a : Nat} {r : NodeR I} {B : List (Nat × NodeR I)} (K : KS E S0 w0 s0 ((a, r) :: B) w) : KS E S0 w0 s0 ([] ++ (a, r) :: B) w := K
theorem KS.n1 {p : Nat × NodeR I} {a : Nat} {r : NodeR I} {B : List (Nat × NodeR I)} (K : KS E S0 w0 s0 (p :: (a, r) :: B) w) : KS E S0 w0 s0 ([p] ++ (a, r) :: B) w := K
theorem KS.n2 {p q : Nat × NodeR I} {a : Nat} {r : NodeR I} {B : List (Nat × NodeR I)} (K : KS E S0 w0 s0 (p :: q :: (a, r) :: B) w) : KS E S0 w0 s0 ([p, q] ++ (a, r) :: B) w := K
theorem KS.n3 {p q u : Nat × NodeR I} {a : Nat} {r : NodeR I} {B : List (Nat × NodeR I)} (K : KS E S0 w0 s0 (p :: q :: u :: (a, r) :: B) w) : KS E S0 w0 s0 ([p, q, u] ++ (a, r) :: B) w := K
/-- A block that the call has laid itself: it lies above where the call began, and is none of the store's. -/
theorem KS.cell (K : KS E S0 w0 s0 (A ++ (a, r) :: B) w) : a < w.heap.size ∧ w.cell? ⟨a, 0, none⟩ = some (.int .u64 r.iso) ∧ w.cell? ⟨a, 1, none⟩ = some (.int .i64 r.count) ∧ w.cell? ⟨a, 2, none⟩ = some (sv r.ib r.items.length r.icap) ∧ w.cell? ⟨a, 3, none⟩ = some (pv (r.kids.map (·.hdr))) := by
  obtain ⟨S, s, R, _, h, _⟩ := K
  have hn := h a r (by simp)
  exact ⟨(R.node hn).1, (R.node hn).cell 0 rfl, (R.node hn).cell 1 rfl, (R.node hn).cell 2 rfl, (R.node hn).cell 3 rfl⟩
theorem KS.mem (K : KS E S0 w0 s0 (A ++ (a, r) :: B) w) : M w a 1 = some (.int .i64 r.count) ∧ M w a 2 = some (sv r.ib r.items.length r.icap) := by
  obtain ⟨S, s, R, _, h, _⟩ := K
  have hn := h a r (by simp)
  exact ⟨(R.node hn).2 1 _ rfl, (R.node hn).2 2 _ rfl⟩
theorem KS.hdr (K : KS E S0 w0 s0 (A ++ (a, r) :: B) w) {k : KidR} (hk : r.kids = some k) : k.hdr < w.heap.size ∧ M w k.hdr 0 = some (sv k.base k.kids.length k.cap) := by
  obtain ⟨S, s, R, _, h, _⟩ := K
  have hn := h a r (by simp)
  exact ⟨(R.hdr hn hk).1, (R.hdr hn hk).2 0 _ rfl⟩
theorem KS.wf (K : KS E S0 w0 s0 (A ++ (a, r) :: B) w) : r.wf := by
  obtain ⟨S, s, R, _, h, _⟩ := K
  exact R.wf a r (h a r (by simp))
theorem KS.item (K : KS E S0 w0 s0 (A ++ (a, r) :: B) w) {b o : Nat} (hb : r.ib = some (b, o)) {i : Nat} {x : I} (hx : r.items[i]? = some x) {j : Nat} {v : Value} (hv : (E.enc x)[j]? = some v) : M w b (o + (i * E.sz + j)) = some v := by
  obtain ⟨S, s, R, _, h, _⟩ := K
  exact R.item (h a r (by simp)) hb hx hv
theorem KS.kid (K : KS E S0 w0 s0 (A ++ (a, r) :: B) w) {k : KidR} (hk : r.kids = some k) {b o : Nat} (hb : k.base = some (b, o)) {i : Nat} {p : Option Nat} (hp : k.kids[i]? = some p) : M w b (o + i) = some (pv p) := by
  obtain ⟨S, s, R, _, h, _⟩ := K
  exact R.kid (h a r (by simp)) hk hb hp
theorem KS.blt (K : KS E S0 w0 s0 (A ++ (a, r) :: B) w) {b o : Nat} (hb : r.ib = some (b, o)) : b < w.heap.size := by
  obtain ⟨S, s, R, _, h, _⟩ := K
  exact R.rep.lt b (R.inS_items (h a r (by simp)) hb)
theorem KS.items (K : KS E S0 w0 s0 (A ++ (a, r) :: B) w) {b o : Nat} (hb : r.ib = some (b, o)) : (⟨b, o, r.icap * E.sz, itemCells E r.items⟩ : Ch).Ok w := by
  obtain ⟨S, s, R, _, h, _⟩ := K
  exact R.items (h a r (by simp)) hb
theorem KS.arr (K : KS E S0 w0 s0 (A ++ (a, r) :: B) w) {k : KidR} (hk : r.kids = some k) {b o : Nat} (hb : k.base = some (b, o)) : (⟨b, o, k.cap, k.kids.map pv⟩ : Ch).Ok w := by
  obtain ⟨S, s, R, _, h, _⟩ := K
  exact R.arr (h a r (by simp)) hk hb
theorem KS.ty (K : KS E S0 w0 s0 (A ++ (a, r) :: B) w) {b o : Nat} (hb : r.ib = some (b, o)) : bty w b = some E.ty := by
  obtain ⟨S, s, R, _, h, _⟩ := K
  exact R.ty.2 a r (h a r (by simp)) (b, o) hb
theorem KS.src (K : KS E S0 w0 s0 (A ++ (a, r) :: B) w) {b o : Nat} (hb : r.ib = some (b, o)) {i : Nat} {l m : List I} (hl : r.items.drop i = l ++ m) (hi : i ≤ r.items.length) {j : Nat} {v : Value} (hv : (itemCells E l)[j]? = some v) : M w b (o + i * E.sz + j) = some v := by
  obtain ⟨S, s, R, _, h, _⟩ := K
  exact R.src_items (h a r (by simp)) hb hl hi hv
theorem KS.map (K : KS E S0 w0 s0 L w) : Bx w s0.m (mapCells E s0.mp) ∧ bty w s0.m = some E.mty := by
  obtain ⟨S, s, R, _, _, _, h1, h2, _⟩ := K
  rw [← h1, ← h2]; exact ⟨R.map, R.ty.1⟩
theorem KS.ne (K : KS E S0 w0 s0 L w) {i j : Nat} {x y : Nat × NodeR I} (hx : L[i]? = some x) (hy : L[j]? = some y) (h : i ≠ j) : x.1 ≠ y.1 := by
  obtain ⟨S, s, _, _, _, hd, _⟩ := K
  intro e
  have h1 : (L.map (·.1))[i]? = some x.1 := by rw [List.getElem?_map, hx]; rfl
  have h2 : (L.map (·.1))[j]? = some y.1 := by rw [List.getElem?_map, hy]; rfl
  obtain ⟨l1, e1⟩ := List.getElem?_eq_some_iff.1 h1
  obtain ⟨l2, e2⟩ := List.getElem?_eq_some_iff.1 h2
  rcases Nat.lt_or_gt_of_ne h with hl | hl
  · exact List.pairwise_iff_getElem.1 hd i j l1 l2 hl (by rw [e1, e2, e])
  · exact List.pairwise_iff_getElem.1 hd j i l2 l1 hl (by rw [e1, e2, e])

/-- One node has become another one. -/
theorem KS.put (K : KS E S0 w0 s0 (A ++ (a, r) :: B) w) {r' : NodeR I} (h : ∀ S s, RepS E S w s → s.nd a = some r → ∃ S', RepS E S' w' (s.setNd a r') ∧ Ext S w S' w') : KS E S0 w0 s0 (A ++ (a, r') :: B) w' := by
  obtain ⟨S, s, R, hE, hn, hd, h1, h2, h3⟩ := K
  obtain ⟨S', R', hE'⟩ := h S s R (hn a r (by simp))
  have hm : (A ++ (a, r') :: B).map (·.1) = (A ++ (a, r) :: B).map (·.1) := by simp
  refine ⟨S', _, R', hE.trans hE', fun b q hb => ?_, by rw [hm]; exact hd, h1, h2, fun z hz => ?_⟩
  · rw [Sto.nd_setNd]
    have hda : a ∉ A.map (·.1) ∧ a ∉ B.map (·.1) := by
      rw [List.map_append, List.map_cons, List.nodup_append] at hd
      exact ⟨fun hm => (hd.2.2 a hm a (by simp)) rfl, (List.nodup_cons.1 hd.2.1).1⟩
    rcases List.mem_append.1 hb with hb | hb
    · have hne : b ≠ a := fun e => hda.1 (e ▸ List.mem_map.2 ⟨_, hb, rfl⟩)
      rw [if_neg hne]; exact hn b q (by simp [hb])
    · rcases List.mem_cons.1 hb with hb | hb
      · simp only [Prod.mk.injEq] at hb
        obtain ⟨rfl, rfl⟩ := hb
        rw [if_pos rfl]
      · have hne : b ≠ a := fun e => hda.2 (e ▸ List.mem_map.2 ⟨_, hb, rfl⟩)
        rw [if_neg hne]; exact hn b q (by simp [hb])
  · rw [hm] at hz
    rw [Sto.nd_setNd, if_neg (fun e => hz (by rw [e]; simp))]
    exact h3 z hz
theorem KS.count (K : KS E S0 w0 s0 (A ++ (a, r) :: B) w) (c : Int) (hu : Upd w w' a 1 [.int .i64 c]) : KS E S0 w0 s0 (A ++ (a, { r with count := c }) :: B) w' :=
  K.put fun S s R hn => ⟨S, R.set_count hn c hu, (Ext.refl S w).upd hu (.inl (R.inS_node hn))⟩
theorem KS.set_item (K : KS E S0 w0 s0 (A ++ (a, r) :: B) w) {b o : Nat} (hb : r.ib = some (b, o)) {i : Nat} (x : I) (hi : i < r.items.length) {off : Nat} (ho : off = o + i * E.sz) (hu : Upd w w' b off (E.enc x)) : KS E S0 w0 s0 (A ++ (a, { r with items := r.items.set i x }) :: B) w' :=
  K.put fun S s R hn => ⟨S, R.set_item hn hb x hi ho hu, (Ext.refl S w).upd hu (.inl (R.inS_items hn hb))⟩
theorem KS.set_items (K : KS E S0 w0 s0 (A ++ (a, r) :: B) w) {b o : Nat} (hb : r.ib = some (b, o)) {i : Nat} (m : List I) (hi : i + m.length ≤ r.items.length) {off : Nat} (ho : off = o + i * E.sz) (hu : Upd w w' b off (itemCells E m)) : KS E S0 w0 s0 (A ++ (a, { r with items := r.items.take i ++ m ++ r.items.drop (i + m.length) }) :: B) w' :=
  K.put fun S s R hn => ⟨S, R.set_items hn hb m hi ho hu, (Ext.refl S w).upd hu (.inl (R.inS_items hn hb))⟩
theorem KS.take_items (K : KS E S0 w0 s0 (A ++ (a, r) :: B) w) {k : Nat} (hk : k ≤ r.items.length) (hu : Upd w w' a 2 [sv r.ib k r.icap]) : KS E S0 w0 s0 (A ++ (a, { r with items := r.items.take k }) :: B) w' :=
  K.put fun S s R hn => ⟨S, R.take_items hn hk hu, (Ext.refl S w).upd hu (.inl (R.inS_node hn))⟩
theorem KS.set_kid (K : KS E S0 w0 s0 (A ++ (a, r) :: B) w) {k : KidR} (hk : r.kids = some k) {b o : Nat} (hb : k.base = some (b, o)) {i : Nat} (p : Option Nat) (hi : i < k.kids.length) {off : Nat} (ho : off = o + i) (hu : Upd w w' b off [pv p]) : KS E S0 w0 s0 (A ++ (a, { r with kids := some { k with kids := k.kids.set i p } }) :: B) w' :=
  K.put fun S s R hn => ⟨S, R.set_kid hn hk hb p hi ho hu, (Ext.refl S w).upd hu (.inl (R.inS_arr hn hk hb))⟩
theorem KS.set_kids (K : KS E S0 w0 s0 (A ++ (a, r) :: B) w) {k : KidR} (hk : r.kids = some k) {b o : Nat} (hb : k.base = some (b, o)) {i : Nat} (m : List (Option Nat)) (hi : i + m.length ≤ k.kids.length) {off : Nat} (ho : off = o + i) (hu : Upd w w' b off (m.map pv)) : KS E S0 w0 s0 (A ++ (a, { r with kids := some { k with kids := k.kids.take i ++ m ++ k.kids.drop (i + m.length) } }) :: B) w' :=
  K.put fun S s R hn => ⟨S, R.set_kids hn hk hb m hi ho hu, (Ext.refl S w).upd hu (.inl (R.inS_arr hn hk hb))⟩
theorem KS.take_kids (K : KS E S0 w0 s0 (A ++ (a, r) :: B) w) {k : KidR} (hk : r.kids = some k) {b o : Nat} (hb : k.base = some (b, o)) {j : Nat} (hj : j ≤ k.kids.length) (hu : Upd w w' k.hdr 0 [sv k.base j k.cap]) : KS E S0 w0 s0 (A ++ (a, { r with kids := some { k with kids := k.kids.take j } }) :: B) w' :=
  K.put fun S s R hn => ⟨S, R.take_kids hn hk hb hj hu, (Ext.refl S w).upd hu (.inl (R.inS_hdr hn hk))⟩

/-- What append makes, where the second slice may be empty. -/
def AppX (e : TypeId) (w w' : World) (base : Option (Nat × Nat)) (n cap sz m : Nat) (olds news : List Value) (v' : Value) : Prop := (m = 0 ∧ w' = w ∧ v' = sv base n cap) ∨ (0 < m ∧ App e w w' base n cap sz m olds news v')
theorem AppX.form {e : TypeId} {w w' : World} {base : Option (Nat × Nat)} {n cap sz m : Nat} {olds news : List Value} {v' : Value} (h : AppX e w w' base n cap sz m olds news v') : ∃ A c, v' = .slice A (n + m) c := by
  rcases h with ⟨rfl, _, rfl⟩ | ⟨_, h⟩
  · exact ⟨_, _, rfl⟩
  · obtain ⟨b, o, c, h⟩ := h.form
    exact ⟨_, c, h⟩
theorem sv_cap {A : Option Addr} {n c : Nat} {ib : Option (Nat × Nat)} {n' c' : Nat} (h : Value.slice A n c = sv ib n' c') : c = c' := by
  injection h
/-- The list that append has made is not stored yet. -/
theorem KS.app_keep (K : KS E S0 w0 s0 (A ++ (a, r) :: B) w) {m n : Nat} {news : List Value} {v' : Value} (hn : r.items.length = n) (hm : news.length = m * E.sz) (h : AppX E.ty w w' r.ib n r.icap E.sz m (itemCells E r.items) news v') : KS E S0 w0 s0 (A ++ (a, r) :: B) w' := by
  subst hn
  rcases h with ⟨_, rfl, _⟩ | ⟨_, h⟩
  · exact K
  · obtain ⟨S, s, R, hE, hn, q⟩ := K
    obtain ⟨R', hF⟩ := R.app_keep_items (hn a r (by simp)) hm h
    exact ⟨S, s, R', hE.trans ⟨hF, fun _ h => .inl h, fun _ h => h⟩, hn, q⟩
theorem KS.app_items (K : KS E S0 w0 s0 (A ++ (a, r) :: B) w) (xs : List I) {w1 : World} {v' : Value} {n m : Nat} (hl : r.items.length = n) (hm : xs.length = m) (h : AppX E.ty w w1 r.ib n r.icap E.sz m (itemCells E r.items) (itemCells E xs) v') (hu : Upd w1 w' a 2 [v']) :
    ∃ ib' cap', v' = sv ib' (r.items ++ xs).length cap' ∧ KS E S0 w0 s0 (A ++ (a, { r with items := r.items ++ xs, ib := ib', icap := cap' }) :: B) w' := by
  subst hl; subst hm
  rcases h with ⟨h0, rfl, rfl⟩ | ⟨_, h⟩
  · obtain rfl : xs = [] := List.eq_nil_of_length_eq_zero h0
    refine ⟨r.ib, r.icap, by rw [List.append_nil], ?_⟩
    have := K.take_items (Nat.le_refl _) hu
    rwa [List.take_length, ← List.append_nil r.items] at this
  · have K' := K
    obtain ⟨S, s, R, hE, hn, hd, q⟩ := K
    obtain ⟨ib', cap', S', hv, _, hF, hs1, hs2, R'⟩ := R.app_items (hn a r (by simp)) xs h hu
    refine ⟨ib', cap', hv, ?_⟩
    clear R hn R'
    refine K'.put fun S1 s1 R1 hn1 => ?_
    obtain ⟨ib2, cap2, S2, hv2, _, hF2, hs12, hs22, R2⟩ := R1.app_items hn1 xs h hu
    obtain ⟨rfl, rfl⟩ : ib' = ib2 ∧ cap' = cap2 := by
      rw [hv2] at hv
      cases ib2 with
      | none =>
        cases ib' with
        | none => simp [sv] at hv; exact ⟨rfl, hv.symm⟩
        | some p => simp [sv] at hv
      | some p =>
        obtain ⟨rfl, rfl⟩ := sv_inj (b := p.1) (o := p.2) hv
        exact ⟨rfl, rfl⟩
    exact ⟨S2, R2, hF2, hs12, hs22⟩
theorem KS.appk_keep (K : KS E S0 w0 s0 (A ++ (a, r) :: B) w) {k : KidR} (hk : r.kids = some k) {m n : Nat} {news : List Value} {v' : Value} {e : TypeId} (hn : k.kids.length = n) (hm : news.length = m * 1) (h : App e w w' k.base n k.cap 1 m (k.kids.map pv) news v') : KS E S0 w0 s0 (A ++ (a, r) :: B) w' := by
  subst hn
  obtain ⟨S, s, R, hE, hn, q⟩ := K
  obtain ⟨R', hF⟩ := R.app_keep_kids (hn a r (by simp)) hk hm h
  exact ⟨S, s, R', hE.trans ⟨hF, fun _ h => .inl h, fun _ h => h⟩, hn, q⟩
theorem KS.app_kids (K : KS E S0 w0 s0 (A ++ (a, r) :: B) w) {k : KidR} (hk : r.kids = some k) (xs : List (Option Nat)) {w1 : World} {v' : Value} {e : TypeId} {n m : Nat} (hl : k.kids.length = n) (hm : xs.length = m) (h : App e w w1 k.base n k.cap 1 m (k.kids.map pv) (xs.map pv) v') (hu : Upd w1 w' k.hdr 0 [v']) :
    ∃ kb' cap', v' = sv kb' (k.kids ++ xs).length cap' ∧ KS E S0 w0 s0 (A ++ (a, { r with kids := some { k with kids := k.kids ++ xs, base := kb', cap := cap' } }) :: B) w' := by
  subst hl; subst hm
  have K' := K
  obtain ⟨S, s, R, hE, hn, hd, q⟩ := K
  obtain ⟨ib', cap', S', hv, _, hF, hs1, hs2, R'⟩ := R.app_kids (hn a r (by simp)) hk xs h hu
  refine ⟨ib', cap', hv, ?_⟩
  clear R hn R'
  refine K'.put fun S1 s1 R1 hn1 => ?_
  obtain ⟨ib2, cap2, S2, hv2, _, hF2, hs12, hs22, R2⟩ := R1.app_kids hn1 hk xs h hu
  obtain ⟨rfl, rfl⟩ : ib' = ib2 ∧ cap' = cap2 := by
    rw [hv2] at hv
    cases ib2 with
    | none =>
      cases ib' with
      | none => simp [sv] at hv; exact ⟨rfl, hv.symm⟩
      | some p => simp [sv] at hv
    | some p =>
      obtain ⟨rfl, rfl⟩ := sv_inj (b := p.1) (o := p.2) hv
      exact ⟨rfl, rfl⟩
  exact ⟨S2, R2, hF2, hs12, hs22⟩
end

section
variable {P : Program} {ops : Array Oper} {o : Oper} {a : Act} {w : World} {Q : Exit → Act → World → Prop}
/-- append of a slice that may be empty, as a step of a region that draws its order. -/
theorem step_appX {K : Act → World → Prop} {F : Prop} (hg : o.guard = none) (s x : Operand) (t : TypeId) (hop : o.op = Op.call { callee := Callee.builtin Builtin.append, args := #[s, x], argTypes := #[t, t] })
    (e : TypeId) (i : TypeInfo) (z : Value) (size bytes : Nat) (h1 : P.underlying t = some (.slice e)) (h2 : P.info? e = some i) (h3 : i.zero = some z) (h4 : i.size = size) (h5 : i.bytes = bytes) (h6 : z.cells.size = size) (h7 : 0 < size)
    (base : Option (Nat × Nat)) (n cap : Nat) (olds : List Value) (hs : a.eval s = sv base n cap) (hnone : base = none → n = 0 ∧ cap = 0) (hcap : n ≤ cap) (hlo : olds.length = n * size)
    (hold : ∀ b o, base = some (b, o) → (⟨b, o, cap * size, olds⟩ : Ch).Ok w)
    (A : Addr) (m c : Nat) (news : List Value) (hx : ∃ sa, a.eval x = .slice sa m c ∧ (0 < m → sa = some A)) (hn : news.length = m * size) (hc : ∀ j u, news[j]? = some u → w.cell? (A.add j) = some u) (h1c : ∀ u ∈ news, u.oneCell' = true)
    (b1 : n + m ≤ maxLen) (b2 : (n + m) * bytes ≤ 140737488355328)
    (hK : ∀ v' w', AppX e w w' base n cap size m olds news v' → K (a.put o.dst v') w') :
    if Region.wanted o (yielded ops a.tmps) = true then Oper.wp P o a w K Q else F := by
  obtain ⟨sa, hx, hsa⟩ := hx
  rcases Nat.eq_zero_or_pos m with rfl | hm
  · have hw : Region.wanted o (yielded ops a.tmps) = true := by simp [Region.wanted, hg]
    rw [if_pos hw]
    have hrun : (Builtin.append_ #[t, t] o.type #[sv base n cap, .slice sa 0 c]).run P w = .ok (sv base n cap) w := by
      subst h4
      have hl : ∀ x : Addr, (loadCells x 0).run P w = .ok #[] w := fun x => run_loadCells_list (P := P) w x [] (by simp)
      have hst : ∀ x : Addr, (storeCells x []).run P w = .ok () w := fun x => rfl
      unfold sv
      cases base with
      | none =>
        obtain ⟨rfl, rfl⟩ := hnone rfl
        cases sa <;> simp [Builtin.append_, run_underlying h1, Builtin.lenOf, Builtin.firstCells, sizeOf, typeInfo, h2, hl, hst, hcap]
      | some p => cases sa <;> simp [Builtin.append_, run_underlying h1, Builtin.lenOf, Builtin.firstCells, sizeOf, typeInfo, h2, hl, hst, hcap]
    unfold Oper.wp
    simp [execOp, hop, resolve, invoke, builtin, hs, hx, hrun, Result.andThen]
    exact hK _ _ (.inl ⟨rfl, rfl, rfl⟩)
  · rw [hsa hm] at hx
    exact step_app hg s x t hop e i z size bytes h1 h2 h3 h4 h5 h6 h7 base n cap olds hs hnone hlo hold A m c news hx hm hn hc h1c b1 b2 (fun v' w' h => hK v' w' (.inr ⟨hm, h⟩))
end
end Go.Proofs.Ytbjhnefienjncaa.Bt
