/- Nodes as data: a node of a map is made of one (the plain part). Nodes as data: a node of a map is made of one. -/
import Derived.Test.YtehnobbiiokcgaaBtNj
import Derived.Test.YtehnobbiiokcgaaBtIIx
import Derived.Deep.RegionHeld3
namespace Go.Proofs.Ytehnobbiiokcgaa.Bt.ND
set_option linter.unusedVariables false
set_option linter.unusedSimpArgs false
open Go Go.RowKit Go.Proofs.Ytehnobbiiokcgaa.Bt

/-- While a node is being made: nb, rb, db: the call's own blocks (what came in, the result, d); m: the node; r: what it is so far; ps, cs, iss: its children so far. -/
structure PB (S : Nat → Prop) (w : World) (s : Sto II.It) (nb rb db m : Nat) (vi vk : Value) (c : Int) (r : NodeR II.It) {h : Nat} (ps : List Nat) (cs : List (BT II.It h)) (iss : List (List Nat)) (wr : World) : Prop where
  ex : ∃ S' s', RepS II.E S' wr s' ∧ Ext S w S' wr ∧ s'.m = s.m ∧ s'.mp = s.mp ∧ s'.nd m = some r ∧ (∀ q, q < w.heap.size → s'.nd q = s.nd q) ∧ Bx wr nb [vi, vk, .int .i64 c] ∧ Bx wr rb [.pointer none] ∧ Bx wr db [.pointer (some ⟨m, 0, none⟩)] ∧ ¬ S' nb ∧ ¬ S' rb ∧ ¬ S' db ∧
    Kids s'.nd s.mp.iso h ps cs iss ∧ iss.flatten.Nodup ∧ ∀ q ∈ iss.flatten, w.heap.size ≤ q ∧ q ≠ m
  ge : w.heap.size ≤ nb ∧ w.heap.size ≤ rb ∧ w.heap.size ≤ db ∧ w.heap.size ≤ m
  ne : nb ≠ db ∧ rb ≠ db

variable {S : Nat → Prop} {w wr : World} {s : Sto II.It} {nb rb db m : Nat} {vi vk : Value} {c : Int} {r : NodeR II.It} {h : Nat} {ps : List Nat} {cs : List (BT II.It h)} {iss : List (List Nat)}

theorem PB.cells (P : PB S w s nb rb db m vi vk c r ps cs iss wr) : wr.cell? ⟨nb, 0, none⟩ = some vi ∧ wr.cell? ⟨nb, 1, none⟩ = some vk ∧ wr.cell? ⟨nb, 2, none⟩ = some (.int .i64 c) ∧ wr.cell? ⟨db, 0, none⟩ = some (.pointer (some ⟨m, 0, none⟩)) ∧ wr.cell? ⟨rb, 0, none⟩ = some (.pointer none) ∧ wr.frozen? ⟨rb, 0, none⟩ = false ∧ nb < wr.heap.size ∧ db < wr.heap.size ∧ rb < wr.heap.size := by
  obtain ⟨S', s', _, _, _, _, _, _, b1, b2, b3, _⟩ := P.ex
  exact ⟨b1.cell 0 rfl, b1.cell 1 rfl, b1.cell 2 rfl, b3.cell 0 rfl, b2.cell 0 rfl, b2.froz 0 rfl, b1.1, b3.1, b2.1⟩
theorem PB.below {w0 : World} (P : PB S w s nb rb db m vi vk c r ps cs iss wr) (hS : ∀ i, S i → w0.heap.size ≤ i) (hb : Below w0.heap.size w0 w) : Below w0.heap.size w0 wr := by
  obtain ⟨S', s', _, hE, _⟩ := P.ex
  exact hb.trans (hE.fr.below hb.size hS)
theorem PB.size (P : PB S w s nb rb db m vi vk c r ps cs iss wr) : w.heap.size ≤ wr.heap.size := by
  obtain ⟨S', s', _, hE, _⟩ := P.ex
  exact hE.fr.size
theorem PB.alloc (P : PB S w s nb rb db m vi vk c r ps cs iss wr) (x : Obj) : PB S w s nb rb db m vi vk c r ps cs iss (wr.alloc x) := by
  obtain ⟨⟨S', s', R, hE, h1, h2, h3, h4, b1, b2, b3, q⟩, g, gn⟩ := P
  exact ⟨⟨S', s', R.alloc x, hE.alloc x, h1, h2, h3, h4, b1.alloc x, b2.alloc x, b3.alloc x, q⟩, g, gn⟩
theorem PB.drew (P : PB S w s nb rb db m vi vk c r ps cs iss wr) : PB S w s nb rb db m vi vk c r ps cs iss wr.drew := by
  obtain ⟨⟨S', s', R, hE, h1, h2, h3, h4, b1, b2, b3, q⟩, g, gn⟩ := P
  exact ⟨⟨S', s', R.drew, hE.drew, h1, h2, h3, h4, b1, b2, b3, q⟩, g, gn⟩
theorem kid_lt {S' : Nat → Prop} {s' : Sto II.It} {iso : Int} (R : RepS II.E S' wr s') (K : Kids s'.nd iso h ps cs iss) {q : Nat} (hq : q ∈ iss.flatten) : q < wr.heap.size := by
  obtain ⟨i, is, hi, hm⟩ := mem_flatten_get hq
  obtain ⟨t, ht⟩ := get_of_len K.2.1 hi
  obtain ⟨p, hp⟩ := get_of_len K.1.symm ht
  obtain ⟨r, hr, _⟩ := (K.2.2 i p t is hp ht hi).mem q hm
  exact R.rep.lt q (R.inS_node hr)
/-- The node itself has changed. -/
theorem PB.node (P : PB S w s nb rb db m vi vk c r ps cs iss wr) : ∃ S' s', RepS II.E S' wr s' ∧ s'.m = s.m ∧ s'.nd m = some r ∧ ∀ (w2 : World) (r' : NodeR II.It) (S'' : Nat → Prop), Ext S' wr S'' w2 → RepS II.E S'' w2 (s'.setNd m r') → PB S w s nb rb db m vi vk c r' ps cs iss w2 := by
  obtain ⟨⟨S', s', R, hE, h1, h2, h3, h4, b1, b2, b3, n1, n2, n3, K, hd, hq⟩, g, gn⟩ := P
  refine ⟨S', s', R, h1, h3, fun w2 r' S'' hE2 R2 => ?_⟩
  refine ⟨⟨S'', _, R2, hE.trans hE2, h1, h2, Sto.nd_same _ _ _, fun q hq' => ?_, hE2.bx b1 n1, hE2.bx b2 n2, hE2.bx b3 n3, hE2.notin b1.1 n1, hE2.notin b2.1 n2, hE2.notin b3.1 n3, K.keep fun q hq' => ?_, hd, hq⟩, g, gn⟩
  · rw [Sto.nd_ne _ _ (by have := g.2.2.2; omega)]; exact h4 q hq'
  · rw [Sto.nd_ne _ _ (hq q hq').2]
theorem PB.item (P : PB S w s nb rb db m vi vk c r ps cs iss wr) (hl : r.items.length ≤ 100000000) (x : Im) :
    Calls Try.prog 85 #[.agg #[.pointer (some ⟨m, 0, none⟩)], .int .i64 x.1, .int .i64 x.2] wr (fun e w' => e = .returned (.tuple #[]) ∧ ∃ ib' cap', PB S w s nb rb db m vi vk c { r with items := r.items ++ [x], ib := ib', icap := cap' } ps cs iss w') := by
  obtain ⟨S', s', R, h1, h2, h3⟩ := P.node
  refine (II.doorItem_is R h2 hl x).mono ?_
  rintro e w' ⟨rfl, ib', cap', S'', hE, R'⟩
  exact ⟨rfl, ib', cap', h3 _ _ _ hE R'⟩
theorem PB.append (P : PB S w s nb rb db m vi vk c r ps cs iss wr) {k : KidR} (hk : r.kids = some k) (hl : k.kids.length ≤ 100000000) (p : Nat) :
    Calls Try.prog 86 #[.agg #[.pointer (some ⟨m, 0, none⟩)], .agg #[.pointer (some ⟨p, 0, none⟩)]] wr (fun e w' => e = .returned (.tuple #[]) ∧ ∃ kb' cap', PB S w s nb rb db m vi vk c { r with kids := some { k with kids := k.kids ++ [some p], base := kb', cap := cap' } } ps cs iss w') := by
  obtain ⟨S', s', R, h1, h2, h3⟩ := P.node
  refine (II.doorAppend_is R h2 hk hl p).mono ?_
  rintro e w' ⟨rfl, ib', cap', S'', hE, R'⟩
  exact ⟨rfl, ib', cap', h3 _ _ _ hE R'⟩
/-- What a call has made of a child. -/
def Planted (S : Nat → Prop) (w : World) (s : Sto II.It) (h : Nat) (t : BT II.It h) (e : Ending) (w' : World) : Prop :=
  ∃ S' s' q ids, e = .returned (II.dv q) ∧ Ext S w S' w' ∧ RepS II.E S' w' s' ∧ s'.m = s.m ∧ s'.mp = s.mp ∧ Tr s'.nd s.mp.iso h q t ids ∧ ids.Nodup ∧ (∀ q ∈ ids, w.heap.size ≤ q) ∧ ∀ q, q < w.heap.size → s'.nd q = s.nd q
/-- A child is made. -/
theorem PB.kid (P : PB S w s nb rb db m vi vk c r ps cs iss wr) : ∃ S' s', RepS II.E S' wr s' ∧ Ext S w S' wr ∧ s'.m = s.m ∧ s'.mp = s.mp ∧ ∀ (t : BT II.It h) (e : Ending) (w2 : World), Planted S' wr s' h t e w2 → ∃ q ids, e = .returned (II.dv q) ∧ PB S w s nb rb db m vi vk c r (ps ++ [q]) (cs ++ [t]) (iss ++ [ids]) w2 := by
  obtain ⟨⟨S', s', R, hE, h1, h2, h3, h4, b1, b2, b3, n1, n2, n3, K, hd, hq⟩, g, gn⟩ := P
  refine ⟨S', s', R, hE, h1, h2, fun t e w2 hP => ?_⟩
  obtain ⟨S2, s2, q, ids, rfl, hE2, R2, e1, e2, T, hdi, hge, hold⟩ := hP
  have hml : m < wr.heap.size := R.rep.lt m (R.inS_node h3)
  have hsz := hE.fr.size
  refine ⟨q, ids, rfl, ⟨S2, s2, R2, hE.trans hE2, e1.trans h1, e2.trans h2, (hold m hml).trans h3, fun q hq' => (hold q (by omega)).trans (h4 q hq'), hE2.bx b1 n1, hE2.bx b2 n2, hE2.bx b3 n3, hE2.notin b1.1 n1, hE2.notin b2.1 n2, hE2.notin b3.1 n3,
    (K.keep fun q hq' => hold q (kid_lt R K hq')).append (Kids.cons (by rw [h2] at T; exact T) Kids.nil), ?_, fun q' hq' => ?_⟩, g, gn⟩
  · rw [List.flatten_append, List.nodup_append]
    exact ⟨hd, by simpa using hdi, fun a ha b hb e => by
      have h5 := kid_lt R K ha
      have h6 := hge b (by simpa using hb)
      omega⟩
  · rw [List.flatten_append, List.mem_append] at hq'
    rcases hq' with hq' | hq'
    · exact hq q' hq'
    · have h6 := hge q' (by simpa using hq')
      exact ⟨by omega, by omega⟩
/-- The children's counts. -/
theorem PB.cnts (P : PB S w s nb rb db m vi vk c r ps cs iss wr) : ∃ S' s', RepS II.E S' wr s' ∧ Ext S w S' wr ∧ s'.m = s.m ∧ s'.mp = s.mp ∧ s'.nd m = some r ∧ ps.length = cs.length ∧ ∀ (j p : Nat), ps[j]? = some p → p ≠ m ∧ ∃ rp, s'.nd p = some rp ∧ (Bt.cnts cs)[j]? = some rp.count := by
  obtain ⟨⟨S', s', R, hE, h1, h2, h3, h4, b1, b2, b3, n1, n2, n3, K, hd, hq⟩, g, gn⟩ := P
  refine ⟨S', s', R, hE, h1, h2, h3, K.1, fun j p hp => ?_⟩
  obtain ⟨t, ht⟩ := get_of_len K.1 hp
  obtain ⟨is, his⟩ := get_of_len K.2.1.symm ht
  obtain ⟨hm, rp, hr, _, _, hc, _⟩ := (K.2.2 j p t is hp ht his).root
  refine ⟨(hq p (List.mem_flatten.2 ⟨is, List.mem_of_getElem? his, hm⟩)).2, rp, hr, ?_⟩
  unfold Bt.cnts
  rw [List.getElem?_map, ht, hc]; rfl
theorem PB.count (P : PB S w s nb rb db m vi vk c r ps cs iss wr) (hk : ∀ k, r.kids = some k → k.kids = ps.map some ∧ ps ≠ []) (h0 : r.kids = none → cs = []) (hbd : (r.items.length : Int) + (Bt.cnts cs).sum ≤ 1000000000000) (hpl : ps.length ≤ 1000000) :
    Calls Try.prog 87 #[.agg #[.pointer (some ⟨m, 0, none⟩)]] wr (fun e w' => e = .returned (.tuple #[]) ∧ PB S w s nb rb db m vi vk c { r with count := r.items.length + (Bt.cnts cs).sum } ps cs iss w') := by
  obtain ⟨⟨S', s', R, hE, h1, h2, h3, h4, b1, b2, b3, n1, n2, n3, K, hd, hq⟩, g, gn⟩ := P
  refine (II.doorCount_is R h3 (ps := ps) (cs := Bt.cnts cs) hk (fun h => by rw [h0 h]; rfl) (fun j p hp => ?_) (cnts_nonneg cs) (fun _ => by unfold Bt.cnts; rw [List.length_map]; exact K.1) hbd hpl).mono ?_
  · obtain ⟨t, ht⟩ := get_of_len K.1 hp
    obtain ⟨is, his⟩ := get_of_len K.2.1.symm ht
    obtain ⟨hm, rp, hr, _, _, hc, _⟩ := (K.2.2 j p t is hp ht his).root
    refine ⟨(hq p (List.mem_flatten.2 ⟨is, List.mem_of_getElem? his, hm⟩)).2, rp, hr, ?_⟩
    unfold Bt.cnts
    rw [List.getElem?_map, ht, hc]; rfl
  · rintro e w2 ⟨rfl, hE2, R2⟩
    refine ⟨rfl, ⟨S', _, R2, hE.trans hE2, h1, h2, Sto.nd_same _ _ _, fun q hq' => ?_, hE2.bx b1 n1, hE2.bx b2 n2, hE2.bx b3 n3, hE2.notin b1.1 n1, hE2.notin b2.1 n2, hE2.notin b3.1 n3, K.keep fun q hq' => ?_, hd, hq⟩, g, gn⟩
    · rw [Sto.nd_ne _ _ (by have := g.2.2.2; omega)]; exact h4 q hq'
    · rw [Sto.nd_ne _ _ (hq q hq').2]
/-- The node is made: a leaf. -/
theorem PB.leaf {P0 : List (BT II.It 0)} {p0 : List Nat} {i0 : List (List Nat)} (P : PB S w s nb rb db m vi vk c r p0 P0 i0 wr) {l : List Im} (e1 : r.iso = s.mp.iso) (e2 : r.items = l) (e3 : r.kids = none) (e4 : r.count = (l.length : Nat)) (v : Value) : Planted S w s 0 (l : BT II.It 0) (.returned (II.dv m)) (wr.setCell ⟨rb, 0, none⟩ v) := by
  obtain ⟨⟨S', s', R, hE, h1, h2, h3, h4, b1, b2, b3, n1, n2, n3, K, hd, hq⟩, g, gn⟩ := P
  have hu := Upd.one wr (b := rb) (o := 0) v (by rw [b2.2 0 _ rfl]; rfl)
  exact ⟨S', s', m, [m], rfl, hE.upd hu (.inr g.2.1), R.keep hu.fr (fun i hi e => n2 (e ▸ hi)), h1, h2, ⟨rfl, r, h3, e1, e2, e3, e4⟩, by simp, fun q' hq' => by rw [show q' = m by simpa using hq']; exact g.2.2.2, h4⟩
/-- The node is made: an inner one. -/
theorem PB.inner (P : PB S w s nb rb db m vi vk c r ps cs iss wr) {l : List Im} {k : KidR} (e1 : r.iso = s.mp.iso) (e2 : r.items = l) (e3 : r.kids = some k) (e5 : k.kids = ps.map some) (e4 : r.count = ((BT.all (h + 1) ((l, cs) : BT II.It (h + 1))).length : Nat)) (v : Value) : Planted S w s (h + 1) ((l, cs) : BT II.It (h + 1)) (.returned (II.dv m)) (wr.setCell ⟨rb, 0, none⟩ v) := by
  obtain ⟨⟨S', s', R, hE, h1, h2, h3, h4, b1, b2, b3, n1, n2, n3, K, hd, hq⟩, g, gn⟩ := P
  have hu := Upd.one wr (b := rb) (o := 0) v (by rw [b2.2 0 _ rfl]; rfl)
  refine ⟨S', s', m, m :: iss.flatten, rfl, hE.upd hu (.inr g.2.1), R.keep hu.fr (fun i hi e => n2 (e ▸ hi)), h1, h2, ⟨r, k, ps, iss, h3, e1, e2, e3, e5, e4, K.1, K.2.1, rfl, K.2.2⟩, List.nodup_cons.2 ⟨fun hm => (hq m hm).2 rfl, hd⟩, fun q hq' => ?_, h4⟩
  rcases List.mem_cons.1 hq' with rfl | hq'
  · exact g.2.2.2
  · exact (hq q hq').1
/-- The first state: a leaf or an inner node without items and children. -/
theorem PB.first {w1 w2 : World} {S2 : Nat → Prop} {kd : Option KidR} (hE1 : Ext S w S w1) (hm : m ≥ w.heap.size) (hE2 : Ext S w1 S2 w2) (R2 : RepS II.E S2 w2 (s.setNd m ⟨s.mp.iso, 0, [], none, 0, kd⟩)) (b1 : Bx w1 nb [vi, vk, .int .i64 c]) (b2 : Bx w1 rb [.pointer none]) (n1 : ¬ S nb) (n2 : ¬ S rb) (hn1 : w.heap.size ≤ nb) (hn2 : w.heap.size ≤ rb) (hh : Nat) (ty : TypeId) :
    PB S w s nb rb w2.heap.size m vi vk c ⟨s.mp.iso, 0, [], none, 0, kd⟩ (h := hh) [] [] [] (w2.alloc (.cells #[.pointer (some ⟨m, 0, none⟩)] ty)) := by
  have hs1 := hE1.fr.size
  have hs2 := hE2.fr.size
  refine ⟨⟨S2, _, R2.alloc _, (hE1.trans hE2).alloc _, rfl, rfl, Sto.nd_same _ _ _, fun q hq => Sto.nd_ne _ _ (by omega), (hE2.bx b1 n1).alloc _, (hE2.bx b2 n2).alloc _, Bx.new w2 [.pointer (some ⟨m, 0, none⟩)] ty, hE2.notin b1.1 n1, hE2.notin b2.1 n2, fun h => by have := R2.rep.lt _ h; omega, Kids.nil, by simp, fun q hq => by simp at hq⟩, ⟨hn1, hn2, by omega, hm⟩, fun e => by have := b1.1; omega, fun e => by have := b2.1; omega⟩
/-- d becomes an inner node. -/
theorem PB.second {i : Int} (P : PB S w s nb rb db m vi vk c ⟨i, 0, [], none, 0, none⟩ (h := h) [] [] [] wr) (hm : s.mp.iso = i) :
    Calls Try.prog 84 #[.pointer (some ⟨s.m, 0, none⟩)] wr (fun e w' => ∃ m2 q, e = .returned (.agg #[.pointer (some ⟨m2, 0, none⟩)]) ∧ w'.cell? ⟨db, 0, none⟩ = some (.pointer (some ⟨m, 0, none⟩)) ∧ w'.frozen? ⟨db, 0, none⟩ = false ∧ db < w'.heap.size ∧
      PB S w s nb rb db m2 vi vk c ⟨i, 0, [], none, 0, some ⟨q, none, 0, []⟩⟩ (h := h) [] [] [] (w'.setCell ⟨db, 0, none⟩ (.pointer (some ⟨m2, 0, none⟩)))) := by
  subst hm
  obtain ⟨⟨S', s', R, hE, h1, h2, h3, h4, b1, b2, b3, n1, n2, n3, K, hd, hq⟩, g, gn⟩ := P
  rw [← h1]
  refine (II.doorInner_is R).mono ?_
  rintro e w2 ⟨m2, q, S2, rfl, hm1, hm2, hE2, R2⟩
  have c3 := hE2.bx b3 n3
  have hu := Upd.one w2 (b := db) (o := 0) (.pointer (some ⟨m2, 0, none⟩)) (by rw [c3.2 0 _ rfl]; rfl)
  have hsz := hE.fr.size
  refine ⟨m2, q, rfl, c3.cell 0 rfl, c3.froz 0 rfl, c3.1, ⟨⟨S2, _, R2.keep hu.fr (fun i hi e => hE2.notin b3.1 n3 (e ▸ hi)), (hE.trans hE2).upd hu (.inr g.2.2.1), h1, h2, by rw [h2]; exact Sto.nd_same _ _ _, fun q hq => by rw [Sto.nd_ne _ _ (by omega)]; exact h4 q hq, (hE2.bx b1 n1).upd hu gn.1, (hE2.bx b2 n2).upd hu gn.2, ⟨by rw [hu.size]; exact c3.1, fun j v hv => ?_⟩, hE2.notin b1.1 n1, hE2.notin b2.1 n2, hE2.notin b3.1 n3, Kids.nil, by simp, fun q hq => by simp at hq⟩, ⟨g.1, g.2.1, g.2.2.1, by omega⟩, gn⟩⟩
  cases j with
  | zero =>
    obtain rfl := Option.some.inj hv
    exact hu.M_at (j := 0) (by simp)
  | succ j => simp at hv
end Go.Proofs.Ytehnobbiiokcgaa.Bt.ND

namespace Go.Proofs.Ytehnobbiiokcgaa.Bt.ND
set_option linter.unusedVariables false
set_option linter.unusedSimpArgs false
open Go Go.RowKit Go.Proofs.Ytehnobbiiokcgaa.Bt

/-- What 'plantedMap' does. -/
def PIH (D n : Nat) : Prop := ∀ (h least : Nat) (t : DT n), lev n t = (h + 1, true) → filled D least n t = true → bulk n t ≤ 10000000 → ∀ {w0 w : World} {S : Nat → Prop} {s : Sto II.It} {vi vk : Value} {c : Int}, NodeAt w0 n t vi vk c → Below w0.heap.size w0 w → (∀ i, S i → w0.heap.size ≤ i) → RepS II.E S w s →
  Calls Try.prog 57 #[.pointer (some ⟨s.m, 0, none⟩), .agg #[vi, vk, .int .i64 c]] w (Planted S w s h (toBT h n t))

theorem take_snoc {α : Type} {l : List α} {j : Nat} {x : α} (h : l[j]? = some x) : l.take (j + 1) = l.take j ++ [x] := by
  rw [List.take_add_one, h]; rfl

set_option maxHeartbeats 2000000 in
set_option maxRecDepth 100000 in
/-- 'plantedMap' of a leaf. -/
theorem planted_leaf {its : List Im} {c : Int} {a : Option Addr} {cap : Nat} (hil0 : its.length ≤ 10000000) {w0 w : World} {S : Nat → Prop} {s : Sto II.It} {ia : Option Addr} {icap : Nat} (hi : ∀ j x, its[j]? = some x → ∃ b off, ia = some ⟨b, off, none⟩ ∧ w0.cell? ⟨b, off + j * 2, none⟩ = some (.int .i64 x.1) ∧ w0.cell? ⟨b, off + j * 2 + 1, none⟩ = some (.int .i64 x.2))
    (hb0 : Below w0.heap.size w0 w) (hS : ∀ i, S i → w0.heap.size ≤ i) (R : RepS II.E S w s) :
    Calls Try.prog 57 #[.pointer (some ⟨s.m, 0, none⟩), .agg #[.slice ia its.length icap, .slice a 0 cap, .int .i64 c]] w (Planted S w s 0 (its : BT II.It 0)) := by
  have hns : ¬ S w.heap.size := fun h => by have := R.rep.lt _ h; omega
  have hns1 : ¬ S (w.heap.size + 1) := fun h => by have := R.rep.lt _ h; omega
  have hsz0 : (w.alloc (.cells #[.slice ia its.length icap, .slice a 0 cap, .int .i64 c] 25)).heap.size = w.heap.size + 1 := by simp
  have R1 := (R.alloc (.cells #[.slice ia its.length icap, .slice a 0 cap, .int .i64 c] 25)).alloc (.cells #[Value.pointer none] 96)
  have hE1 := ((Ext.refl S w).alloc (.cells #[.slice ia its.length icap, .slice a 0 cap, .int .i64 c] 25)).alloc (.cells #[Value.pointer none] 96)
  have B1 := (Bx.new w [.slice ia its.length icap, .slice a 0 cap, .int .i64 c] 25).alloc (.cells #[Value.pointer none] 96)
  have B2 := Bx.new (w.alloc (.cells #[.slice ia its.length icap, .slice a 0 cap, .int .i64 c] 25)) [Value.pointer none] 96
  rw [hsz0] at B2
  obtain ⟨w1, hw1⟩ : ∃ w1, (w.alloc (.cells #[.slice ia its.length icap, .slice a 0 cap, .int .i64 c] 25)).alloc (.cells #[Value.pointer none] 96) = w1 := ⟨_, rfl⟩
  have B1' : Bx w1 w.heap.size [.slice ia its.length icap, .slice a 0 cap, .int .i64 c] := hw1 ▸ B1
  have B2' : Bx w1 (w.heap.size + 1) [Value.pointer none] := hw1 ▸ B2
  rw [hw1] at R1 hE1
  have HW1 := hidp hw1
  have HL := hidp (II.doorLeaf_is R1)
  have HB := hidp (And.intro B1' (And.intro B2' hE1))
  have HI := hidp hi
  have HS := hidp (And.intro hS hb0)
  have hil : its.length ≤ 10000000 := hil0
  clear R R1 hE1 B1 B2 B1' B2' hw1 hi hsz0 hS hb0
  go_enter Try.func57, Try.ntmps57
  go_wp2_with fail
  rw [HW1.out]
  refine HL.out.mono ?_
  rintro e w2 ⟨m, S2, rfl, hm1, hm2, hE2, R2⟩
  unfold II.dv
  have HP : Hid (PB S w s w.heap.size (w.heap.size + 1) w2.heap.size m (.slice ia its.length icap) (.slice a 0 cap) c ⟨s.mp.iso, 0, [], none, 0, none⟩ (h := 0) [] [] [] (w2.alloc (.cells #[.pointer (some ⟨m, 0, none⟩)] 96))) :=
    hidp (PB.first HB.out.2.2 (by have := HB.out.2.2.fr.size; omega) hE2 R2 HB.out.1 HB.out.2.1 hns hns1 (Nat.le_refl _) (Nat.le_succ _) 0 96)
  obtain ⟨x0, x1, x2, xd, xr, xf, l0, l1, l2⟩ := HP.out.cells
  clear hm1 hm2 hE2 R2 HL
  go_wp2
  go_loopw [21] (fun i wr => ∃ j : Nat, j ≤ its.length ∧ i = .int .i64 j ∧ Hid (∃ ib' cap', PB S w s w.heap.size (w.heap.size + 1) w2.heap.size m (.slice ia its.length icap) (.slice a 0 cap) c ⟨s.mp.iso, 0, its.take j, ib', cap', none⟩ (h := 0) [] [] [] wr)) (fun i _ => its.length - (intOf i).toNat)
  case atStart => exact ⟨0, Nat.zero_le _, rfl, hidp ⟨none, 0, HP.out⟩⟩
  case round =>
    clear HP
    obtain ⟨j, hj, rfl, HQ⟩ := hrel
    obtain ⟨ib', cap', P⟩ := HQ.out
    obtain ⟨x0, x1, x2, xd, xr, xf, l0, l1, l2⟩ := P.cells
    by_cases hlt : j < its.length
    · obtain ⟨x, hx⟩ : ∃ x, its[j]? = some x := ⟨its[j], List.getElem?_eq_getElem hlt⟩
      obtain ⟨b, off, rfl, f1, f2⟩ := HI.out j x hx
      have hbl : b < w0.heap.size := World.block_lt_of_cell? w0 _ f1
      have y1 := ((P.below HS.out.1 HS.out.2).cell (p := ⟨b, off + j * 2, none⟩) hbl).trans f1
      have y2 := ((P.below HS.out.1 HS.out.2).cell (p := ⟨b, off + j * 2 + 1, none⟩) hbl).trans f2
      have HC := hidp ((P.alloc (.cells #[.int .i64 x.1, .int .i64 x.2] 35)).item (by rw [List.length_take]; omega) x)
      have jlt : (j : Int) < (its.length : Int) := by omega
      have HX := hidp (take_snoc hx)
      clear f1 f2 hx P HQ
      go_wp2_with fail
      refine HC.out.mono ?_
      rintro e w3 ⟨rfl, ib2, cap2, P3⟩
      have HP3 := hidp P3
      clear P3 HC
      go_wp2
      go_roundw
      case rel => exact ⟨j + 1, by omega, by go_num, hidp ⟨ib2, cap2, by rw [HX.out]; exact HP3.out⟩⟩
      case measure => simp [intOf]; omega
    · obtain rfl : j = its.length := by omega
      rw [List.take_length] at P
      have HP := hidp P
      clear P HQ
      have HCT := hidp (HP.out.count (fun k hk => by cases hk) (fun _ => rfl) (by show (its.length : Int) + 0 ≤ _; omega) (Nat.zero_le _))
      go_wp2
      refine wp_loop_rounds 1 ?_; rw [rounds_succ]
      go_wp2_with fail
      refine HCT.out.mono ?_
      rintro e w4 ⟨rfl, P4⟩
      obtain ⟨z0, z1, z2, zd, zr, zf, e0, e1, e2⟩ := P4.cells
      have HF := hidp (P4.leaf (l := its) rfl rfl rfl (by show (its.length : Int) + 0 = _; omega) (.pointer (some ⟨m, 0, none⟩)))
      clear P4 HCT HP
      go_wp2
      refine bodyPost_ret (v := II.dv m) (by simp [results, Try.results57, II.dv, go_sem, zr, zf, e2]) rfl ?_
      exact HF.out

set_option maxHeartbeats 4000000 in
set_option maxRecDepth 100000 in
/-- 'plantedMap' of a node with children. -/
theorem planted_inner {D n h : Nat} (IH : PIH D n) {its : List Im} {kids : List (DT n)} {c : Int} {a : Option Addr} {cap : Nat} (hil0 : its.length ≤ 10000000) (hne : kids ≠ []) (hkl : kids.length ≤ 1000000) (hkids : ∀ k ∈ kids, lev n k = (h + 1, true) ∧ (∃ least, filled D least n k = true) ∧ bulk n k ≤ 10000000)
    (hbd : (its.length : Int) + (cnts (kids.map (toBT h n))).sum ≤ 1000000000000) {w0 w : World} {S : Nat → Prop} {s : Sto II.It} {ia : Option Addr} {icap : Nat} (hi : ∀ j x, its[j]? = some x → ∃ b off, ia = some ⟨b, off, none⟩ ∧ w0.cell? ⟨b, off + j * 2, none⟩ = some (.int .i64 x.1) ∧ w0.cell? ⟨b, off + j * 2 + 1, none⟩ = some (.int .i64 x.2))
    (hk : ∀ j k, kids[j]? = some k → ∃ b off vi' vk' c', a = some ⟨b, off, none⟩ ∧ w0.cell? ⟨b, off + j * 3, none⟩ = some vi' ∧ w0.cell? ⟨b, off + j * 3 + 1, none⟩ = some vk' ∧ w0.cell? ⟨b, off + j * 3 + 2, none⟩ = some (.int .i64 c') ∧ NodeAt w0 n k vi' vk' c')
    (hb0 : Below w0.heap.size w0 w) (hS : ∀ i, S i → w0.heap.size ≤ i) (R : RepS II.E S w s) :
    Calls Try.prog 57 #[.pointer (some ⟨s.m, 0, none⟩), .agg #[.slice ia its.length icap, .slice a kids.length cap, .int .i64 c]] w (Planted S w s (h + 1) ((its, kids.map (toBT h n)) : BT II.It (h + 1))) := by
  have hpos : (0 : Int) < (kids.length : Int) := by cases kids with | nil => exact absurd rfl hne | cons _ _ => (simp only [List.length_cons]; omega)
  have HKS := hidp hkids
  have HK := hidp hk
  have HBD := hidp hbd
  have HIH := hidp IH
  clear hkids hk hbd IH
  have hns : ¬ S w.heap.size := fun h => by have := R.rep.lt _ h; omega
  have hns1 : ¬ S (w.heap.size + 1) := fun h => by have := R.rep.lt _ h; omega
  have hsz0 : (w.alloc (.cells #[.slice ia its.length icap, .slice a kids.length cap, .int .i64 c] 25)).heap.size = w.heap.size + 1 := by simp
  have R1 := (R.alloc (.cells #[.slice ia its.length icap, .slice a kids.length cap, .int .i64 c] 25)).alloc (.cells #[Value.pointer none] 96)
  have hE1 := ((Ext.refl S w).alloc (.cells #[.slice ia its.length icap, .slice a kids.length cap, .int .i64 c] 25)).alloc (.cells #[Value.pointer none] 96)
  have B1 := (Bx.new w [.slice ia its.length icap, .slice a kids.length cap, .int .i64 c] 25).alloc (.cells #[Value.pointer none] 96)
  have B2 := Bx.new (w.alloc (.cells #[.slice ia its.length icap, .slice a kids.length cap, .int .i64 c] 25)) [Value.pointer none] 96
  rw [hsz0] at B2
  obtain ⟨w1, hw1⟩ : ∃ w1, (w.alloc (.cells #[.slice ia its.length icap, .slice a kids.length cap, .int .i64 c] 25)).alloc (.cells #[Value.pointer none] 96) = w1 := ⟨_, rfl⟩
  have B1' : Bx w1 w.heap.size [.slice ia its.length icap, .slice a kids.length cap, .int .i64 c] := hw1 ▸ B1
  have B2' : Bx w1 (w.heap.size + 1) [Value.pointer none] := hw1 ▸ B2
  rw [hw1] at R1 hE1
  have HW1 := hidp hw1
  have HL := hidp (II.doorLeaf_is R1)
  have HB := hidp (And.intro B1' (And.intro B2' hE1))
  have HI := hidp hi
  have HS := hidp (And.intro hS hb0)
  have hil : its.length ≤ 10000000 := hil0
  clear R R1 hE1 B1 B2 B1' B2' hw1 hi hsz0 hS hb0
  go_enter Try.func57, Try.ntmps57
  go_wp2_with fail
  rw [HW1.out]
  refine HL.out.mono ?_
  rintro e w2 ⟨m, S2, rfl, hm1, hm2, hE2, R2⟩
  unfold II.dv
  have HP : Hid (PB S w s w.heap.size (w.heap.size + 1) w2.heap.size m (.slice ia its.length icap) (.slice a kids.length cap) c ⟨s.mp.iso, 0, [], none, 0, none⟩ (h := h) [] [] [] (w2.alloc (.cells #[.pointer (some ⟨m, 0, none⟩)] 96))) :=
    hidp (PB.first HB.out.2.2 (by have := HB.out.2.2.fr.size; omega) hE2 R2 HB.out.1 HB.out.2.1 hns hns1 (Nat.le_refl _) (Nat.le_succ _) h 96)
  obtain ⟨x0, x1, x2, xd, xr, xf, l0, l1, l2⟩ := HP.out.cells
  clear hm1 hm2 hE2 R2 HL
  have HQ2 := hidp (HP.out.second rfl)
  go_wp2_with fail
  refine HQ2.out.mono ?_
  rintro e w3 ⟨m2, q, rfl, d0, df, dl, P3⟩
  have HP := hidp P3
  obtain ⟨x0, x1, x2, xd, xr, xf, l0, l1, l2⟩ := P3.cells
  clear P3 HQ2
  go_wp2
  go_loopw [21] (fun i wr => ∃ j : Nat, j ≤ its.length ∧ i = .int .i64 j ∧ Hid (∃ ib' cap', PB S w s w.heap.size (w.heap.size + 1) w2.heap.size m2 (.slice ia its.length icap) (.slice a kids.length cap) c ⟨s.mp.iso, 0, its.take j, ib', cap', some ⟨q, none, 0, []⟩⟩ (h := h) [] [] [] wr)) (fun i _ => its.length - (intOf i).toNat)
  case atStart => exact ⟨0, Nat.zero_le _, rfl, hidp ⟨none, 0, HP.out⟩⟩
  case round =>
    clear HP d0 df dl
    obtain ⟨j, hj, rfl, HQ⟩ := hrel
    obtain ⟨ib', cap', P⟩ := HQ.out
    obtain ⟨x0, x1, x2, xd, xr, xf, l0, l1, l2⟩ := P.cells
    by_cases hlt : j < its.length
    · obtain ⟨x, hx⟩ : ∃ x, its[j]? = some x := ⟨its[j], List.getElem?_eq_getElem hlt⟩
      obtain ⟨b, off, rfl, f1, f2⟩ := HI.out j x hx
      have hbl : b < w0.heap.size := World.block_lt_of_cell? w0 _ f1
      have y1 := ((P.below HS.out.1 HS.out.2).cell (p := ⟨b, off + j * 2, none⟩) hbl).trans f1
      have y2 := ((P.below HS.out.1 HS.out.2).cell (p := ⟨b, off + j * 2 + 1, none⟩) hbl).trans f2
      have HC := hidp ((P.alloc (.cells #[.int .i64 x.1, .int .i64 x.2] 35)).item (by rw [List.length_take]; omega) x)
      have jlt : (j : Int) < (its.length : Int) := by omega
      have HX := hidp (take_snoc hx)
      clear f1 f2 hx P HQ
      go_wp2_with fail
      refine HC.out.mono ?_
      rintro e w3 ⟨rfl, ib2, cap2, P3⟩
      have HP3 := hidp P3
      clear P3 HC
      go_wp2
      go_roundw
      case rel => exact ⟨j + 1, by omega, by go_num, hidp ⟨ib2, cap2, by rw [HX.out]; exact HP3.out⟩⟩
      case measure => simp [intOf]; omega
    · obtain rfl : j = its.length := by omega
      rw [List.take_length] at P
      have HP := hidp P
      clear P HQ
      have HP0 := hidp HP.out
      go_wp2
      go_loopw [35] (fun i wr => ∃ j : Nat, j ≤ kids.length ∧ i = .int .i64 j ∧ Hid (∃ ps iss kb kcap, ps.length = j ∧ PB S w s w.heap.size (w.heap.size + 1) w2.heap.size m2 (.slice ia its.length icap) (.slice a kids.length cap) c ⟨s.mp.iso, 0, its, ib', cap', some ⟨q, kb, kcap, ps.map some⟩⟩ (h := h) ps ((kids.take j).map (toBT h n)) iss wr)) (fun i _ => kids.length - (intOf i).toNat)
      case atStart => exact ⟨0, Nat.zero_le _, rfl, hidp ⟨[], [], none, 0, rfl, HP0.out⟩⟩
      case round =>
        clear HP HP0 x0 x1 x2 xd xr xf l0 l1 l2
        obtain ⟨j, hj, rfl, HQ⟩ := hrel
        obtain ⟨ps, iss, kb, kcap, hpl, P⟩ := HQ.out
        obtain ⟨x0, x1, x2, xd, xr, xf, l0, l1, l2⟩ := P.cells
        by_cases hlt : j < kids.length
        · obtain ⟨k', hk'⟩ : ∃ k', kids[j]? = some k' := ⟨kids[j], List.getElem?_eq_getElem hlt⟩
          obtain ⟨b, off, vi', vk', c', rfl, f1, f2, f3, hn'⟩ := HK.out j k' hk'
          have hbl : b < w0.heap.size := World.block_lt_of_cell? w0 _ f1
          have y1 := ((P.below HS.out.1 HS.out.2).cell (p := ⟨b, off + j * 3, none⟩) hbl).trans f1
          have y2 := ((P.below HS.out.1 HS.out.2).cell (p := ⟨b, off + j * 3 + 1, none⟩) hbl).trans f2
          have y3 := ((P.below HS.out.1 HS.out.2).cell (p := ⟨b, off + j * 3 + 2, none⟩) hbl).trans f3
          obtain ⟨⟨i1, i2, icap', rfl⟩, q1, q2, kcap', rfl⟩ := hn'.vals
          have jlt : (j : Int) < (kids.length : Int) := by omega
          obtain ⟨k1, ⟨least, k2⟩, k3⟩ := HKS.out k' (List.mem_of_getElem? hk')
          have PX := (P.alloc (.cells #[.slice i1 i2 icap', .slice q1 q2 kcap', .int .i64 c'] 25)).drew
          have hbX := PX.below HS.out.1 HS.out.2
          obtain ⟨S', s', R', hE', e1, e2, hcont⟩ := PX.kid
          have hC := HIH.out h least k' k1 k2 k3 hn' hbX (fun i hi => by
            rcases hE'.new i hi with h | h
            · exact HS.out.1 i h
            · have := HS.out.2.size; omega) R'
          rw [e1] at hC
          have HC := hidp hC
          have HCT := hidp hcont
          have HX := hidp (take_snoc hk')
          have hpl2 : ps.length ≤ 1000000 := by omega
          clear f1 f2 f3 hk' hn' P PX HQ hC hcont R' hE' k1 k2 k3 hbX
          go_wp2
          go_region_with
            ((first
              | (go_at_call 57
                 refine HC.out.mono ?_
                 intro e w5 hPl
                 obtain ⟨q5, ids5, rfl, P5⟩ := HCT.out _ _ _ hPl
                 unfold II.dv
                 have HP5 := hidp P5
                 have x5 := P5.cells.2.2.2.1
                 clear P5 hPl)
              | (go_at_call 86
                 refine (HP5.out.append rfl (by show (ps.map some).length ≤ _; rw [List.length_map]; omega) q5).mono ?_
                 rintro e w6 ⟨rfl, kb6, kcap6, P6⟩
                 have HP6 := hidp P6
                 have x6 := P6.cells.2.2.2.1
                 clear P6)))
          all_goals
            go_wp2
            go_roundw
            case rel => exact ⟨j + 1, by omega, by go_num, hidp ⟨ps ++ [q5], iss ++ [ids5], kb6, kcap6, by simp [hpl], by
              have h := HP6.out
              rw [HX.out, List.map_append, List.map_append]; exact h⟩⟩
            case measure => simp [intOf]; omega
        · obtain rfl : j = kids.length := by omega
          rw [List.take_length] at P
          have hcl : (kids.map (toBT h n)).length = ps.length := by rw [List.length_map, hpl]
          have HCT := hidp (P.count (fun k hk => by obtain rfl := Option.some.inj hk; exact ⟨rfl, fun e => by rw [e] at hpl; simp at hpl; omega⟩) (fun h => by cases h) HBD.out (by omega))
          clear P HQ
          go_wp2_with fail
          refine HCT.out.mono ?_
          rintro e w4 ⟨rfl, P4⟩
          obtain ⟨z0, z1, z2, zd, zr, zf, e0, e1, e2⟩ := P4.cells
          have HF := hidp (P4.inner (l := its) (k := ⟨q, kb, kcap, ps.map some⟩) rfl rfl rfl rfl (all_length ((its, kids.map (toBT h n)) : BT II.It (h + 1))).symm (.pointer (some ⟨m2, 0, none⟩)))
          clear P4 HCT
          go_wp2
          refine bodyPost_ret (v := II.dv m2) (by simp [results, Try.results57, II.dv, go_sem, zr, zf, e2]) rfl ?_
          exact HF.out

/-- 'plantedMap' -/
theorem planted_is {D : Nat} (hD : D ≤ 1000) : ∀ n, PIH D n
  | 0 => fun _ _ _ _ _ _ _ _ _ _ _ _ _ hN => hN.elim
  | n + 1 => by
    intro h least t hl hf hb w0 w S s vi vk c hN hb0 hS R
    have IH := planted_is hD n
    obtain ⟨hc, ⟨ia, icap, rfl, _, hi⟩, a, cap, rfl, hlc, hk⟩ := hN
    have hil : t.1.length ≤ 10000000 := by have : t.1.length ≤ bulk (n + 1) t := (by show t.1.length ≤ 1 + t.1.length + (t.2.1.map (bulk n)).sum; omega); omega
    have hok := toBT_ok (D := D) h (n + 1) least t hl hf
    have hall := toBT_all h (n + 1) t hl
    cases hks : t.2.1 with
    | nil =>
      unfold lev at hl; rw [hks] at hl
      obtain rfl : h = 0 := by simpa using hl.symm
      rw [hks] at hlc
      exact planted_leaf (a := a) (cap := cap) (c := c) (icap := icap) hil hi hb0 hS R
    | cons k0 ks =>
      have hl0 := hl
      rw [lev_cons hks] at hl
      split at hl
      · rename_i hn
        simp only [Prod.mk.injEq] at hl
        have hp0 : 0 < (lev n k0).1 := by
          have h2 := hl.2
          rw [List.all_cons, Bool.and_eq_true, Bool.and_eq_true] at h2
          exact lev_pos n k0 h2.1.1
        obtain ⟨h', rfl⟩ : ∃ h', h = h' + 1 := ⟨h - 1, by omega⟩
        unfold filled at hf
        rw [Bool.and_eq_true, Bool.and_eq_true, decide_eq_true_eq, decide_eq_true_eq] at hf
        rw [← hks] at hn hl ⊢
        have h3 := planted_inner (D := D) (n := n) (h := h') IH (its := t.1) (kids := t.2.1) (c := c) (a := a) (cap := cap) (icap := icap) hil (by rw [hks]; simp) (by omega) (fun k hkm => by
          have h3 := List.all_eq_true.1 hl.2 k hkm
          rw [Bool.and_eq_true, decide_eq_true_eq] at h3
          have hj := List.mem_iff_getElem?.1 hkm
          obtain ⟨j, hj⟩ := hj
          have := bulk_kid (t := t) (j := j) (k := k) hj
          exact ⟨Prod.ext (by rw [h3.2]; show (lev n k0).1 = h' + 1; omega) h3.1, ⟨_, List.all_eq_true.1 hf.2 k hkm⟩, by omega⟩)
          (by
            have e1 := all_length (toBT (h' + 1) (n + 1) t)
            have e2 := dAll_bulk (n + 1) t
            rw [hall] at e1
            show (t.1.length : Int) + (cnts (t.2.1.map (toBT h' n))).sum ≤ _
            have e3 : ((dAll (n + 1) t).length : Int) = (t.1.length : Int) + (cnts (t.2.1.map (toBT h' n))).sum := e1
            omega) hi hk hb0 hS R
        exact h3
      · cases hl
end Go.Proofs.Ytehnobbiiokcgaa.Bt.ND
