/- Nodes as data: a node of a map is made of one (the plain part). -/
import Derived.Test.YtehnobbiiokcgaaBtNj
import Derived.Test.YtehnobbiiokcgaaBtIIx
namespace Go.Proofs.Ytehnobbiiokcgaa.Bt.ND
set_option linter.unusedVariables false
set_option linter.unusedSimpArgs false
open Go Go.RowKit Go.Proofs.Ytehnobbiiokcgaa.Bt

/-- While a node is being made: nb, rb, db: the call's own blocks (what came in, the result, d); m: the node; r: what it is so far; ps, cs, iss: its children so far. -/
structure PB (S : Nat → Prop) (w : World) (s : Sto II.It) (nb rb db m : Nat) (vi vk : Value) (c : Int) (r : NodeR II.It) {h : Nat} (ps : List Nat) (cs : List (BT II.It h)) (iss : List (List Nat)) (wr : World) : Prop where
  ex : ∃ S' s', RepS II.E S' wr s' ∧ Ext S w S' wr ∧ s'.m = s.m ∧ s'.mp = s.mp ∧ s'.nd m = some r ∧ (∀ q, q < w.heap.size → s'.nd q = s.nd q) ∧ Bx wr nb [vi, vk, .int .i64 c] ∧ Bx wr rb [.pointer none] ∧ Bx wr db [.pointer (some ⟨m, 0, none⟩)] ∧ ¬ S' nb ∧ ¬ S' rb ∧ ¬ S' db ∧
    Kids s'.nd s.mp.iso h ps cs iss ∧ iss.flatten.Nodup ∧ ∀ q ∈ iss.flatten, w.heap.size ≤ q ∧ q ≠ m
  ge : w.heap.size ≤ nb ∧ w.heap.size ≤ rb ∧ w.heap.size ≤ db ∧ w.heap.size ≤ m
  ne : nb ≠ db ∧ rb ≠ db

variable {S : Nat → Prop} {w wr : World} {s : Sto II.It} {nb rb db m : Nat} {vi vk : Value} {c : Int} {r : NodeR II.It} {h : Nat} {ps : List Nat} {cs : List (BT II.It h)} {iss : List (List Nat)}

theorem PB.cells (P : PB S w s nb rb db m vi vk c r ps cs iss wr) : wr.cell? ⟨nb, 0, none⟩ = some vi ∧ wr.cell? ⟨nb, 1, none⟩ = some vk ∧ wr.cell? ⟨nb, 2, none⟩ = some (.int .i64 c) ∧ wr.cell? ⟨db, 0, none⟩ = some (.pointer (some ⟨m, 0, none⟩)) ∧ wr.cell? ⟨rb, 0, none⟩ = some (.pointer none) ∧ wr.frozen? ⟨rb, 0, none⟩ = false ∧ nb < wr.heap.size ∧ db < wr.heap.size ∧ rb < wr.heap.size := by
  obtain ⟨S', s', _, _, _, _, _, _, b1, b2, b3, _⟩ := P.ex
  exact ⟨b1.cell 0 rfl, b1.cell 1 rfl, b1.cell 2 rfl, b3.cell 0 rfl, b2.cell 0 rfl, b2.froz 0 rfl, b1.1, b3.1, b2.1⟩
theorem PB.below {w0 : World} (P : PB S w s nb rb db m vi vk c r ps cs iss wr) (hS : ∀ i, S i → w0.heap.size ≤ i) (hb : Below w0.heap.size w0 w) : Below w0.heap.size w0 wr := by
  obtain ⟨S', s', _, hE, _⟩ := P.ex
  exact hb.trans (hE.fr.below hb.size hS)
theorem PB.size (P : PB S w s nb rb db m vi vk c r ps cs iss wr) : w.heap.size ≤ wr.heap.size := by
  obtain ⟨S', s', _, hE, _⟩ := P.ex
  exact hE.fr.size
theorem PB.alloc (P : PB S w s nb rb db m vi vk c r ps cs iss wr) (x : Obj) : PB S w s nb rb db m vi vk c r ps cs iss (wr.alloc x) := by
  obtain ⟨⟨S', s', R, hE, h1, h2, h3, h4, b1, b2, b3, q⟩, g, gn⟩ := P
  exact ⟨⟨S', s', R.alloc x, hE.alloc x, h1, h2, h3, h4, b1.alloc x, b2.alloc x, b3.alloc x, q⟩, g, gn⟩
theorem PB.drew (P : PB S w s nb rb db m vi vk c r ps cs iss wr) : PB S w s nb rb db m vi vk c r ps cs iss wr.drew := by
  obtain ⟨⟨S', s', R, hE, h1, h2, h3, h4, b1, b2, b3, q⟩, g, gn⟩ := P
  exact ⟨⟨S', s', R.drew, hE.drew, h1, h2, h3, h4, b1, b2, b3, q⟩, g, gn⟩
theorem kid_lt {S' : Nat → Prop} {s' : Sto II.It} {iso : Int} (R : RepS II.E S' wr s') (K : Kids s'.nd iso h ps cs iss) {q : Nat} (hq : q ∈ iss.flatten) : q < wr.heap.size := by
  obtain ⟨i, is, hi, hm⟩ := mem_flatten_get hq
  obtain ⟨t, ht⟩ := get_of_len K.2.1 hi
  obtain ⟨p, hp⟩ := get_of_len K.1.symm ht
  obtain ⟨r, hr, _⟩ := (K.2.2 i p t is hp ht hi).mem q hm
  exact R.rep.lt q (R.inS_node hr)
/-- The node itself has changed. -/
theorem PB.node (P : PB S w s nb rb db m vi vk c r ps cs iss wr) : ∃ S' s', RepS II.E S' wr s' ∧ s'.m = s.m ∧ s'.nd m = some r ∧ ∀ (w2 : World) (r' : NodeR II.It) (S'' : Nat → Prop), Ext S' wr S'' w2 → RepS II.E S'' w2 (s'.setNd m r') → PB S w s nb rb db m vi vk c r' ps cs iss w2 := by
  obtain ⟨⟨S', s', R, hE, h1, h2, h3, h4, b1, b2, b3, n1, n2, n3, K, hd, hq⟩, g, gn⟩ := P
  refine ⟨S', s', R, h1, h3, fun w2 r' S'' hE2 R2 => ?_⟩
  refine ⟨⟨S'', _, R2, hE.trans hE2, h1, h2, Sto.nd_same _ _ _, fun q hq' => ?_, hE2.bx b1 n1, hE2.bx b2 n2, hE2.bx b3 n3, hE2.notin b1.1 n1, hE2.notin b2.1 n2, hE2.notin b3.1 n3, K.keep fun q hq' => ?_, hd, hq⟩, g, gn⟩
  · rw [Sto.nd_ne _ _ (by have := g.2.2.2; omega)]; exact h4 q hq'
  · rw [Sto.nd_ne _ _ (hq q hq').2]
theorem PB.item (P : PB S w s nb rb db m vi vk c r ps cs iss wr) (hl : r.items.length ≤ 100000000) (x : Im) :
    Calls Try.prog 85 #[.agg #[.pointer (some ⟨m, 0, none⟩)], .int .i64 x.1, .int .i64 x.2] wr (fun e w' => e = .returned (.tuple #[]) ∧ ∃ ib' cap', PB S w s nb rb db m vi vk c { r with items := r.items ++ [x], ib := ib', icap := cap' } ps cs iss w') := by
  obtain ⟨S', s', R, h1, h2, h3⟩ := P.node
  refine (II.doorItem_is R h2 hl x).mono ?_
  rintro e w' ⟨rfl, ib', cap', S'', hE, R'⟩
  exact ⟨rfl, ib', cap', h3 _ _ _ hE R'⟩
theorem PB.append (P : PB S w s nb rb db m vi vk c r ps cs iss wr) {k : KidR} (hk : r.kids = some k) (hl : k.kids.length ≤ 100000000) (p : Nat) :
    Calls Try.prog 86 #[.agg #[.pointer (some ⟨m, 0, none⟩)], .agg #[.pointer (some ⟨p, 0, none⟩)]] wr (fun e w' => e = .returned (.tuple #[]) ∧ ∃ kb' cap', PB S w s nb rb db m vi vk c { r with kids := some { k with kids := k.kids ++ [some p], base := kb', cap := cap' } } ps cs iss w') := by
  obtain ⟨S', s', R, h1, h2, h3⟩ := P.node
  refine (II.doorAppend_is R h2 hk hl p).mono ?_
  rintro e w' ⟨rfl, ib', cap', S'', hE, R'⟩
  exact ⟨rfl, ib', cap', h3 _ _ _ hE R'⟩
/-- What a call has made of a child. -/
def Planted (S : Nat → Prop) (w : World) (s : Sto II.It) (h : Nat) (t : BT II.It h) (e : Ending) (w' : World) : Prop :=
  ∃ S' s' q ids, e = .returned (II.dv q) ∧ Ext S w S' w' ∧ RepS II.E S' w' s' ∧ s'.m = s.m ∧ s'.mp = s.mp ∧ Tr s'.nd s.mp.iso h q t ids ∧ ids.Nodup ∧ (∀ q ∈ ids, w.heap.size ≤ q) ∧ ∀ q, q < w.heap.size → s'.nd q = s.nd q
/-- A child is made. -/
theorem PB.kid (P : PB S w s nb rb db m vi vk c r ps cs iss wr) : ∃ S' s', RepS II.E S' wr s' ∧ Ext S w S' wr ∧ s'.m = s.m ∧ s'.mp = s.mp ∧ ∀ (t : BT II.It h) (e : Ending) (w2 : World), Planted S' wr s' h t e w2 → ∃ q ids, e = .returned (II.dv q) ∧ PB S w s nb rb db m vi vk c r (ps ++ [q]) (cs ++ [t]) (iss ++ [ids]) w2 := by
  obtain ⟨⟨S', s', R, hE, h1, h2, h3, h4, b1, b2, b3, n1, n2, n3, K, hd, hq⟩, g, gn⟩ := P
  refine ⟨S', s', R, hE, h1, h2, fun t e w2 hP => ?_⟩
  obtain ⟨S2, s2, q, ids, rfl, hE2, R2, e1, e2, T, hdi, hge, hold⟩ := hP
  have hml : m < wr.heap.size := R.rep.lt m (R.inS_node h3)
  have hsz := hE.fr.size
  refine ⟨q, ids, rfl, ⟨S2, s2, R2, hE.trans hE2, e1.trans h1, e2.trans h2, (hold m hml).trans h3, fun q hq' => (hold q (by omega)).trans (h4 q hq'), hE2.bx b1 n1, hE2.bx b2 n2, hE2.bx b3 n3, hE2.notin b1.1 n1, hE2.notin b2.1 n2, hE2.notin b3.1 n3,
    (K.keep fun q hq' => hold q (kid_lt R K hq')).append (Kids.cons (by rw [h2] at T; exact T) Kids.nil), ?_, fun q' hq' => ?_⟩, g, gn⟩
  · rw [List.flatten_append, List.nodup_append]
    exact ⟨hd, by simpa using hdi, fun a ha b hb e => by
      have h5 := kid_lt R K ha
      have h6 := hge b (by simpa using hb)
      omega⟩
  · rw [List.flatten_append, List.mem_append] at hq'
    rcases hq' with hq' | hq'
    · exact hq q' hq'
    · have h6 := hge q' (by simpa using hq')
      exact ⟨by omega, by omega⟩
/-- The children's counts. -/
theorem PB.cnts (P : PB S w s nb rb db m vi vk c r ps cs iss wr) : ∃ S' s', RepS II.E S' wr s' ∧ Ext S w S' wr ∧ s'.m = s.m ∧ s'.mp = s.mp ∧ s'.nd m = some r ∧ ps.length = cs.length ∧ ∀ (j p : Nat), ps[j]? = some p → p ≠ m ∧ ∃ rp, s'.nd p = some rp ∧ (Bt.cnts cs)[j]? = some rp.count := by
  obtain ⟨⟨S', s', R, hE, h1, h2, h3, h4, b1, b2, b3, n1, n2, n3, K, hd, hq⟩, g, gn⟩ := P
  refine ⟨S', s', R, hE, h1, h2, h3, K.1, fun j p hp => ?_⟩
  obtain ⟨t, ht⟩ := get_of_len K.1 hp
  obtain ⟨is, his⟩ := get_of_len K.2.1.symm ht
  obtain ⟨hm, rp, hr, _, _, hc, _⟩ := (K.2.2 j p t is hp ht his).root
  refine ⟨(hq p (List.mem_flatten.2 ⟨is, List.mem_of_getElem? his, hm⟩)).2, rp, hr, ?_⟩
  unfold Bt.cnts
  rw [List.getElem?_map, ht, hc]; rfl
theorem PB.count (P : PB S w s nb rb db m vi vk c r ps cs iss wr) (hk : ∀ k, r.kids = some k → k.kids = ps.map some ∧ ps ≠ []) (h0 : r.kids = none → cs = []) (hbd : (r.items.length : Int) + (Bt.cnts cs).sum ≤ 1000000000000) (hpl : ps.length ≤ 1000000) :
    Calls Try.prog 87 #[.agg #[.pointer (some ⟨m, 0, none⟩)]] wr (fun e w' => e = .returned (.tuple #[]) ∧ PB S w s nb rb db m vi vk c { r with count := r.items.length + (Bt.cnts cs).sum } ps cs iss w') := by
  obtain ⟨⟨S', s', R, hE, h1, h2, h3, h4, b1, b2, b3, n1, n2, n3, K, hd, hq⟩, g, gn⟩ := P
  refine (II.doorCount_is R h3 (ps := ps) (cs := Bt.cnts cs) hk (fun h => by rw [h0 h]; rfl) (fun j p hp => ?_) (cnts_nonneg cs) (fun _ => by unfold Bt.cnts; rw [List.length_map]; exact K.1) hbd hpl).mono ?_
  · obtain ⟨t, ht⟩ := get_of_len K.1 hp
    obtain ⟨is, his⟩ := get_of_len K.2.1.symm ht
    obtain ⟨hm, rp, hr, _, _, hc, _⟩ := (K.2.2 j p t is hp ht his).root
    refine ⟨(hq p (List.mem_flatten.2 ⟨is, List.mem_of_getElem? his, hm⟩)).2, rp, hr, ?_⟩
    unfold Bt.cnts
    rw [List.getElem?_map, ht, hc]; rfl
  · rintro e w2 ⟨rfl, hE2, R2⟩
    refine ⟨rfl, ⟨S', _, R2, hE.trans hE2, h1, h2, Sto.nd_same _ _ _, fun q hq' => ?_, hE2.bx b1 n1, hE2.bx b2 n2, hE2.bx b3 n3, hE2.notin b1.1 n1, hE2.notin b2.1 n2, hE2.notin b3.1 n3, K.keep fun q hq' => ?_, hd, hq⟩, g, gn⟩
    · rw [Sto.nd_ne _ _ (by have := g.2.2.2; omega)]; exact h4 q hq'
    · rw [Sto.nd_ne _ _ (hq q hq').2]
/-- The node is made: a leaf. -/
theorem PB.leaf {P0 : List (BT II.It 0)} {p0 : List Nat} {i0 : List (List Nat)} (P : PB S w s nb rb db m vi vk c r p0 P0 i0 wr) {l : List Im} (e1 : r.iso = s.mp.iso) (e2 : r.items = l) (e3 : r.kids = none) (e4 : r.count = (l.length : Nat)) (v : Value) : Planted S w s 0 (l : BT II.It 0) (.returned (II.dv m)) (wr.setCell ⟨rb, 0, none⟩ v) := by
  obtain ⟨⟨S', s', R, hE, h1, h2, h3, h4, b1, b2, b3, n1, n2, n3, K, hd, hq⟩, g, gn⟩ := P
  have hu := Upd.one wr (b := rb) (o := 0) v (by rw [b2.2 0 _ rfl]; rfl)
  exact ⟨S', s', m, [m], rfl, hE.upd hu (.inr g.2.1), R.keep hu.fr (fun i hi e => n2 (e ▸ hi)), h1, h2, ⟨rfl, r, h3, e1, e2, e3, e4⟩, by simp, fun q' hq' => by rw [show q' = m by simpa using hq']; exact g.2.2.2, h4⟩
/-- The node is made: an inner one. -/
theorem PB.inner (P : PB S w s nb rb db m vi vk c r ps cs iss wr) {l : List Im} {k : KidR} (e1 : r.iso = s.mp.iso) (e2 : r.items = l) (e3 : r.kids = some k) (e5 : k.kids = ps.map some) (e4 : r.count = ((BT.all (h + 1) ((l, cs) : BT II.It (h + 1))).length : Nat)) (v : Value) : Planted S w s (h + 1) ((l, cs) : BT II.It (h + 1)) (.returned (II.dv m)) (wr.setCell ⟨rb, 0, none⟩ v) := by
  obtain ⟨⟨S', s', R, hE, h1, h2, h3, h4, b1, b2, b3, n1, n2, n3, K, hd, hq⟩, g, gn⟩ := P
  have hu := Upd.one wr (b := rb) (o := 0) v (by rw [b2.2 0 _ rfl]; rfl)
  refine ⟨S', s', m, m :: iss.flatten, rfl, hE.upd hu (.inr g.2.1), R.keep hu.fr (fun i hi e => n2 (e ▸ hi)), h1, h2, ⟨r, k, ps, iss, h3, e1, e2, e3, e5, e4, K.1, K.2.1, rfl, K.2.2⟩, List.nodup_cons.2 ⟨fun hm => (hq m hm).2 rfl, hd⟩, fun q hq' => ?_, h4⟩
  rcases List.mem_cons.1 hq' with rfl | hq'
  · exact g.2.2.2
  · exact (hq q hq').1
/-- The first state: a leaf or an inner node without items and children. -/
theorem PB.first {w1 w2 : World} {S2 : Nat → Prop} {kd : Option KidR} (hE1 : Ext S w S w1) (hm : m ≥ w.heap.size) (hE2 : Ext S w1 S2 w2) (R2 : RepS II.E S2 w2 (s.setNd m ⟨s.mp.iso, 0, [], none, 0, kd⟩)) (b1 : Bx w1 nb [vi, vk, .int .i64 c]) (b2 : Bx w1 rb [.pointer none]) (n1 : ¬ S nb) (n2 : ¬ S rb) (hn1 : w.heap.size ≤ nb) (hn2 : w.heap.size ≤ rb) (hh : Nat) (ty : TypeId) :
    PB S w s nb rb w2.heap.size m vi vk c ⟨s.mp.iso, 0, [], none, 0, kd⟩ (h := hh) [] [] [] (w2.alloc (.cells #[.pointer (some ⟨m, 0, none⟩)] ty)) := by
  have hs1 := hE1.fr.size
  have hs2 := hE2.fr.size
  refine ⟨⟨S2, _, R2.alloc _, (hE1.trans hE2).alloc _, rfl, rfl, Sto.nd_same _ _ _, fun q hq => Sto.nd_ne _ _ (by omega), (hE2.bx b1 n1).alloc _, (hE2.bx b2 n2).alloc _, Bx.new w2 [.pointer (some ⟨m, 0, none⟩)] ty, hE2.notin b1.1 n1, hE2.notin b2.1 n2, fun h => by have := R2.rep.lt _ h; omega, Kids.nil, by simp, fun q hq => by simp at hq⟩, ⟨hn1, hn2, by omega, hm⟩, fun e => by have := b1.1; omega, fun e => by have := b2.1; omega⟩
/-- d becomes an inner node. -/
theorem PB.second {i : Int} (P : PB S w s nb rb db m vi vk c ⟨i, 0, [], none, 0, none⟩ (h := h) [] [] [] wr) (hm : s.mp.iso = i) :
    Calls Try.prog 84 #[.pointer (some ⟨s.m, 0, none⟩)] wr (fun e w' => ∃ m2 q, e = .returned (.agg #[.pointer (some ⟨m2, 0, none⟩)]) ∧ w'.cell? ⟨db, 0, none⟩ = some (.pointer (some ⟨m, 0, none⟩)) ∧ w'.frozen? ⟨db, 0, none⟩ = false ∧ db < w'.heap.size ∧
      PB S w s nb rb db m2 vi vk c ⟨i, 0, [], none, 0, some ⟨q, none, 0, []⟩⟩ (h := h) [] [] [] (w'.setCell ⟨db, 0, none⟩ (.pointer (some ⟨m2, 0, none⟩)))) := by
  subst hm
  obtain ⟨⟨S', s', R, hE, h1, h2, h3, h4, b1, b2, b3, n1, n2, n3, K, hd, hq⟩, g, gn⟩ := P
  rw [← h1]
  refine (II.doorInner_is R).mono ?_
  rintro e w2 ⟨m2, q, S2, rfl, hm1, hm2, hE2, R2⟩
  have c3 := hE2.bx b3 n3
  have hu := Upd.one w2 (b := db) (o := 0) (.pointer (some ⟨m2, 0, none⟩)) (by rw [c3.2 0 _ rfl]; rfl)
  have hsz := hE.fr.size
  refine ⟨m2, q, rfl, c3.cell 0 rfl, c3.froz 0 rfl, c3.1, ⟨⟨S2, _, R2.keep hu.fr (fun i hi e => hE2.notin b3.1 n3 (e ▸ hi)), (hE.trans hE2).upd hu (.inr g.2.2.1), h1, h2, by rw [h2]; exact Sto.nd_same _ _ _, fun q hq => by rw [Sto.nd_ne _ _ (by omega)]; exact h4 q hq, (hE2.bx b1 n1).upd hu gn.1, (hE2.bx b2 n2).upd hu gn.2, ⟨by rw [hu.size]; exact c3.1, fun j v hv => ?_⟩, hE2.notin b1.1 n1, hE2.notin b2.1 n2, hE2.notin b3.1 n3, Kids.nil, by simp, fun q hq => by simp at hq⟩, ⟨g.1, g.2.1, g.2.2.1, by omega⟩, gn⟩⟩
  cases j with
  | zero =>
    obtain rfl := Option.some.inj hv
    exact hu.M_at (j := 0) (by simp)
  | succ j => simp at hv
end Go.Proofs.Ytehnobbiiokcgaa.Bt.ND
