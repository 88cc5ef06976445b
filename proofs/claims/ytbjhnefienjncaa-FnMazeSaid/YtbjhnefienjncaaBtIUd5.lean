/- Maps of numbers (sets): deleting an item in a tree of nodes. -/
import Derived.Test.YtbjhnefienjncaaBtIUd4
import Derived.Test.YtbjhnefienjncaaBtIUr7
import Derived.Test.YtbjhnefienjncaaBtDel
namespace Go.Proofs.Ytbjhnefienjncaa.Bt.IU
set_option linter.unusedVariables false
set_option linter.unusedSimpArgs false
open Go Go.RowKit Go.Proofs.Ytbjhnefienjncaa.Bt

/-- The item that is deleted: the last one, or the one that is equal to x. -/
def delB (mn mx : Nat) (mxf : Bool) (h : Nat) (t : BT It h) (x : It) : Option (BT It h × It) := match mxf with
  | true => delMax mn mx h t
  | false => delN lt mn mx h t x
/-- The tree below n is t' now; the nodes outside it are as they were. -/
def NewN (w : World) (s : Sto It) (nd' : Nat → Option (NodeR It)) (h n : Nat) (t' : BT It h) (ids : List Nat) : Prop :=
  ∃ ids', Tr nd' s.mp.iso h n t' ids' ∧ ids'.Nodup ∧ (∀ k ∈ ids', k ∈ ids ∨ w.heap.size ≤ k) ∧ (∀ k, k ∉ ids → k < w.heap.size → nd' k = s.nd k)
def DRes (w : World) (s s' : Sto It) (h n : Nat) (ids : List Nat) (e : Ending) : Option (BT It h × It) → Prop
  | none => e = .returned (.tuple #[.agg #[Value.int .i64 0], .bool false]) ∧ ∀ z, s'.nd z = s.nd z
  | some p => e = .returned (.tuple #[.agg #[Value.int .i64 p.2.1], .bool true]) ∧ NewN w s s'.nd h n p.1 ids
def DPost (S : Nat → Prop) (w : World) (s : Sto It) (h n : Nat) (ids : List Nat) (res : Option (BT It h × It)) (e : Ending) (w' : World) : Prop :=
  ∃ S' s', Ext S w S' w' ∧ RepS E S' w' s' ∧ s'.m = s.m ∧ s'.mp = s.mp ∧ DRes w s s' h n ids e res
/-- 'delete' keeps its word at trees of height h. -/
def NDel (mn L h : Nat) : Prop := ∀ {S : Nat → Prop} {w : World} {s : Sto It} (_ : RepS E S w s) {A : Addr} {n : Nat} (_ : w.cell? A = some (pv (some n))) {t : BT It h} {ids : List Nat} (_ : Tr s.nd s.mp.iso h n t ids) (_ : ids.Nodup) {lo : Nat} (_ : 0 < lo) (_ : BT.ok mn L lo h t) (_ : Srt lt (BT.all h t)) (_ : s.mp.mx = L) (_ : s.mp.mn = (mn : Int)) (_ : (BT.all h t).length ≤ 100000000000) (mxf : Bool) (x : It),
  Calls Try.prog 98 #[.pointer (some ⟨s.m, 0, none⟩), .pointer (some A), .bool mxf, Value.int .i64 x.1] w (DPost S w s h n ids (delB mn L mxf h t x))

theorem cut_len {l : List It} {x y : It} (h : look lt l x = some y) : (cut lt l x).length + 1 = l.length := by
  have h3 := (look_some h).2.2
  have hp : pos lt l x < l.length := by
    have := (look_some h).1
    first | exact this | exact (List.getElem?_eq_some_iff.1 this).1
  rw [cut_found h, List.length_append, List.length_take, List.length_drop]; omega

/-- 'delete' at a leaf. -/
theorem del_tr0 {mn L : Nat} (hL4 : L ≤ 1000) : NDel mn L 0 := by
  intro S w s R A n hA t ids T hd lo hlo hok hs hmx hmn hb mxf x
  obtain ⟨rfl, r, hr, hiso, hits, hk, hcnt⟩ := T
  have hits' : (t : List It) = r.items := hits.symm
  clear hits
  have hlen : lo ≤ List.length r.items ∧ List.length r.items ≤ L := by rw [← hits']; exact hok
  have hcnt' : r.count = (List.length r.items : Nat) := by rw [← hits']; exact hcnt
  have hs' : Srt lt r.items := by rw [← hits']; exact hs
  have hdel : ∀ (i : Nat) (y : It), r.items[i]? = some y → ((mxf = true ∧ i + 1 = r.items.length) ∨ (mxf = false ∧ Srt lt r.items ∧ pos lt r.items x = i ∧ fnd lt r.items x = true)) →
      Calls Try.prog 98 #[.pointer (some ⟨s.m, 0, none⟩), .pointer (some A), .bool mxf, Value.int .i64 x.1] w (DPost S w s 0 n [n] (some ((r.items.take i ++ r.items.drop (i + 1) : List It), y))) := by
    intro i y hy hm
    obtain ⟨nb, no, hnb⟩ := R.ib_some hr (by intro e; rw [e] at hy; simp at hy)
    have hi := (List.getElem?_eq_some_iff.1 hy).1
    refine (del_leaf R hA hr hiso hk hnb rfl (by omega) hy (by rw [hcnt']; omega) (by rw [hcnt']; omega) hm).mono ?_
    rintro e w' ⟨rfl, BX, K⟩
    obtain ⟨S', s', R', hE', hL', hnd', hm', hmp', ho', _⟩ := K.ex
    have hL1 := hL' _ _ (List.mem_singleton.2 rfl)
    refine ⟨S', s', hE', R', hm', hmp', rfl, [n], ⟨rfl, _, hL1, hiso, rfl, rfl, ?_⟩, by simp, fun k hk => .inl hk, fun k hk _ => ho' k (by simpa using hk)⟩
    show r.count - 1 = ((List.length (List.take i r.items ++ List.drop (i + 1) r.items) : Nat) : Int)
    rw [List.length_append, List.length_take, List.length_drop, hcnt']; omega
  cases mxf with
  | true =>
    obtain ⟨y, e1, e2⟩ := last_split (l := r.items) (by omega)
    have hp : r.items[r.items.length - 1]? = some y := by rw [← List.getLast?_eq_getElem?]; exact e1
    have h := hdel (r.items.length - 1) y hp (.inl ⟨rfl, by omega⟩)
    have e3 : (List.take (r.items.length - 1) r.items ++ List.drop (r.items.length - 1 + 1) r.items) = List.dropLast r.items := by
      rw [List.drop_eq_nil_of_le (by omega), List.append_nil, List.dropLast_eq_take]
    rw [e3] at h
    have e4 : delB mn L true 0 t x = some ((List.dropLast r.items : List It), y) := by
      show delMax mn L 0 t = _
      rw [delMax, hits', e1]
    rw [e4]; exact h
  | false =>
    cases hl : look lt r.items x with
    | some y =>
      have h := hdel (pos lt r.items x) y (look_some hl).1 (.inr ⟨rfl, hs', rfl, fnd_some hl⟩)
      have e4 : delB mn L false 0 t x = some ((List.take (pos lt r.items x) r.items ++ List.drop (pos lt r.items x + 1) r.items : List It), y) := by
        show delN lt mn L 0 t x = _
        rw [delN, hits', hl]; rfl
      rw [e4]; exact h
    | none =>
      have e4 : delB mn L false 0 t x = none := by
        show delN lt mn L 0 t x = _
        rw [delN, hits', hl]
      rw [e4]
      refine (del_none R hA hr hiso hk rfl (by omega) hs' (fnd_none hl)).mono ?_
      rintro e w' ⟨rfl, BX, K⟩
      obtain ⟨S', s', R', hE', hL', hnd', hm', hmp', ho', _⟩ := K.ex
      exact ⟨S', s', hE', R', hm', hmp', rfl, fun z => ho' z (by simp)⟩

set_option maxHeartbeats 2000000 in
/-- 'delete' at a node that has children. -/
theorem del_trS {mn L h : Nat} (hmn0 : 0 < mn) (hL : L = 2 * mn + 1) (hL4 : L ≤ 1000) (IH : NDel mn L h) : NDel mn L (h + 1) := by
  intro S w s R A n hA t ids T hd lo hlo hok hs hmx hmn hb mxf x
  obtain ⟨r, k, ps, idss, hr, a2, a3, a4, a5, a6, a7, a8, a9, a10, a11⟩ := T.kids hd
  have hkl := hok.2.2.1
  have hlt := Tr.below R T
  have hxs : Srt lt t.1 := hs.sublist (weave_sub _ _)
  have hlo1 : lo ≤ t.1.length := hok.1
  have hhi1 : t.1.length ≤ L := hok.2.1
  have hsr : Srt lt r.items := by rw [a3]; exact hxs
  have hlr : r.items.length = t.1.length := by rw [a3]
  obtain ⟨kb, ko, hkb⟩ := R.kb_some hr a4 (by rw [a5]; intro e; have := congrArg List.length e; rw [List.length_map, a7, hkl] at this; exact absurd this (by simp))
  have hkk : k.kids.length = t.1.length + 1 := by rw [a5, List.length_map, a7]; exact hkl
  have hnw : n < w.heap.size := (R.node hr).1
  have hdf := (List.nodup_cons.1 (by rw [a9] at hd; exact hd : (n :: idss.flatten).Nodup))
  have hc0 : 0 ≤ r.count := by rw [a6]; omega
  have hc1 : r.count ≤ 100000000000 := by rw [a6]; omega
  have hchild : ∀ ci, ci ≤ t.1.length → ∃ c p js, t.2[ci]? = some c ∧ ps[ci]? = some p ∧ idss[ci]? = some js ∧ Tr s.nd s.mp.iso h p c js ∧ js.Nodup ∧ n ∉ js ∧ (∀ z ∈ js, z ∈ ids) ∧ BT.ok mn L mn h c ∧ Srt lt (BT.all h c) ∧ (BT.all h c).length ≤ 100000000000 ∧ k.kids[ci]? = some (some p) := by
    intro ci hci
    obtain ⟨c, hc⟩ : ∃ c, t.2[ci]? = some c := ⟨t.2[ci]'(by omega), List.getElem?_eq_getElem _⟩
    obtain ⟨p, hpp⟩ : ∃ p, ps[ci]? = some p := ⟨ps[ci]'(by omega), List.getElem?_eq_getElem _⟩
    obtain ⟨js, hj⟩ : ∃ js, idss[ci]? = some js := ⟨idss[ci]'(by omega), List.getElem?_eq_getElem _⟩
    have hjm : js ∈ idss := List.mem_of_getElem? hj
    have hsub : (BT.all h c).Sublist (BT.all (h + 1) t) := weave_kid (ls := t.2.map (BT.all h)) hci (by rw [List.getElem?_map, hc]; rfl)
    have hl := hsub.length_le
    exact ⟨c, p, js, hc, hpp, hj, a10 _ p c js hpp hc hj, (List.pairwise_flatten.1 hdf.2).1 js hjm, fun hn => hdf.1 (List.mem_flatten.2 ⟨js, hjm, hn⟩),
      fun z hz => by rw [a9]; exact List.mem_cons_of_mem _ (List.mem_flatten.2 ⟨js, hjm, hz⟩), hok.2.2.2 c (List.mem_of_getElem? hc), List.Pairwise.sublist hsub hs, by omega, by rw [a5, List.getElem?_map, hpp]; rfl⟩
  -- the node with another child (and perhaps another item)
  have hput : ∀ (xs : List It) (ci p : Nat) (c c' : BT It h) (js : List Nat) (s3 : Sto It) (nd6 : Nat → Option (NodeR It)), xs.length = t.1.length → ci ≤ t.1.length → t.2[ci]? = some c → ps[ci]? = some p → idss[ci]? = some js → (BT.all h c').length + 1 = (BT.all h c).length → NewN w s s3.nd h p c' js → nd6 n = some { r with items := xs, count := r.count - 1 } → (∀ z, z ≠ n → nd6 z = s3.nd z) →
      NewN w s nd6 (h + 1) n ((xs, t.2.set ci c') : BT It (h + 1)) ids ∧ (BT.all (h + 1) ((xs, t.2.set ci c') : BT It (h + 1))).length + 1 = (BT.all (h + 1) t).length := by
    intro xs ci p c c' js s3 nd6 hxl hci hc hp hj hcl ⟨is', T', hd', hs', ho'⟩ hn6 h6
    have hjm : js ∈ idss := List.mem_of_getElem? hj
    have hnj : n ∉ js := fun hn => hdf.1 (List.mem_flatten.2 ⟨js, hjm, hn⟩)
    have hni : n ∉ is' := fun hn => (hs' n hn).elim hnj (fun h => by omega)
    have T2 : Tr nd6 s.mp.iso h p c' is' := T'.keep fun z hz => h6 z (fun e => hni (e ▸ hz))
    have hlen : (BT.all (h + 1) ((xs, t.2.set ci c') : BT It (h + 1))).length + 1 = (BT.all (h + 1) t).length := by
      have h1 := all_set hci hc (c' := c')
      have h2 := all_length (h := h) ((t.1, t.2.set ci c') : BT It (h + 1))
      have h3 := all_length (h := h) ((xs, t.2.set ci c') : BT It (h + 1))
      simp only at h2 h3
      rw [hxl] at h3
      omega
    obtain ⟨b1, b2, b3⟩ := Tr.put_kid (nd := (s.setNd n { r with items := xs }).nd) (nd' := nd6) (N := w.heap.size) (t := ((xs, t.2) : BT It (h + 1))) (r := { r with items := xs }) (cnt := r.count - 1) (Sto.nd_same _ _ _) a2 rfl a4 a5 a7 a8 a9
      (fun j q d js' hq hdj hj' => (a10 j q d js' hq hdj hj').keep fun z hz => Sto.nd_ne _ _ (fun e => hdf.1 (List.mem_flatten.2 ⟨js', List.mem_of_getElem? hj', e ▸ hz⟩)))
      hd hlt hp hj T2 hd' hs' (fun q hq hqw hqn => by rw [h6 q hqn, ho' q hq hqw]; exact (Sto.nd_ne _ _ hqn).symm) hn6 (by
        show r.count - 1 = ((BT.all (h + 1) ((xs, t.2.set ci c') : BT It (h + 1))).length : Nat)
        rw [a6]; omega)
    exact ⟨⟨_, b1, b2, b3, fun z hz hzw => by
      have hzn : z ≠ n := fun e => hz (by rw [e, a9]; simp)
      rw [h6 z hzn, ho' z (fun hzj => hz ?_) hzw]
      rw [a9]; exact List.mem_cons_of_mem _ (List.mem_flatten.2 ⟨js, hjm, hzj⟩)⟩, hlen⟩
  -- the child's record
  have hrec : ∀ {p : Nat} {c' : BT It h} {js : List Nat} {s3 : Sto It}, n ∉ js → BT.ok mn L (mn - 1) h c' → NewN w s s3.nd h p c' js → ∃ rp lp, s3.nd p = some rp ∧ rp.items.length = lp ∧ lp ≤ 100000 ∧ p ≠ n ∧ lp = (BT.its c').length := by
    intro p c' js s3 hnj hok' ⟨is', T', hd', hs', ho'⟩
    obtain ⟨mp, rp, e1, _, e2, _⟩ := T'.root
    have hni : n ∉ is' := fun hn => (hs' n hn).elim hnj (fun h => by omega)
    have := (BT.ok_its hok').2
    exact ⟨rp, _, e1, rfl, by rw [e2]; omega, fun e => hni (e ▸ mp), by rw [e2]⟩
  -- the rebalancing
  have hrb : ∀ (xs : List It) (ci : Nat) (c' : BT It h) (S6 : Nat → Prop) (w6 : World) (s6 : Sto It), xs.length = t.1.length → ci ≤ t.1.length → NewN w s s6.nd (h + 1) n ((xs, t.2.set ci c') : BT It (h + 1)) ids → RepS E S6 w6 s6 → Ext S w S6 w6 → s6.m = s.m → s6.mp = s.mp → BT.ok mn L (mn - 1) h c' → (BT.its c').length < mn →
      (BT.all (h + 1) ((xs, t.2.set ci c') : BT It (h + 1))).length ≤ 100000000000 → (BT.all (h + 1) (mend mn L ((xs, t.2) : BT It (h + 1)) ci c')).length = (BT.all (h + 1) ((xs, t.2.set ci c') : BT It (h + 1))).length →
      Calls Try.prog 138 #[.pointer (some ⟨s.m, 0, none⟩), .pointer (some ⟨n, 0, none⟩), .int .i64 ci] w6 (fun e w' => e = .returned (.tuple #[]) ∧ ∃ S' s', Ext S6 w6 S' w' ∧ RepS E S' w' s' ∧ s'.m = s.m ∧ s'.mp = s.mp ∧ NewN w s s'.nd (h + 1) n (mend mn L ((xs, t.2) : BT It (h + 1)) ci c') ids) := by
    intro xs ci c' S6 w6 s6 hxl hci ⟨is6, T6, hd6, hs6, ho6⟩ R6 hE6 hm6 hmp6 hok' hsm hb6 hml
    have em : mend mn L ((xs, t.2) : BT It (h + 1)) ci c' = reb L ((xs, t.2.set ci c') : BT It (h + 1)) ci := by
      unfold mend; rw [if_pos hsm]
    rw [em] at hml ⊢
    have hR := reb_tr (mn := mn) hL4 (by omega) R6 (t := ((xs, t.2.set ci c') : BT It (h + 1))) (ids := is6) (by rw [hmp6]; exact T6) hd6 (by show (t.2.set ci c').length = xs.length + 1; rw [List.length_set, hxl]; exact hkl) (by show 0 < xs.length; omega) (by show xs.length ≤ L; omega)
      (fun d hd' => by
        have hd'' : d ∈ t.2.set ci c' := hd'
        rcases mem_set hd'' with hd2 | hd2
        · exact BT.ok_le (hok.2.2.2 d hd2) (by omega)
        · rw [hd2]; exact BT.ok_le hok' (by omega)) (by rw [hmp6]; exact hmx) hb6 (i := ci) (by show ci ≤ xs.length; omega) hml
    rw [hm6] at hR
    refine hR.mono ?_
    rintro e w' ⟨rfl, S', s', hE', R', hm', hmp', is', T', hd', hs', ho'⟩
    refine ⟨rfl, S', s', hE', R', hm'.trans hm6, hmp'.trans hmp6, is', by rw [← hmp6]; exact T', hd', fun z hz => ?_, fun z hz hzw => ?_⟩
    · rcases hs' z hz with h | h
      · exact hs6 z h
      · exact .inr (Nat.le_trans hE6.fr.size h)
    · have hz6 : z ∉ is6 := fun h => (hs6 z h).elim hz (fun h => by omega)
      rw [ho' z hz6 (Nat.lt_of_lt_of_le hzw hE6.fr.size)]; exact ho6 z hz hzw
  -- the call at the child
  have hcallc : ∀ (mf : Bool) (x' : It) (ci p : Nat) (c : BT It h) (js : List Nat), Tr s.nd s.mp.iso h p c js → js.Nodup → BT.ok mn L mn h c → Srt lt (BT.all h c) → (BT.all h c).length ≤ 100000000000 → n ∉ js →
      ∀ (S2 : Nat → Prop) (w2 : World) (s2 : Sto It), RepS E S2 w2 s2 → Ext S w S2 w2 → (∀ z, s2.nd z = s.nd z) → s2.m = s.m → s2.mp = s.mp → w2.cell? ⟨kb, ko + ci, none⟩ = some (pv (some p)) →
      Calls Try.prog 98 #[.pointer (some ⟨s.m, 0, none⟩), .pointer (some ⟨kb, ko + ci, none⟩), .bool mf, Value.int .i64 x'.1] w2
        (CallD n r s (fun s' => delB mn L mf h c x' = none ∧ ∀ z, s'.nd z = s.nd z) (fun s' y => ∃ c', delB mn L mf h c x' = some (c', y) ∧ NewN w s s'.nd h p c' js) S2 w2) := by
    intro mf x' ci p c js Tc hjd hcok hcs hcl hnj S2 w2 s2 R2 hE2 hnd2 hm2 hmp2 hA2
    have hI := IH R2 hA2 (t := c) (ids := js) (by rw [hmp2]; exact Tc.keep fun z _ => hnd2 z) hjd hmn0 hcok hcs (by rw [hmp2]; exact hmx) (by rw [hmp2]; exact hmn) hcl mf x'
    rw [hm2] at hI
    refine hI.mono ?_
    rintro e w' ⟨S', s', hE', R', hm', hmp', hres⟩
    cases hdb : delB mn L mf h c x' with
    | none =>
      rw [hdb] at hres
      obtain ⟨rfl, hnd'⟩ := hres
      exact ⟨S', s', ((0 : Int), ()), false, rfl, hE', R', hm'.trans hm2, hmp'.trans hmp2, by rw [hnd', hnd2]; exact hr, fun _ => ⟨⟨rfl, fun z => (hnd' z).trans (hnd2 z)⟩, rfl⟩, (fun h => by cases h)⟩
    | some q =>
      obtain ⟨c', y⟩ := q
      rw [hdb] at hres
      obtain ⟨rfl, is', T', hd', hs', ho'⟩ := hres
      refine ⟨S', s', y, true, rfl, hE', R', hm'.trans hm2, hmp'.trans hmp2, ?_, (fun h => by cases h), fun _ => ⟨c', rfl, is', by rw [← hmp2]; exact T', hd', fun z hz => (hs' z hz).imp id (Nat.le_trans hE2.fr.size), fun z hz hzw => (ho' z hz (Nat.lt_of_lt_of_le hzw hE2.fr.size)).trans (hnd2 z)⟩⟩
      rw [ho' n hnj (Nat.lt_of_lt_of_le hnw hE2.fr.size), hnd2]; exact hr
  -- both ways where the child's call is the same call
  have hdown : ∀ (ci : Nat), ci ≤ t.1.length → ((mxf = true ∧ (t.1.length - 1) + 1 = t.1.length ∧ ci = t.1.length) ∨ (mxf = false ∧ Srt lt r.items ∧ pos lt r.items x = ci ∧ fnd lt r.items x = false)) → ∀ c, t.2[ci]? = some c →
      (∀ x' c' y, (mxf = false → x' = x) → delB mn L mxf h c x' = some (c', y) → delB mn L mxf h c x = some (c', y) ∧ (BT.all h c').length + 1 = (BT.all h c).length ∧ BT.ok mn L (mn - 1) h c' ∧ delB mn L mxf (h + 1) t x = some (mend mn L t ci c', y)) →
      (∀ x', (mxf = false → x' = x) → delB mn L mxf h c x' = none → delB mn L mxf (h + 1) t x = none) →
      Calls Try.prog 98 #[.pointer (some ⟨s.m, 0, none⟩), .pointer (some A), .bool mxf, Value.int .i64 x.1] w (DPost S w s (h + 1) n ids (delB mn L mxf (h + 1) t x)) := by
    intro ci hci hm c hc hsome hnone
    obtain ⟨c2, p, js, hc', hp, hj, Tc, hjd, hnj, hjs, hcok, hcs, hcl, hkp⟩ := hchild ci hci
    rw [hc] at hc'; obtain rfl := Option.some.inj hc'
    have hmend : ∀ c', BT.ok mn L (mn - 1) h c' → (BT.all (h + 1) (mend mn L t ci c')).length = (BT.all (h + 1) ((t.1, t.2.set ci c') : BT It (h + 1))).length := fun c' hok' => by
      have g1 := (mend_ok hL hmn0 hok hlo hci hc hok').1
      rw [g1]
      show _ = (weave t.1 ((t.2.set ci c').map (BT.all h))).length
      rw [List.map_set]
    have er : ∀ cn, ({ r with count := cn } : NodeR It) = { r with items := t.1, count := cn } := fun cn => by rw [← a3]
    refine (del_down R hA hr a2 a4 hkb hlr (by omega) hkk (i := if mxf then t.1.length - 1 else ci) (ci := ci) (p := p) hkp hc0 hc1 (mxf := mxf) (x := x) ?_
      (Dn := fun s' => delB mn L mxf (h + 1) t x = none ∧ ∀ z, s'.nd z = s.nd z) (D := fun s' y => ∃ c', (delB mn L mxf (h + 1) t x = some (mend mn L t ci c', y) ∧ (BT.all h c').length + 1 = (BT.all h c).length ∧ BT.ok mn L (mn - 1) h c') ∧ NewN w s s'.nd h p c' js) ?_
      (D2 := fun nd' y => ∃ q, delB mn L mxf (h + 1) t x = some (q, y) ∧ NewN w s nd' (h + 1) n q ids) ?_ ?_).mono ?_
    · rcases hm with ⟨rfl, h1, h2⟩ | ⟨rfl, h1, h2, h3⟩
      · exact .inl ⟨rfl, h1, h2⟩
      · exact .inr ⟨rfl, h1, h2, h3, rfl⟩
    · rintro s' y ⟨c', ⟨_, _, hok'⟩, hN⟩
      obtain ⟨rp, lp, e1, e2, e3, e4, _⟩ := hrec hnj hok' hN
      exact ⟨rp, lp, e1, e2, e3, e4⟩
    · rintro S6 w6 s3 s6 y ⟨c', ⟨hd1, hd2, hok'⟩, hN⟩ R6 hE6 hm6 hmp6 hn6 ho6 hsm
      obtain ⟨rp, lp, e1, e2, _, _, e5⟩ := hrec hnj hok' hN
      have hsm' := hsm rp e1
      rw [er] at hn6
      obtain ⟨g1, g2⟩ := hput t.1 ci p c c' js s3 s6.nd rfl hci hc hp hj hd2 hN hn6 ho6
      refine (hrb t.1 ci c' S6 w6 s6 rfl hci g1 R6 hE6 hm6 hmp6 hok' (by rw [e2, e5, hmn] at hsm'; omega) (by omega) (hmend c' hok')).mono ?_
      rintro e w' ⟨rfl, S', s', hE', R', hm', hmp', hN'⟩
      exact ⟨rfl, S', s', hE', R', hm', hmp', _, hd1, hN'⟩
    · intro S2 w2 s2 x' R2 hE2 hnd2 hm2 hmp2 hx' hA2
      refine (hcallc mxf x' ci p c js Tc hjd hcok hcs hcl hnj S2 w2 s2 R2 hE2 hnd2 hm2 hmp2 hA2).mono ?_
      rintro e w' ⟨S', s', y, del, he, hE', R', hm', hmp', hn', h1, h2⟩
      refine ⟨S', s', y, del, he, hE', R', hm', hmp', hn', fun hf => ?_, fun ht => ?_⟩
      · obtain ⟨⟨g1, g2⟩, g3⟩ := h1 hf
        exact ⟨⟨hnone x' hx' g1, g2⟩, g3⟩
      · obtain ⟨c', g1, g2⟩ := h2 ht
        obtain ⟨_, k2, k3, k4⟩ := hsome x' c' y hx' g1
        exact ⟨c', ⟨k4, k2, k3⟩, g2⟩
    · rintro e w' ⟨S', s', hE', R', hm', hmp', hq⟩
      rcases hq with ⟨rfl, s3, ⟨g1, g2⟩, hn', ho'⟩ | ⟨y, rfl, hq⟩
      · refine ⟨S', s', hE', R', hm', hmp', ?_⟩
        rw [g1]
        refine ⟨rfl, fun z => ?_⟩
        by_cases hz : z = n
        · rw [hz, hn', hr]
        · rw [ho' z hz, g2]
      · refine ⟨S', s', hE', R', hm', hmp', ?_⟩
        rcases hq with ⟨q, g1, g2⟩ | ⟨s3, ⟨c', ⟨hd1, hd2, hok'⟩, hN⟩, hn', ho', hsm⟩
        · rw [g1]; exact ⟨rfl, g2⟩
        · rw [hd1]
          obtain ⟨rp, lp, e1, e2, _, _, e5⟩ := hrec hnj hok' hN
          have hsm' := hsm rp e1
          rw [er] at hn'
          obtain ⟨g1, g2⟩ := hput t.1 ci p c c' js s3 s'.nd rfl hci hc hp hj hd2 hN hn' ho'
          have em : mend mn L t ci c' = ((t.1, t.2.set ci c') : BT It (h + 1)) := by
            unfold mend; rw [if_neg (by rw [e2, e5, hmn] at hsm'; omega)]
          rw [em]; exact ⟨rfl, g1⟩
  cases mxf with
  | true =>
    obtain ⟨c, p, js, hc, hp, hj, Tc, hjd, hnj, hjs, hcok, hcs, hcl, hkp⟩ := hchild t.1.length (Nat.le_refl _)
    obtain ⟨c', y, e1, e2, e3⟩ := delMax_ok hL hmn0 h mn c hmn0 hcok
    have ed : delB mn L true (h + 1) t x = some (mend mn L t t.1.length c', y) := by
      show delMax mn L (h + 1) t = _
      rw [delMax, hc]; simp only [e1]
    refine hdown t.1.length (Nat.le_refl _) (.inl ⟨rfl, by omega, rfl⟩) c hc (fun x' c2 y2 _ h2 => ?_) (fun x' _ h2 => ?_)
    · have h2' : delMax mn L h c = some (c2, y2) := h2
      rw [e1] at h2'
      simp only [Option.some.injEq, Prod.mk.injEq] at h2'
      obtain ⟨rfl, rfl⟩ := h2'
      exact ⟨e1, by rw [e2, List.length_append]; rfl, e3, ed⟩
    · have h2' : delMax mn L h c = none := h2
      rw [e1] at h2'; cases h2'
  | false =>
    have hp0 := pos_le (lt := lt) t.1 x
    obtain ⟨c, p, js, hc, hp, hj, Tc, hjd, hnj, hjs, hcok, hcs, hcl, hkp⟩ := hchild (pos lt t.1 x) hp0
    cases hl : look lt t.1 x with
    | none =>
      refine hdown (pos lt t.1 x) hp0 (.inr ⟨rfl, hsr, by rw [a3], by rw [a3]; exact fnd_none hl⟩) c hc (fun x' c2 y2 hx' h2 => ?_) (fun x' hx' h2 => ?_)
      · obtain rfl := hx' rfl
        have hDR := delN_ok ord hL hmn0 h mn c x' hmn0 hcok hcs
        have h2' : delN lt mn L h c x' = some (c2, y2) := h2
        rw [h2'] at hDR
        obtain ⟨k1, k2, k3⟩ := hDR
        refine ⟨h2, by rw [k2]; exact cut_len k1, k3, ?_⟩
        show delN lt mn L (h + 1) t x' = _
        rw [delN, hl]; simp only [hc, h2']
      · obtain rfl := hx' rfl
        have h2' : delN lt mn L h c x' = none := h2
        show delN lt mn L (h + 1) t x' = none
        rw [delN, hl]; simp only [hc, h2']
    | some y =>
      obtain ⟨c', m, e1, e2, e3⟩ := delMax_ok hL hmn0 h mn c hmn0 hcok
      have hpl : pos lt t.1 x < t.1.length := (List.getElem?_eq_some_iff.1 (look_some hl).1).1
      have ed : delB mn L false (h + 1) t x = some (mend mn L ((t.1.set (pos lt t.1 x) m, t.2) : BT It (h + 1)) (pos lt t.1 x) c', y) := by
        show delN lt mn L (h + 1) t x = _
        rw [delN, hl]; simp only [hc, e1]
      have hxl : (t.1.set (pos lt t.1 x) m).length = t.1.length := List.length_set
      have hok2 : BT.ok mn L lo (h + 1) ((t.1.set (pos lt t.1 x) m, t.2) : BT It (h + 1)) := ⟨by show lo ≤ (t.1.set _ m).length; rw [hxl]; exact hlo1, by show (t.1.set _ m).length ≤ L; rw [hxl]; exact hhi1, by show t.2.length = (t.1.set _ m).length + 1; rw [hxl]; exact hkl, hok.2.2.2⟩
      have hml : (BT.all (h + 1) (mend mn L ((t.1.set (pos lt t.1 x) m, t.2) : BT It (h + 1)) (pos lt t.1 x) c')).length = (BT.all (h + 1) ((t.1.set (pos lt t.1 x) m, t.2.set (pos lt t.1 x) c') : BT It (h + 1))).length := by
        have g1 := (mend_ok hL hmn0 hok2 hlo (i := pos lt t.1 x) (by show pos lt t.1 x ≤ (t.1.set _ m).length; rw [hxl]; exact hp0) hc e3).1
        rw [g1]
        show _ = (weave (t.1.set (pos lt t.1 x) m) ((t.2.set (pos lt t.1 x) c').map (BT.all h))).length
        rw [List.map_set]
      have hcl1 : (BT.all h c').length + 1 = (BT.all h c).length := by rw [e2, List.length_append]; rfl
      have hy : r.items[pos lt t.1 x]? = some y := by rw [a3]; exact (look_some hl).1
      rw [ed]
      obtain ⟨nb, no, hnb⟩ := R.ib_some hr (by intro e; rw [e] at hy; simp at hy)
      refine (del_mid R hA hr a2 a4 hkb hnb hlr (by omega) hkk (i := pos lt t.1 x) (p := p) hkp hc0 hc1 (x := x) (y := y) hsr (by rw [a3]) (by rw [a3]; exact fnd_some hl) hy
        (D := fun s' m' => m' = m ∧ NewN w s s'.nd h p c' js) ?_
        (D2 := fun nd' _ => NewN w s nd' (h + 1) n (mend mn L ((t.1.set (pos lt t.1 x) m, t.2) : BT It (h + 1)) (pos lt t.1 x) c') ids) ?_ ?_).mono ?_
      · rintro s' m' ⟨rfl, hN⟩
        obtain ⟨rp, lp, q1, q2, q3, q4, _⟩ := hrec hnj e3 hN
        exact ⟨rp, lp, q1, q2, q3, q4⟩
      · rintro S6 w6 s3 s6 m' ⟨rfl, hN⟩ R6 hE6 hm6 hmp6 hn6 ho6 hsm
        obtain ⟨rp, lp, q1, q2, _, _, q5⟩ := hrec hnj e3 hN
        have hsm' := hsm rp q1
        rw [a3] at hn6
        obtain ⟨g1, g2⟩ := hput _ _ p c c' js s3 s6.nd hxl hp0 hc hp hj hcl1 hN hn6 ho6
        exact hrb _ _ c' S6 w6 s6 hxl hp0 g1 R6 hE6 hm6 hmp6 e3 (by rw [q2, q5, hmn] at hsm'; omega) (by omega) hml
      · intro S2 w2 s2 x' R2 hE2 hnd2 hm2 hmp2 hA2
        refine (hcallc true x' (pos lt t.1 x) p c js Tc hjd hcok hcs hcl hnj S2 w2 s2 R2 hE2 hnd2 hm2 hmp2 hA2).mono ?_
        rintro e w' ⟨S', s', m', del, he, hE', R', hm', hmp', hn', h1, h2⟩
        have hde : delB mn L true h c x' = some (c', m) := e1
        cases del with
        | false => obtain ⟨⟨g1, _⟩, _⟩ := h1 rfl; rw [hde] at g1; cases g1
        | true =>
          obtain ⟨c2, g1, g2⟩ := h2 rfl
          rw [hde] at g1
          simp only [Option.some.injEq, Prod.mk.injEq] at g1
          obtain ⟨rfl, rfl⟩ := g1
          exact ⟨S', s', _, true, he, hE', R', hm', hmp', hn', (fun h => by cases h), fun _ => ⟨rfl, g2⟩⟩
      · rintro e w' ⟨S', s', hE', R', hm', hmp', rfl, m', hq⟩
        refine ⟨S', s', hE', R', hm', hmp', rfl, ?_⟩
        rcases hq with g2 | ⟨s3, ⟨rfl, hN⟩, hn', ho', hsm⟩
        · exact g2
        · obtain ⟨rp, lp, q1, q2, _, _, q5⟩ := hrec hnj e3 hN
          have hsm' := hsm rp q1
          rw [a3] at hn'
          obtain ⟨g1, g2⟩ := hput _ _ p c c' js s3 s'.nd hxl hp0 hc hp hj hcl1 hN hn' ho'
          have em : mend mn L ((t.1.set (pos lt t.1 x) m', t.2) : BT It (h + 1)) (pos lt t.1 x) c' = ((t.1.set (pos lt t.1 x) m', t.2.set (pos lt t.1 x) c') : BT It (h + 1)) := by
            unfold mend; rw [if_neg (by rw [q2, q5, hmn] at hsm'; omega)]
          rw [em]; exact g1

/-- 'delete', said of trees. -/
theorem del_tr {mn L : Nat} (hmn0 : 0 < mn) (hL : L = 2 * mn + 1) (hL4 : L ≤ 1000) : ∀ h, NDel mn L h
  | 0 => del_tr0 hL4
  | h + 1 => del_trS hmn0 hL hL4 (del_tr hmn0 hL hL4 h)
end Go.Proofs.Ytbjhnefienjncaa.Bt.IU
