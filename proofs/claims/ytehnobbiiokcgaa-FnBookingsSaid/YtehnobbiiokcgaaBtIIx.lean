/- Maps from numbers to numbers: the doors of a map: new nodes, counts, a root. -/
import Derived.Test.YtehnobbiiokcgaaBtIIx1
import Derived.Test.YtehnobbiiokcgaaBtIIw
namespace Go.Proofs.Ytehnobbiiokcgaa.Bt.II
set_option linter.unusedVariables false
set_option linter.unusedSimpArgs false
open Go Go.RowKit Go.Proofs.Ytehnobbiiokcgaa.Bt

variable {S : Nat → Prop} {w : World} {s : Sto It}

set_option maxHeartbeats 1000000 in
/-- 'DoorLeaf' -/
theorem doorLeaf_is (R : RepS E S w s) :
    Calls Try.prog 83 #[.pointer (some ⟨s.m, 0, none⟩)] w (fun e w' => ∃ n S', e = .returned (dv n) ∧ w.heap.size ≤ n ∧ ¬ S n ∧ Ext S w S' w' ∧ RepS E S' w' (s.setNd n ⟨s.mp.iso, 0, [], none, 0, none⟩)) := by
  have hns : ¬ S w.heap.size := fun h => by have := R.rep.lt _ h; omega
  have HE := hidp ((Ext.refl S w).alloc (.cells #[Value.pointer none] 96))
  have HB := hidp (Bx.new w [Value.pointer none] 96)
  have HC := hidp (newNode_leaf (R.alloc (.cells #[Value.pointer none] 96)))
  clear R
  go_enter Try.func83, Try.ntmps83
  go_wp2_with fail
  refine HC.out.mono ?_
  rintro e w2 ⟨n, S', rfl, hn1, hn2, hE2, R2⟩
  have B2 := hE2.bx HB.out hns
  have hns2 : ¬ S' w.heap.size := hE2.notin (by rw [World.size_alloc]; omega) hns
  have c1 := B2.cell 0 rfl
  have f1 := B2.froz 0 rfl
  have h1 := B2.1
  have hu := Upd.one w2 (b := w.heap.size) (o := 0) (.pointer (some ⟨n, 0, none⟩)) (by rw [B2.2 0 _ rfl]; rfl)
  have HR3 := hidp (R2.keep hu.fr (fun i hi e => hns2 (e ▸ hi)))
  have HE3 := hidp ((HE.out.trans hE2).upd hu (.inr (Nat.le_refl _)))
  have HN := hidp (And.intro (show w.heap.size ≤ n by rw [World.size_alloc] at hn1; omega) hn2)
  clear hE2 R2 B2 hu hn1 hn2 HC
  go_wp2
  refine bodyPost_ret (v := dv n) (by simp [results, Try.results83, dv, go_sem, c1, f1, h1]) rfl ?_
  exact ⟨n, S', rfl, HN.out.1, HN.out.2, HE3.out, HR3.out⟩

set_option maxHeartbeats 1000000 in
/-- 'DoorInner' -/
theorem doorInner_is (R : RepS E S w s) :
    Calls Try.prog 84 #[.pointer (some ⟨s.m, 0, none⟩)] w (fun e w' => ∃ n q S', e = .returned (dv n) ∧ w.heap.size ≤ n ∧ ¬ S n ∧ Ext S w S' w' ∧ RepS E S' w' (s.setNd n ⟨s.mp.iso, 0, [], none, 0, some ⟨q, none, 0, []⟩⟩)) := by
  have hns : ¬ S w.heap.size := fun h => by have := R.rep.lt _ h; omega
  have HE := hidp ((Ext.refl S w).alloc (.cells #[Value.pointer none] 96))
  have HB := hidp (Bx.new w [Value.pointer none] 96)
  have HC := hidp (newNode_inner (R.alloc (.cells #[Value.pointer none] 96)))
  clear R
  go_enter Try.func84, Try.ntmps84
  go_wp2_with fail
  refine HC.out.mono ?_
  rintro e w2 ⟨n, q, S', rfl, hn1, hn2, _, _, _, hE2, R2⟩
  have B2 := hE2.bx HB.out hns
  have hns2 : ¬ S' w.heap.size := hE2.notin (by rw [World.size_alloc]; omega) hns
  have c1 := B2.cell 0 rfl
  have f1 := B2.froz 0 rfl
  have h1 := B2.1
  have hu := Upd.one w2 (b := w.heap.size) (o := 0) (.pointer (some ⟨n, 0, none⟩)) (by rw [B2.2 0 _ rfl]; rfl)
  have HR3 := hidp (R2.keep hu.fr (fun i hi e => hns2 (e ▸ hi)))
  have HE3 := hidp ((HE.out.trans hE2).upd hu (.inr (Nat.le_refl _)))
  have HN := hidp (And.intro (show w.heap.size ≤ n by rw [World.size_alloc] at hn1; omega) hn2)
  clear hE2 R2 B2 hu hn1 hn2 HC
  go_wp2
  refine bodyPost_ret (v := dv n) (by simp [results, Try.results84, dv, go_sem, c1, f1, h1]) rfl ?_
  exact ⟨n, q, S', rfl, HN.out.1, HN.out.2, HE3.out, HR3.out⟩

/-- 'updateCount', whatever the node. -/
theorem updCount_is (R : RepS E S w s) {n : Nat} {r : NodeR It} (hn : s.nd n = some r) {ps : List Nat} {cs : List Int} (hk : ∀ k, r.kids = some k → k.kids = ps.map some ∧ ps ≠ []) (h0 : r.kids = none → cs = [])
    (hps : ∀ (j p : Nat), ps[j]? = some p → p ≠ n ∧ ∃ rp, s.nd p = some rp ∧ cs[j]? = some rp.count) (hcs : ∀ c ∈ cs, 0 ≤ c) (hlen : r.kids ≠ none → ps.length = cs.length) (hbd : (r.items.length : Int) + cs.sum ≤ 1000000000000) (hpl : ps.length ≤ 1000000) :
    Calls Try.prog 98 #[.pointer (some ⟨n, 0, none⟩)] w (fun e w' => e = .returned (.tuple #[]) ∧ Ext S w S w' ∧ RepS E S w' (s.setNd n { r with count := r.items.length + cs.sum })) := by
  cases hks : r.kids with
  | none =>
    obtain rfl := h0 hks
    refine (count_leaf ((R.node hn).2 1 _ rfl) ((R.node hn).cell 2 rfl) (by have h := (R.node hn).cell 3 rfl; rw [hks] at h; exact h)).mono ?_
    rintro e w' ⟨rfl, hu⟩
    exact ⟨rfl, (Ext.refl S w).upd hu (.inl (R.inS_node hn)), by have h := R.set_count hn _ hu; rw [← hks]; simpa using h⟩
  | some k =>
    obtain ⟨hkk, hne⟩ := hk k hks
    obtain ⟨b, o, hb⟩ := R.kb_some hn hks (by rw [hkk]; cases ps with | nil => exact absurd rfl hne | cons _ _ => simp)
    have hkl : k.kids.length = ps.length := by rw [hkk, List.length_map]
    have hcap := (R.wf n r hn).2.2.2 k hks
    refine (count_inner (hd := k.hdr) (b := b) (o := o) (ib := r.ib) (len := r.items.length) (cap := r.icap) (kcap := k.cap) (ps := ps) (cs := cs) ((R.node hn).2 1 _ rfl) ((R.node hn).2 2 _ rfl) (by have h := (R.node hn).2 3 _ rfl; rw [hks] at h; exact h)
      (by have h := (R.hdr hn hks).2 0 _ rfl; rw [hb, hkl] at h; exact h) (fun j p hp => ?_) (fun j hj e => ?_) hcs (hlen (by rw [hks]; simp)) hbd hpl).mono ?_
    · obtain ⟨h1, rp, h2, h3⟩ := hps j p hp
      exact ⟨R.kid hn hks hb (by rw [hkk, List.getElem?_map, hp]; rfl), h1, rp.count, h3, (R.node h2).2 1 _ rfl⟩
    · have ha : chunk E s (.of n .arr) = some ⟨b, o, k.cap, k.kids.map pv⟩ := by rw [chunk_of E hn]; simp [chunkN, hks, hb]
      have hu : chunk E s (.of n .node) = some ⟨n, 0, 4, nodeCells r⟩ := by rw [chunk_of E hn]; rfl
      exact R.rep.off (.of n .arr) (.of n .node) _ _ (by simp) ha hu b (o + j) ⟨rfl, by show o ≤ o + j; omega, by show o + j < o + k.cap; omega⟩ ⟨e.1, by show 0 ≤ o + j; omega, by show o + j < 0 + 4; omega⟩
    · rintro e w' ⟨rfl, a, w1, rfl, hu⟩
      exact ⟨rfl, ((Ext.refl S w).upd hu (.inl (R.inS_node hn))).drewN a, by have h := (R.set_count hn _ hu).drewN a; rw [← hks]; exact h⟩

set_option maxHeartbeats 1000000 in
/-- 'DoorUpdateCount' -/
theorem doorCount_is (R : RepS E S w s) {n : Nat} {r : NodeR It} (hn : s.nd n = some r) {ps : List Nat} {cs : List Int} (hk : ∀ k, r.kids = some k → k.kids = ps.map some ∧ ps ≠ []) (h0 : r.kids = none → cs = [])
    (hps : ∀ (j p : Nat), ps[j]? = some p → p ≠ n ∧ ∃ rp, s.nd p = some rp ∧ cs[j]? = some rp.count) (hcs : ∀ c ∈ cs, 0 ≤ c) (hlen : r.kids ≠ none → ps.length = cs.length) (hbd : (r.items.length : Int) + cs.sum ≤ 1000000000000) (hpl : ps.length ≤ 1000000) :
    Calls Try.prog 87 #[dv n] w (fun e w' => e = .returned (.tuple #[]) ∧ Ext S w S w' ∧ RepS E S w' (s.setNd n { r with count := r.items.length + cs.sum })) := by
  have HE := hidp ((Ext.refl S w).alloc (.cells #[Value.pointer (some ⟨n, 0, none⟩)] 96))
  have HC := hidp (updCount_is (R.alloc (.cells #[Value.pointer (some ⟨n, 0, none⟩)] 96)) hn hk h0 hps hcs hlen hbd hpl)
  clear R hn hk h0 hps hcs hlen hbd hpl
  unfold dv
  go_enter Try.func87, Try.ntmps87
  go_wp2_with fail
  refine HC.out.mono ?_
  rintro e w2 ⟨rfl, hE2, R2⟩
  have HF := hidp (And.intro (HE.out.trans hE2) R2)
  clear hE2 R2 HC HE
  go_wp2
  go_end0
  exact ⟨rfl, HF.out.1, HF.out.2⟩

set_option maxHeartbeats 1000000 in
/-- 'DoorPlant' -/
theorem doorPlant_is (R : RepS E S w s) {n : Nat} {r : NodeR It} (hn : s.nd n = some r) :
    Calls Try.prog 76 #[.pointer (some ⟨s.m, 0, none⟩), dv n] w (fun e w' => e = .returned (.tuple #[]) ∧ Ext S w S w' ∧ RepS E S w' (s.setMp { s.mp with root := some n, count := r.count })) := by
  have hns : ¬ S w.heap.size := fun h => by have := R.rep.lt _ h; omega
  have R1 := R.alloc (.cells #[Value.pointer (some ⟨n, 0, none⟩)] 96)
  have hE1 := (Ext.refl S w).alloc (.cells #[Value.pointer (some ⟨n, 0, none⟩)] 96)
  have B1 := Bx.new w [Value.pointer (some ⟨n, 0, none⟩)] 96
  have hms := R.inS_map
  unfold dv
  generalize hw1 : w.alloc (.cells [Value.pointer (some ⟨n, 0, none⟩)].toArray 96) = w1 at R1 hE1 B1
  have hmn : ¬ s.m = n := fun e => R.node_ne_map hn e.symm
  have hmb : ¬ s.m = w.heap.size := fun e => hns (e ▸ hms)
  have hu1 := Upd.one w1 (b := s.m) (o := 2) (pv (some n)) (by rw [R1.map.2 2 _ rfl]; rfl)
  have R2 := R1.set_root (some n) hu1
  have hu2 := Upd.one (w1.setCell ⟨s.m, 2, none⟩ (pv (some n))) (b := s.m) (o := 3) (.int .i64 r.count) (by have h : M (w1.setCell ⟨s.m, 2, none⟩ (pv (some n))) s.m 3 = some (.int .i64 s.mp.count) := R2.map.2 3 _ rfl; rw [h]; rfl)
  have R3 := R2.set_mcount r.count hu2
  have HF := hidp (And.intro ((hE1.upd hu1 (.inl hms)).upd hu2 (.inl hms)) R3)
  obtain ⟨hmlt, _, _, m2, m3, _⟩ := mcell R1
  have f2 := R1.map.froz 2 rfl
  have f3 := R1.map.froz 3 rfl
  obtain ⟨_, _, n1, _⟩ := ncell R1 hn
  have d0 := B1.cell 0 rfl
  have HW := hidp hw1
  clear R R1 hE1 B1 hu1 hu2 R2 R3 hn hw1
  go_enter Try.func76, Try.ntmps76
  go_wp2_with fail
  rw [show w.alloc (.cells #[Value.pointer (some ⟨n, 0, none⟩)] 96) = w1 from HW.out]
  go_region
  go_wp2
  go_end0
  exact ⟨rfl, HF.out.1.drew, HF.out.2.drew⟩

set_option maxHeartbeats 1000000 in
/-- 'Height' -/
theorem height_tr (R : RepS E S w s) {h n : Nat} {t : BT It h} {ids : List Nat} {iso : Int} (hr : s.mp.root = some n) (T : Tr s.nd iso h n t ids) {mn mx lo : Nat} (hok : BT.ok mn mx lo h t) (hh : h ≤ 10000000) :
    Calls Try.prog 47 #[.pointer (some ⟨s.m, 0, none⟩)] w (fun e w' => e = .returned (.int .i64 ((h : Int) + 1)) ∧ w' = w) := by
  obtain ⟨_, _, _, m2, _⟩ := mcell R
  rw [hr] at m2
  have m2' : w.cell? ⟨s.m, 2, none⟩ = some (.pointer (some ⟨n, 0, none⟩)) := m2
  have HR := hidp R
  have HT : Hid (∃ (k : Nat) (t' : BT It k) (ids' : List Nat) (lo' : Nat), 0 + k = h ∧ Tr s.nd iso k n t' ids' ∧ BT.ok mn mx lo' k t') := hidp ⟨h, t, ids, lo, by omega, T, hok⟩
  clear R m2 hr T hok
  go_enter Try.func47, Try.ntmps47
  go_wp2
  go_loopw [3, 4] (fun a b wr => ∃ j q : Nat, j ≤ h ∧ a = .int .i64 j ∧ b = .pointer (some ⟨q, 0, none⟩) ∧ wr = w ∧ Hid (∃ (k : Nat) (t' : BT It k) (ids' : List Nat) (lo' : Nat), j + k = h ∧ Tr s.nd iso k q t' ids' ∧ BT.ok mn mx lo' k t')) (fun a _ _ => h - (intOf a).toNat)
  case atStart => exact ⟨0, n, by omega, rfl, rfl, rfl, HT⟩
  case round =>
    obtain ⟨j, q, hj, rfl, rfl, rfl, HQ⟩ := hrel
    obtain ⟨k, t', ids', lo', hjk, T', hok'⟩ := HQ.out
    cases k with
    | zero =>
      obtain ⟨_, r, hq, _, _, hk, _⟩ := T'
      have n3 := (ncell HR.out hq).2.2.2.2
      rw [hk] at n3
      have n3' : wr.cell? ⟨q, 3, none⟩ = some (pv none) := n3
      obtain rfl : j = h := by omega
      clear n3 hq hk
      go_wp2_with fail
      refine (leaf_raw n3').mono ?_
      rintro e w' ⟨rfl, rfl⟩
      go_wp2
      go_ret
      exact ⟨by first | rfl | go_num, rfl⟩
    | succ k =>
      obtain ⟨r, kk, ps, idss, hq, a2, a3, hk, a5, a6, a7, a8, a9, a10⟩ := T'
      have hkl := hok'.2.2.1
      obtain ⟨c, hc⟩ : ∃ c, t'.2[0]? = some c := ⟨_, List.getElem?_eq_getElem (by omega)⟩
      obtain ⟨p, hp⟩ := get_of_len a7.symm hc
      obtain ⟨is, his⟩ := get_of_len a8.symm hc
      obtain ⟨kb, ko, hkb⟩ := HR.out.kb_some hq hk (by intro e; rw [a5] at e; have h2 := congrArg List.length e; rw [List.length_map, List.length_nil] at h2; omega)
      have n3 := (ncell HR.out hq).2.2.2.2
      rw [hk] at n3
      have n3' : wr.cell? ⟨q, 3, none⟩ = some (pv (some kk.hdr)) := n3
      have n3'' : wr.cell? ⟨q, 3, none⟩ = some (.pointer (some ⟨kk.hdr, 0, none⟩)) := n3
      have nh := (HR.out.hdr hq hk).cell 0 rfl
      rw [hkb] at nh
      have nh' : wr.cell? ⟨kk.hdr, 0, none⟩ = some (.slice (some ⟨kb, ko, none⟩) kk.kids.length kk.cap) := nh
      have nk := M_cell (HR.out.kid hq hk hkb (i := 0) (p := some p) (by rw [a5, List.getElem?_map, hp]; rfl))
      have nk' : wr.cell? ⟨kb, ko, none⟩ = some (.pointer (some ⟨p, 0, none⟩)) := nk
      have hkl2 : 0 < kk.kids.length := by rw [a5, List.length_map]; omega
      have HN2 : Hid (∃ (k : Nat) (t' : BT It k) (ids' : List Nat) (lo' : Nat), (j + 1) + k = h ∧ Tr s.nd iso k p t' ids' ∧ BT.ok mn mx lo' k t') := hidp ⟨k, c, is, mn, by omega, a10 0 p c is hp hc his, hok'.2.2.2 c (List.mem_of_getElem? hc)⟩
      clear n3 nh nk hq hk hkb a2 a3 a5 a6 a9 a10 hok' hc hp his a7 a8 hkl HQ HT
      go_wp2_with fail
      refine (leaf_raw n3').mono ?_
      rintro e w' ⟨rfl, rfl⟩
      clear n3'
      go_wp2
      go_roundw
      case rel => exact ⟨j + 1, p, by omega, by go_num, rfl, by first | rfl | trivial, HN2⟩
      case measure => simp [intOf]; omega
/-- 'Height' of an empty map. -/
theorem height_nil (R : RepS E S w s) (hr : s.mp.root = none) :
    Calls Try.prog 47 #[.pointer (some ⟨s.m, 0, none⟩)] w (fun e w' => e = .returned (.int .i64 0) ∧ w' = w) := by
  obtain ⟨_, _, _, m2, _⟩ := mcell R
  rw [hr] at m2
  have m2' : w.cell? ⟨s.m, 2, none⟩ = some (.pointer none) := m2
  clear R m2 hr
  go_enter Try.func47, Try.ntmps47
  go_wp2
  go_ret
  exact ⟨rfl, by first | rfl | trivial⟩
end Go.Proofs.Ytehnobbiiokcgaa.Bt.II
