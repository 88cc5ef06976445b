/- Maps of numbers (sets): a node is split. -/
import Derived.Test.YtbjhnefienjncaaBtIUb
namespace Go.Proofs.Ytbjhnefienjncaa.Bt.IU
set_option linter.unusedVariables false
set_option linter.unusedSimpArgs false
open Go Go.RowKit Go.Proofs.Ytbjhnefienjncaa.Bt

variable {S : Nat → Prop} {w : World} {s : Sto It}

set_option maxHeartbeats 1000000 in
set_option maxRecDepth 100000 in
theorem split_leaf (R : RepS E S w s) {n : Nat} {r : NodeR It} (hn : s.nd n = some r) (hk : r.kids = none) {b o : Nat} (hb : r.ib = some (b, o)) {L : Nat} (hL : r.items.length = L) (hmx : s.mp.mx = L) (hL3 : 3 ≤ L) (hL4 : L ≤ 1000000) {md : It} (hmd : r.items[L / 2]? = some md) :
    Calls Try.prog 134 #[.pointer (some ⟨s.m, 0, none⟩), .pointer (some ⟨n, 0, none⟩)] w (fun e w' => ∃ q S', e = .returned (.tuple #[.pointer (some ⟨q, 0, none⟩), .agg #[Value.int .i64 md.1]]) ∧ w.heap.size ≤ q ∧ ¬ S q ∧ Ext S w S' w' ∧
      RepS E S' w' ((s.setNd n { r with items := r.items.take (L / 2), icap := L / 2, count := (L / 2 : Nat) }).setNd q ⟨s.mp.iso, ((L - 1 - L / 2 : Nat) : Int), r.items.drop (L / 2 + 1), some (b, o + (L / 2 + 1)), r.icap - (L / 2 + 1), none⟩)) := by
  obtain ⟨hmlt, m0, m1, m2, m3, m4, m5, m6, m7, m8, m9⟩ := mcell R
  obtain ⟨hnlt, n0, n1, n2, n3⟩ := ncell R hn
  obtain ⟨c1, c2⟩ := icell R hn hb hmd
  have hcap : L ≤ r.icap := by rw [← hL]; exact (R.wf n r hn).2.2.1
  have n2' : w.cell? ⟨n, 2, none⟩ = some (.slice (some ⟨b, o, none⟩) L r.icap) := by rw [n2, hb, hL]; rfl
  have n3' : w.cell? ⟨n, 3, none⟩ = some (pv none) := by rw [n3, hk]; rfl
  have hblt : b < w.heap.size := R.rep.lt b (R.inS_items hn hb)
  rw [hmx] at m7
  have HR := hidp R
  have HN := hidp hn
  have HK := hidp hk
  have HB := hidp hb
  have HL := hidp hL
  have HX := hidp hmx
  have ei : (L : Int) / 2 = ((L / 2 : Nat) : Int) := by omega
  have hi1 : 0 < L / 2 := by omega
  have hi2 : L / 2 + 1 < L := by omega
  have hi3 : ((L / 2 : Nat) : Int) < (L : Int) := by omega
  clear R hn hk hb hL hmx n2 n3 hmd m1 m2 m3 m8 m9
  generalize hgi : L / 2 = i at *
  have HG := hidp hgi
  clear hgi
  go_enter Try.func134, Try.ntmps134
  go_wp2_with fail
  have hB0 := Bx.new w [Value.int .i64 md.1] 120
  refine (leaf_raw (p := none) (by go_simp)).mono ?_
  rintro e w' ⟨rfl, rfl⟩
  go_wp2_with fail
  refine (newNode_leaf (HR.out.alloc _)).mono ?_
  rintro e w1 ⟨q, S1, rfl, hq1, hq2, hE1, R1⟩
  have hns0 : ¬ S w.heap.size := fun h => by have := HR.out.rep.lt _ h; omega
  have hB1 := hE1.bx hB0 hns0
  have hqn : q ≠ n := fun e => hq2 (by rw [e]; exact HR.out.inS_node HN.out)
  have hn1 : (s.setNd q ⟨s.mp.iso, 0, [], none, 0, none⟩).nd n = some r := by rw [Sto.nd_ne _ _ (Ne.symm hqn)]; exact HN.out
  have hqq : (s.setNd q ⟨s.mp.iso, 0, [], none, 0, none⟩).nd q = some ⟨s.mp.iso, 0, [], none, 0, none⟩ := Sto.nd_same _ _ _
  obtain ⟨_, _, _, a2, a3⟩ := ncell R1 hn1
  obtain ⟨hqlt, _, q1, q2, q3⟩ := ncell R1 hqq
  rw [HB.out, HL.out] at a2
  have a2' : w1.cell? ⟨n, 2, none⟩ = some (.slice (some ⟨b, o, none⟩) L r.icap) := a2
  have q2' : w1.cell? ⟨q, 2, none⟩ = some (.slice none 0 0) := q2
  have q2f := (R1.node hqq).froz 2 (v := .slice none 0 0) rfl
  clear a2 q2
  go_wp2_with fail
  -- right.items = n.items[i+1:]
  have hu1 := Upd.one w1 (b := q) (o := 2) (.slice (some ⟨b, o + (i + 1), none⟩) (L - (i + 1)) (r.icap - (i + 1))) (by rw [M_of q2' q2f]; rfl)
  have g1 : chunk E (s.setNd q ⟨s.mp.iso, 0, [], none, 0, none⟩) (.of q .node) = some ⟨q, 0, 4, [.int .u64 s.mp.iso, .int .i64 0, sv none 0 0, pv none]⟩ := by rw [chunk_same]; rfl
  have gn : chunk E (s.setNd q ⟨s.mp.iso, 0, [], none, 0, none⟩) (.of n .node) = some ⟨n, 0, 4, [.int .u64 r.iso, .int .i64 r.count, sv (some (b, o)) L r.icap, pv none]⟩ := by
    rw [chunk_of E hn1]; simp only [chunkN, nodeCells, HB.out, HK.out, HL.out]; rfl
  have gi : chunk E (s.setNd q ⟨s.mp.iso, 0, [], none, 0, none⟩) (.of n .items) = some ⟨b, o, r.icap * 1, itemCells E r.items⟩ := by rw [chunk_of E hn1]; simp only [chunkN, HB.out]; rfl
  have gm : chunk E (s.setNd q ⟨s.mp.iso, 0, [], none, 0, none⟩) .mp = some ⟨s.m, 0, 9, mapCells E s.mp⟩ := rfl
  have nq : (Tag.of n .node) ≠ .of q .node := by simp [Ne.symm hqn]
  have iq : (Tag.of n .items) ≠ .of q .node := by simp
  have ni : (Tag.of n .node) ≠ .of n .items := by simp
  have mq : Tag.mp ≠ .of q .node := by simp
  have mi : Tag.mp ≠ .of n .items := by simp
  obtain ⟨G2, R2, x2, y2⟩ := R1.rep.store1e g1 hu1 rfl (j := 2) rfl (by simp)
  have hE2 := hE1.upd hu1 (.inr hq1)
  clear hu1 q2' q2f a2' a3 q1 q3
  generalize w1.setCell ⟨q, 2, none⟩ (.slice (some ⟨b, o + (i + 1), none⟩) (L - (i + 1)) (r.icap - (i + 1))) = w2 at R2 hE2
  have a3 : w2.cell? ⟨n, 3, none⟩ = some (pv none) := M_cell (R2.val ((y2 _ nq).trans gn) (j := 3) rfl rfl rfl)
  refine (leaf_raw a3).mono ?_
  rintro e w' ⟨rfl, rfl⟩
  go_wp2_with fail
  refine (count_leaf (ib := some (b, o + (i + 1))) (len := L - (i + 1)) (R2.val x2 (j := 1) rfl rfl rfl) (M_cell (R2.val x2 (j := 2) rfl rfl rfl)) (M_cell (R2.val x2 (j := 3) rfl rfl rfl))).mono ?_
  rintro e w3 ⟨rfl, hu2⟩
  obtain ⟨G3, R3, x3, y3⟩ := R2.store1e x2 hu2 rfl (j := 1) rfl (by simp)
  have hE3 := hE2.upd hu2 (.inr hq1)
  have g3n := ((y3 _ nq).trans (y2 _ nq)).trans gn
  have g3i := ((y3 _ iq).trans (y2 _ iq)).trans gi
  have g3m := ((y3 _ mq).trans (y2 _ mq)).trans gm
  clear a3 hu2 R2 hE2
  -- n.items[i] = tr.empty
  have a2 : w3.cell? ⟨n, 2, none⟩ = some (.slice (some ⟨b, o, none⟩) L r.icap) := M_cell (R3.val g3n (j := 2) rfl rfl rfl)
  have e4 : w3.cell? ⟨s.m, 4, none⟩ = some (Value.int .i64 0) := M_cell (R3.val g3m (j := 4) rfl rfl rfl)
  have e5 : w3.cell? ⟨s.m, 4, none⟩ = some (Value.int .i64 0) := M_cell (R3.val g3m (j := 4) rfl rfl rfl)
  have hin : (itemCells E r.items).length = L * 1 := by rw [itemCells_length, HL.out]; rfl
  have i0 : M w3 b (o + i) = (itemCells E r.items)[i]? := by
    have hv : (itemCells E r.items)[i]? = some ((itemCells E r.items)[i]'(by omega)) := List.getElem?_eq_getElem _
    rw [hv]
    exact R3.val g3i (j := i) hv rfl rfl
  have i1 := i0
  rw [List.getElem?_eq_getElem (by omega)] at i0 i1
  have j0 := M_cell i0
  have j1 := M_cell i1
  have k0 := M_froz i0
  have k1 := M_froz i1
  have hu3 := Upd.one w3  (Value.int .i64 0) (by rw [i1]; rfl)
  generalize (itemCells E r.items)[i] = z0 at i0 i1 j0 j1
  have hE3b : b < w3.heap.size := R3.lt b (R3.ins _ _ g3i)
  clear i0 i1
  go_wp2_with fail
  go_region
  obtain ⟨G4, R4, x4, y4⟩ := R3.storee g3i (j := i * 1) hu3 rfl (by show o + i = o + i * 1; rw [Nat.mul_one]) (by show i * 1 + 1 ≤ (itemCells E r.items).length; omega)
  have hbS : S b := HR.out.inS_items HN.out HB.out
  have hE4 := (hE3.upd hu3 (.inl (hE1.old _ hbS)))
  have g4n := (y4 _ ni).trans g3n
  have g4q := (y4 _ (Ne.symm iq)).trans x3
  have g4m := (y4 _ mi).trans g3m
  have R4' := R4.drew
  have hE4' := hE4.drew
  clear a2 e4 e5 j0 j1 k0 k1 hu3 R3 hE3 hE3b R4 hE4
  generalize (w3.setCell ⟨b, o + i, none⟩ (Value.int .i64 0)).drew = w4 at R4' hE4'
  -- n.items = n.items[:i:i]
  have a2 : w4.cell? ⟨n, 2, none⟩ = some (.slice (some ⟨b, o, none⟩) L r.icap) := M_cell (R4'.val g4n (j := 2) rfl rfl rfl)
  have f2 := M_froz (R4'.val g4n (j := 2) (v := .slice (some ⟨b, o, none⟩) L r.icap) rfl (b := n) (o := 2) rfl rfl)
  have hu4 := Upd.one w4 (b := n) (o := 2) (.slice (some ⟨b, o, none⟩) i i) (by rw [M_of a2 f2]; rfl)
  obtain ⟨G5, R5, x5, y5⟩ := R4'.store1e g4n hu4 rfl (j := 2) rfl (by simp)
  have hnS : S n := HR.out.inS_node HN.out
  have hE5 := hE4'.upd hu4 (.inl (hE1.old _ hnS))
  have hnlt4 : n < w4.heap.size := R4'.lt n (R4'.ins _ _ g4n)
  clear hu4 R4' hE4'
  go_wp2_with fail
  clear a2 f2
  generalize w4.setCell ⟨n, 2, none⟩ (.slice (some ⟨b, o, none⟩) i i) = w5 at R5 hE5
  have a3 : w5.cell? ⟨n, 3, none⟩ = some (pv none) := M_cell (R5.val x5 (j := 3) rfl rfl rfl)
  refine (leaf_raw a3).mono ?_
  rintro e w' ⟨rfl, rfl⟩
  go_wp2_with fail
  refine (count_leaf (ib := some (b, o)) (len := i) (R5.val x5 (j := 1) rfl rfl rfl) (M_cell (R5.val x5 (j := 2) rfl rfl rfl)) a3).mono ?_
  rintro e w6 ⟨rfl, hu5⟩
  obtain ⟨G6, R6, x6, y6⟩ := R5.store1e x5 hu5 rfl (j := 1) rfl (by simp)
  have hE6 := hE5.upd hu5 (.inl (hE1.old _ hnS))
  clear a3 hu5 R5 hE5
  have hB6 := hE6.bx hB0 hns0
  have d0 := hB6.cell 0 rfl
  have d1 := hB6.cell 0 rfl
  have df0 := hB6.froz 0 (v := Value.int .i64 md.1) rfl
  have df1 := hB6.froz 0 (v := Value.int .i64 md.1) rfl
  have hu6 := Upd.one w6 (b := w.heap.size) (o := 0) (Value.int .i64 md.1) (by rw [M_of d1 df1]; rfl)
  go_wp2_with fail
  go_region
  go_wp2
  have hns6 : ¬ S1 w.heap.size := hE6.notin (by simp) hns0
  have R7 := (R6.upd_out hu6 hns6).drew
  have hE7 := (((Ext.refl S w).alloc (.cells #[Value.int .i64 md.1] 120)).trans hE6).upd hu6 (.inr (Nat.le_refl _)) |>.drew
  refine bodyPost_ret (v := .tuple #[.pointer (some ⟨q, 0, none⟩), .agg #[Value.int .i64 md.1]]) (by simp [results, Try.results134, go_sem, d0, d1]) rfl ?_
  have hwf := HR.out.wf n r HN.out
  have hil : i < r.items.length := by rw [HL.out]; omega
  have hin' : (Tag.of n .items) ≠ .of n .node := by simp
  have g6i : G6 (.of n .items) = some ⟨b, o, r.icap * E.sz, itemCells E (r.items.take i) ++ [Value.int .i64 0] ++ itemCells E (r.items.drop (i + 1))⟩ := by
    rw [y6 _ hin', y5 _ hin', x4, ← itemCells_take, ← itemCells_drop]
    rw [show (i + 1) * E.sz = i * 1 + [Value.int .i64 0].length by show (i + 1) * 1 = i * 1 + 1; omega]; rfl
  have R8 := R7.cut_items (x := .of n .items) (y := .of q .items) (by simp [Ne.symm hqn]) g6i rfl hil (by rw [HL.out]; exact hcap)
  have hq1' : w.heap.size ≤ q := by simp at hq1; omega
  refine ⟨q, S1, rfl, hq1', hq2, hE7, R8.congr (fun t => ?_), fun k rk hk => ?_, ((HR.out.tyf hE7.fr).set ?_).set ?_⟩
  · by_cases htq : ∃ p, t = .of q p
    · obtain ⟨p, rfl⟩ := htq
      rw [chunk_same]
      cases p with
      | node =>
        rw [upc_ne _ _ (by simp), upc_ne _ _ (by simp [hqn]), y6 _ (by simp [hqn]), y5 _ (by simp [hqn]), g4q]
        simp only [chunkN, nodeCells, List.length_drop, HL.out]
        rw [show L - 1 - i = L - (i + 1) by omega]; rfl
      | items => rw [upc_same, show (i + 1) * E.sz = i + 1 from Nat.mul_one _]; rfl
      | hdr => rw [upc_ne _ _ (by simp), upc_ne _ _ (by simp [hqn]), y6 _ (by simp [hqn]), y5 _ (by simp [hqn]), y4 _ (by simp [hqn]), y3 _ (by simp), y2 _ (by simp), chunk_same]; rfl
      | arr => rw [upc_ne _ _ (by simp), upc_ne _ _ (by simp [hqn]), y6 _ (by simp [hqn]), y5 _ (by simp [hqn]), y4 _ (by simp [hqn]), y3 _ (by simp), y2 _ (by simp), chunk_same]; rfl
    · have htq' : ∀ p, t ≠ .of q p := fun p e => htq ⟨p, e⟩
      rw [chunk_ne E _ _ htq', upc_ne _ _ (htq' _)]
      by_cases htn : ∃ p, t = .of n p
      · obtain ⟨p, rfl⟩ := htn
        rw [chunk_same]
        cases p with
        | node =>
          rw [upc_ne _ _ (by simp), x6]
          simp only [chunkN, nodeCells, List.length_take, HL.out, HB.out, HK.out]
          rw [Nat.min_eq_left (by omega)]; rfl
        | items => rw [upc_same]; simp only [chunkN, HB.out]; rfl
        | hdr => rw [upc_ne _ _ (by simp), y6 _ (by simp), y5 _ (by simp), y4 _ (by simp), y3 _ (by simp), y2 _ (by simp), chunk_of E hn1]; simp [chunkN, HK.out]
        | arr => rw [upc_ne _ _ (by simp), y6 _ (by simp), y5 _ (by simp), y4 _ (by simp), y3 _ (by simp), y2 _ (by simp), chunk_of E hn1]; simp [chunkN, HK.out]
      · have htn' : ∀ p, t ≠ .of n p := fun p e => htn ⟨p, e⟩
        rw [chunk_ne E _ _ htn', upc_ne _ _ (htn' _), y6 _ (htn' _), y5 _ (htn' _), y4 _ (htn' _), y3 _ (htq' _), y2 _ (htq' _), chunk_ne E _ _ htq']
  · rw [Sto.nd_setNd] at hk
    split at hk
    · obtain rfl := Option.some.inj hk
      exact ⟨(fun h => absurd h (by simp)), (fun k h => absurd h (by simp)), (by show (r.items.drop (i + 1)).length ≤ r.icap - (i + 1); rw [List.length_drop, HL.out]; omega), (fun k h => absurd h (by simp))⟩
    · rw [Sto.nd_setNd] at hk
      split at hk
      · obtain rfl := Option.some.inj hk
        exact ⟨(fun h => absurd (HB.out.symm.trans h) (by simp)), hwf.2.1, (by show (r.items.take i).length ≤ i; rw [List.length_take]; omega), hwf.2.2.2⟩
      · exact HR.out.wf k rk hk
  · exact fun p hp => (HR.out.tyf hE7.fr).2 n r HN.out p hp
  · intro p hp
    obtain rfl := Option.some.inj hp
    exact (HR.out.tyf hE7.fr).2 n r HN.out (b, o) HB.out
end Go.Proofs.Ytbjhnefienjncaa.Bt.IU
