/- Maps of numbers (sets): an inner node is split. -/
import Derived.Test.YtbjhnefienjncaaBtIUc
namespace Go.Proofs.Ytbjhnefienjncaa.Bt.IU
set_option linter.unusedVariables false
set_option linter.unusedSimpArgs false
open Go Go.RowKit Go.Proofs.Ytbjhnefienjncaa.Bt

variable {S : Nat → Prop} {w : World} {s : Sto It}

set_option maxHeartbeats 4000000 in
set_option maxRecDepth 100000 in
theorem split_inner (R : RepS E S w s) {n : Nat} {r : NodeR It} (hn : s.nd n = some r) {k : KidR} (hk : r.kids = some k) {b o : Nat} (hb : r.ib = some (b, o)) {kb ko : Nat} (hkb : k.base = some (kb, ko)) {ps : List Nat} (hkk : k.kids = ps.map some) {cs : List Int}
    {L : Nat} (hL : r.items.length = L) (hps : ps.length = L + 1) (hcl : ps.length = cs.length) (hpc : ∀ (j p : Nat), ps[j]? = some p → p ≠ n ∧ ∃ rp, s.nd p = some rp ∧ cs[j]? = some rp.count) (hc0 : ∀ c ∈ cs, 0 ≤ c) (hcb : (L : Int) + cs.sum ≤ 1000000000000)
    (hmx : s.mp.mx = L) (hL3 : 3 ≤ L) (hL4 : L ≤ 100000) {md : It} (hmd : r.items[L / 2]? = some md) :
    Calls Try.prog 134 #[.pointer (some ⟨s.m, 0, none⟩), .pointer (some ⟨n, 0, none⟩)] w (fun e w' => ∃ q qh S', e = .returned (.tuple #[.pointer (some ⟨q, 0, none⟩), .agg #[Value.int .i64 md.1]]) ∧ w.heap.size ≤ q ∧ ¬ S q ∧ Ext S w S' w' ∧
      RepS E S' w' ((s.setNd n { r with items := r.items.take (L / 2), icap := L / 2, count := ((L / 2 : Nat) : Int) + (cs.take (L / 2 + 1)).sum, kids := some { k with cap := L / 2 + 1, kids := (ps.take (L / 2 + 1)).map some } }).setNd q
        ⟨s.mp.iso, ((L - 1 - L / 2 : Nat) : Int) + (cs.drop (L / 2 + 1)).sum, r.items.drop (L / 2 + 1), some (b, o + (L / 2 + 1)), r.icap - (L / 2 + 1), some ⟨qh, some (kb, ko + (L / 2 + 1)), k.cap - (L / 2 + 1), (ps.drop (L / 2 + 1)).map some⟩⟩)) := by
  obtain ⟨hmlt, m0, m1, m2, m3, m4, m5, m6, m7, m8, m9⟩ := mcell R
  obtain ⟨hnlt, n0, n1, n2, n3⟩ := ncell R hn
  obtain ⟨c1, c2⟩ := icell R hn hb hmd
  have hcap : L ≤ r.icap := by rw [← hL]; exact (R.wf n r hn).2.2.1
  have hkcap : L + 1 ≤ k.cap := by have := (R.wf n r hn).2.2.2 k hk; rw [hkk, List.length_map] at this; omega
  have n2' : w.cell? ⟨n, 2, none⟩ = some (.slice (some ⟨b, o, none⟩) L r.icap) := by rw [n2, hb, hL]; rfl
  have n3' : w.cell? ⟨n, 3, none⟩ = some (pv (some k.hdr)) := by rw [n3, hk]; rfl
  have hblt : b < w.heap.size := R.rep.lt b (R.inS_items hn hb)
  rw [hmx] at m7
  have HR := hidp R
  have HN := hidp hn
  have HK := hidp hk
  have HKB := hidp hkb
  have HKK := hidp hkk
  have HB := hidp hb
  have HL := hidp hL
  have HX := hidp hmx
  have HPS := hidp hps
  have HCL := hidp hcl
  have HPC := hidp hpc
  have HC0 := hidp hc0
  have HCB := hidp hcb
  have ei : (L : Int) / 2 = ((L / 2 : Nat) : Int) := by omega
  have hi1 : 0 < L / 2 := by omega
  have hi2 : L / 2 + 1 < L := by omega
  have hi3 : ((L / 2 : Nat) : Int) < (L : Int) := by omega
  clear R hn hk hb hL hmx n2 n3 hmd m1 m2 m3 m8 m9 hkb hkk hps hcl hpc hc0 hcb
  generalize hgi : L / 2 = i at *
  have HG := hidp hgi
  clear hgi
  go_enter Try.func134, Try.ntmps134
  go_wp2_with fail
  have hB0 := Bx.new w [Value.int .i64 md.1] 120
  refine (leaf_raw (p := some k.hdr) (by go_simp)).mono ?_
  rintro e w' ⟨rfl, rfl⟩
  go_wp2_with fail
  refine (newNode_inner (HR.out.alloc _)).mono ?_
  rintro e w1 ⟨q, qh, S1, rfl, hq1, hq2, hqh1, hqh2, hqhq, hE1, R1⟩
  have hns0 : ¬ S w.heap.size := fun h => by have := HR.out.rep.lt _ h; omega
  have hqn : q ≠ n := fun e => hq2 (by rw [e]; exact HR.out.inS_node HN.out)
  have hn1 : (s.setNd q ⟨s.mp.iso, 0, [], none, 0, some ⟨qh, none, 0, []⟩⟩).nd n = some r := by rw [Sto.nd_ne _ _ (Ne.symm hqn)]; exact HN.out
  have hqq : (s.setNd q ⟨s.mp.iso, 0, [], none, 0, some ⟨qh, none, 0, []⟩⟩).nd q = some ⟨s.mp.iso, 0, [], none, 0, some ⟨qh, none, 0, []⟩⟩ := Sto.nd_same _ _ _
  obtain ⟨_, _, _, a2, _⟩ := ncell R1 hn1
  obtain ⟨hqlt, _, _, q2, _⟩ := ncell R1 hqq
  rw [HB.out, HL.out] at a2
  have a2' : w1.cell? ⟨n, 2, none⟩ = some (.slice (some ⟨b, o, none⟩) L r.icap) := a2
  have q2' : w1.cell? ⟨q, 2, none⟩ = some (.slice none 0 0) := q2
  have q2f := (R1.node hqq).froz 2 (v := .slice none 0 0) rfl
  clear a2 q2
  go_wp2_with fail
  -- right.items = n.items[i+1:]
  have hu1 := Upd.one w1 (b := q) (o := 2) (.slice (some ⟨b, o + (i + 1), none⟩) (L - (i + 1)) (r.icap - (i + 1))) (by rw [M_of q2' q2f]; rfl)
  have g1 : chunk E (s.setNd q ⟨s.mp.iso, 0, [], none, 0, some ⟨qh, none, 0, []⟩⟩) (.of q .node) = some ⟨q, 0, 4, [.int .u64 s.mp.iso, .int .i64 0, sv none 0 0, pv (some qh)]⟩ := by rw [chunk_same]; rfl
  have gqh : chunk E (s.setNd q ⟨s.mp.iso, 0, [], none, 0, some ⟨qh, none, 0, []⟩⟩) (.of q .hdr) = some ⟨qh, 0, 1, [sv none 0 0]⟩ := by rw [chunk_same]; rfl
  have gn : chunk E (s.setNd q ⟨s.mp.iso, 0, [], none, 0, some ⟨qh, none, 0, []⟩⟩) (.of n .node) = some ⟨n, 0, 4, [.int .u64 r.iso, .int .i64 r.count, sv (some (b, o)) L r.icap, pv (some k.hdr)]⟩ := by
    rw [chunk_of E hn1]; simp only [chunkN, nodeCells, HB.out, HK.out, HL.out]; rfl
  have gi : chunk E (s.setNd q ⟨s.mp.iso, 0, [], none, 0, some ⟨qh, none, 0, []⟩⟩) (.of n .items) = some ⟨b, o, r.icap * 1, itemCells E r.items⟩ := by rw [chunk_of E hn1]; simp only [chunkN, HB.out]; rfl
  have gh : chunk E (s.setNd q ⟨s.mp.iso, 0, [], none, 0, some ⟨qh, none, 0, []⟩⟩) (.of n .hdr) = some ⟨k.hdr, 0, 1, [sv (some (kb, ko)) (L + 1) k.cap]⟩ := by
    rw [chunk_of E hn1]; simp only [chunkN, HK.out, Option.map_some, HKB.out, HKK.out, List.length_map, HPS.out]
  have ga : chunk E (s.setNd q ⟨s.mp.iso, 0, [], none, 0, some ⟨qh, none, 0, []⟩⟩) (.of n .arr) = some ⟨kb, ko, k.cap, (ps.map some).map pv⟩ := by
    rw [chunk_of E hn1]; simp only [chunkN, HK.out, Option.bind_some, HKB.out, Option.map_some, HKK.out]
  have gm : chunk E (s.setNd q ⟨s.mp.iso, 0, [], none, 0, some ⟨qh, none, 0, []⟩⟩) .mp = some ⟨s.m, 0, 9, mapCells E s.mp⟩ := rfl
  have gp : ∀ p, p ≠ n → p ≠ q → ∀ rp, s.nd p = some rp → chunk E (s.setNd q ⟨s.mp.iso, 0, [], none, 0, some ⟨qh, none, 0, []⟩⟩) (.of p .node) = some ⟨p, 0, 4, nodeCells rp⟩ := fun p _ hpq rp hp => by
    rw [chunk_of E (show (s.setNd q _).nd p = some rp by rw [Sto.nd_ne _ _ hpq]; exact hp)]; rfl
  have hpq : ∀ j p, ps[j]? = some p → p ≠ q := fun j p hp e => by
    obtain ⟨_, rp, hrp, _⟩ := HPC.out j p hp
    exact hq2 (by rw [← e]; exact HR.out.inS_node hrp)
  have HGP := hidp gp
  have HPQ := hidp hpq
  clear gp hpq
  have nq : ∀ x y, (Tag.of n x) ≠ .of q y := fun x y e => by simp [Ne.symm hqn] at e
  have mq : ∀ z y, Tag.mp ≠ .of z y := fun z y => by simp
  obtain ⟨G2, R2, x2, y2⟩ := R1.rep.store1e g1 hu1 rfl (j := 2) rfl (by simp)
  have hE2 := hE1.upd hu1 (.inr hq1)
  clear hu1 q2' q2f a2'
  generalize w1.setCell ⟨q, 2, none⟩ (.slice (some ⟨b, o + (i + 1), none⟩) (L - (i + 1)) (r.icap - (i + 1))) = w2 at R2 hE2
  have g2h := (y2 _ (nq _ _)).trans gh
  have g2n := (y2 _ (nq _ _)).trans gn
  have g2qh := (y2 (.of q .hdr) (by simp)).trans gqh
  have a3 : w2.cell? ⟨n, 3, none⟩ = some (pv (some k.hdr)) := M_cell (R2.val g2n (j := 3) rfl rfl rfl)
  refine (leaf_raw a3).mono ?_
  rintro e w' ⟨rfl, rfl⟩
  -- *right.children = (*n.children)[i+1:]
  have b3 : w2.cell? ⟨q, 3, none⟩ = some (.pointer (some ⟨qh, 0, none⟩)) := M_cell (R2.val x2 (j := 3) rfl rfl rfl)
  have a3' : w2.cell? ⟨n, 3, none⟩ = some (.pointer (some ⟨k.hdr, 0, none⟩)) := a3
  have ah : w2.cell? ⟨k.hdr, 0, none⟩ = some (.slice (some ⟨kb, ko, none⟩) (L + 1) k.cap) := M_cell (R2.val g2h (j := 0) rfl rfl rfl)
  have bh : M w2 qh 0 = some (.slice none 0 0) := R2.val g2qh (j := 0) rfl rfl rfl
  have bhc := M_cell bh
  have bhf := M_froz bh
  have hqhlt := M_lt bh
  have hkhlt : k.hdr < w2.heap.size := R2.lt _ (R2.ins _ _ g2h)
  have hu2 := Upd.one w2 (b := qh) (o := 0) (.slice (some ⟨kb, ko + (i + 1), none⟩) (L - i) (k.cap - (i + 1))) (by rw [bh]; rfl)
  clear a3 bh
  go_wp2_with fail
  go_region
  obtain ⟨G3, R3, x3, y3⟩ := R2.store1e g2qh hu2 rfl (j := 0) rfl (by simp)
  have hE3 := (hE2.upd hu2 (.inr hqh1)).drew
  have R3' := R3.drew
  have g3n := (y3 _ (nq _ _)).trans g2n
  have g3q := (y3 (.of q .node) (by simp)).trans x2
  have g3h := (y3 _ (nq _ _)).trans g2h
  have g3a := ((y3 _ (nq _ _)).trans (y2 _ (nq _ _))).trans ga
  have g3i := ((y3 _ (nq _ _)).trans (y2 _ (nq _ _))).trans gi
  have g3m := ((y3 _ (mq _ _)).trans (y2 _ (mq _ _))).trans gm
  have g3p : Hid (∀ p, p ≠ n → p ≠ q → ∀ rp, s.nd p = some rp → G3 (.of p .node) = some ⟨p, 0, 4, nodeCells rp⟩) := hidp (fun p h1 h2 rp hrp => by rw [y3 _ (by simp [h2]), y2 _ (by simp [h2])]; exact HGP.out p h1 h2 rp hrp)
  clear b3 a3' ah bhc bhf hqhlt hkhlt hu2 R2 hE2 R3
  generalize (w2.setCell ⟨qh, 0, none⟩ (.slice (some ⟨kb, ko + (i + 1), none⟩) (L - i) (k.cap - (i + 1)))).drew = w3 at R3' hE3
  go_wp2_with fail
  -- right.updateCount()
  have oq : ∀ {G : Tag → Option Ch} {w : World} {u : Nat} {cu : List Value}, Rep S1 w G → G (.of n .arr) = some ⟨kb, ko, k.cap, (ps.map some).map pv⟩ → G (.of u .node) = some ⟨u, 0, 4, cu⟩ → ∀ j, j < k.cap → ¬ (kb = u ∧ ko + j = 1) := fun R ha hu j hj e =>
    R.off (.of n .arr) (.of _ .node) _ _ (by simp) ha hu kb (ko + j) ⟨rfl, by show ko ≤ ko + j; omega, by show ko + j < ko + k.cap; omega⟩ ⟨e.1, by show 0 ≤ ko + j; omega, by show ko + j < 0 + 4; omega⟩
  have l1 : (ps.drop (i + 1)).length = L + 1 - (i + 1) := by rw [List.length_drop, HPS.out]
  refine (count_inner (hd := qh) (b := kb) (o := ko + (i + 1)) (ib := some (b, o + (i + 1))) (len := L - (i + 1)) (cap := r.icap - (i + 1)) (kcap := k.cap - (i + 1)) (ps := ps.drop (i + 1)) (cs := cs.drop (i + 1)) (R3'.val g3q (j := 1) rfl rfl rfl) (R3'.val g3q (j := 2) rfl rfl rfl) (R3'.val g3q (j := 3) rfl rfl rfl)
    (R3'.val x3 (j := 0) (by rw [show (ps.drop (i + 1)).length = L - i by rw [l1]; omega]; rfl) rfl rfl) (fun j p hp => ?_) (fun j hj => ?_) (fun c hc => HC0.out c (List.mem_of_mem_drop hc)) ?_ ?_ ?_).mono ?_
  · rw [List.getElem?_drop] at hp
    obtain ⟨hpn, rp, hrp, hcp⟩ := HPC.out _ p hp
    refine ⟨?_, HPQ.out _ p hp, rp.count, by rw [List.getElem?_drop]; exact hcp, R3'.val (g3p.out p hpn (HPQ.out _ p hp) rp hrp) (j := 1) rfl rfl rfl⟩
    exact R3'.val g3a (j := i + 1 + j) (by rw [List.getElem?_map, List.getElem?_map, hp]; rfl) rfl (by show ko + (i + 1) + j = ko + (i + 1 + j); omega)
  · have := oq R3' g3a g3q (i + 1 + j) (by omega)
    rwa [← Nat.add_assoc] at this
  · rw [List.length_drop, List.length_drop, HCL.out]
  · have h1 := sum_le cs (i + 1) HC0.out
    have h2 : cs.sum = (cs.take (i + 1)).sum + (cs.drop (i + 1)).sum := by rw [← List.sum_append_int, List.take_append_drop]
    have := HCB.out
    omega
  · omega
  rintro e w' ⟨rfl, dn, w4, rfl, hu3⟩
  obtain ⟨G4, R4, x4, y4⟩ := R3'.store1e g3q hu3 rfl (j := 1) rfl (by simp)
  have R4' := R4.drewN dn
  have hE4 := (hE3.upd hu3 (.inr hq1)).drewN dn
  have g4n := (y4 _ (nq _ _)).trans g3n
  have g4h := (y4 _ (nq _ _)).trans g3h
  have g4a := (y4 _ (nq _ _)).trans g3a
  have g4i := (y4 _ (nq _ _)).trans g3i
  have g4m := (y4 _ (mq _ _)).trans g3m
  have g4p : Hid (∀ p, p ≠ n → p ≠ q → ∀ rp, s.nd p = some rp → G4 (.of p .node) = some ⟨p, 0, 4, nodeCells rp⟩) := hidp (fun p h1 h2 rp hrp => by rw [y4 _ (by simp [h2])]; exact g3p.out p h1 h2 rp hrp)
  clear hu3 R3' hE3 R4
  generalize w4.drewN dn = w5 at R4' hE4
  -- n.items[i] = tr.empty
  have a2 : w5.cell? ⟨n, 2, none⟩ = some (.slice (some ⟨b, o, none⟩) L r.icap) := M_cell (R4'.val g4n (j := 2) rfl rfl rfl)
  have e4 : w5.cell? ⟨s.m, 4, none⟩ = some (Value.int .i64 0) := M_cell (R4'.val g4m (j := 4) rfl rfl rfl)
  have e5 : w5.cell? ⟨s.m, 4, none⟩ = some (Value.int .i64 0) := M_cell (R4'.val g4m (j := 4) rfl rfl rfl)
  have hin : (itemCells E r.items).length = L * 1 := by rw [itemCells_length, HL.out]; rfl
  have i0 : M w5 b (o + i) = (itemCells E r.items)[i]? := by
    have hv : (itemCells E r.items)[i]? = some ((itemCells E r.items)[i]'(by omega)) := List.getElem?_eq_getElem _
    rw [hv]
    exact R4'.val g4i (j := i) hv rfl rfl
  have i1 := i0
  rw [List.getElem?_eq_getElem (by omega)] at i0 i1
  have j0 := M_cell i0
  have j1 := M_cell i1
  have k0 := M_froz i0
  have k1 := M_froz i1
  have hu4 := Upd.one w5  (Value.int .i64 0) (by rw [i1]; rfl)
  generalize (itemCells E r.items)[i] = z0 at i0 i1 j0 j1
  have hE4b : b < w5.heap.size := R4'.lt b (R4'.ins _ _ g4i)
  clear i0 i1
  go_wp2_with fail
  go_region
  obtain ⟨G5, R5, x5, y5⟩ := R4'.storee g4i (j := i * 1) hu4 rfl (by show o + i = o + i * 1; rw [Nat.mul_one]) (by show i * 1 + 1 ≤ (itemCells E r.items).length; omega)
  have hbS : S b := HR.out.inS_items HN.out HB.out
  have hE5 := (hE4.upd hu4 (.inl (hE1.old _ hbS))).drew
  have R5' := R5.drew
  have g5n := (y5 (.of n .node) (by simp)).trans g4n
  have g5q := (y5 (.of q .node) (by simp)).trans x4
  have g5h := (y5 (.of n .hdr) (by simp)).trans g4h
  have g5a := (y5 (.of n .arr) (by simp)).trans g4a
  have g5p : Hid (∀ p, p ≠ n → p ≠ q → ∀ rp, s.nd p = some rp → G5 (.of p .node) = some ⟨p, 0, 4, nodeCells rp⟩) := hidp (fun p h1 h2 rp hrp => by rw [y5 _ (by simp)]; exact g4p.out p h1 h2 rp hrp)
  clear a2 e4 e5 j0 j1 k0 k1 hu4 hE4b R4' hE4 R5
  generalize (w5.setCell ⟨b, o + i, none⟩ (Value.int .i64 0)).drew = w6 at R5' hE5
  -- n.items = n.items[:i:i]
  have a2 : w6.cell? ⟨n, 2, none⟩ = some (.slice (some ⟨b, o, none⟩) L r.icap) := M_cell (R5'.val g5n (j := 2) rfl rfl rfl)
  have f2 := M_froz (R5'.val g5n (j := 2) (v := .slice (some ⟨b, o, none⟩) L r.icap) rfl (b := n) (o := 2) rfl rfl)
  have hu5 := Upd.one w6 (b := n) (o := 2) (.slice (some ⟨b, o, none⟩) i i) (by rw [M_of a2 f2]; rfl)
  obtain ⟨G6, R6, x6, y6⟩ := R5'.store1e g5n hu5 rfl (j := 2) rfl (by simp)
  have hnS : S n := HR.out.inS_node HN.out
  have hE6 := hE5.upd hu5 (.inl (hE1.old _ hnS))
  have hnlt6 : n < w6.heap.size := R5'.lt n (R5'.ins _ _ g5n)
  have g6h := (y6 (.of n .hdr) (by simp)).trans g5h
  have g6a := (y6 (.of n .arr) (by simp)).trans g5a
  have g6p : Hid (∀ p, p ≠ n → p ≠ q → ∀ rp, s.nd p = some rp → G6 (.of p .node) = some ⟨p, 0, 4, nodeCells rp⟩) := hidp (fun p h1 h2 rp hrp => by rw [y6 _ (by simp [h1])]; exact g5p.out p h1 h2 rp hrp)
  clear hu5 R5' hE5
  go_wp2_with fail
  clear a2 f2 hnlt6
  generalize w6.setCell ⟨n, 2, none⟩ (.slice (some ⟨b, o, none⟩) i i) = w7 at R6 hE6
  have a3 : w7.cell? ⟨n, 3, none⟩ = some (pv (some k.hdr)) := M_cell (R6.val x6 (j := 3) rfl rfl rfl)
  refine (leaf_raw a3).mono ?_
  rintro e w' ⟨rfl, rfl⟩
  -- *n.children = (*n.children)[:i+1:i+1]
  have a3' : w7.cell? ⟨n, 3, none⟩ = some (.pointer (some ⟨k.hdr, 0, none⟩)) := a3
  have ah : w7.cell? ⟨k.hdr, 0, none⟩ = some (.slice (some ⟨kb, ko, none⟩) (L + 1) k.cap) := M_cell (R6.val g6h (j := 0) rfl rfl rfl)
  have af := M_froz (R6.val g6h (j := 0) (v := .slice (some ⟨kb, ko, none⟩) (L + 1) k.cap) rfl (b := k.hdr) (o := 0) rfl rfl)
  have hkhlt : k.hdr < w7.heap.size := R6.lt _ (R6.ins _ _ g6h)
  have hu6 := Upd.one w7 (b := k.hdr) (o := 0) (.slice (some ⟨kb, ko, none⟩) (i + 1) (i + 1)) (by rw [M_of ah af]; rfl)
  obtain ⟨G7, R7, x7, y7⟩ := R6.store1e g6h hu6 rfl (j := 0) rfl (by simp)
  have R7' := R7.drew
  have hhS : S k.hdr := HR.out.inS_hdr HN.out HK.out
  have hE7 := (hE6.upd hu6 (.inl (hE1.old _ hhS))).drew
  clear a3 hu6 R6 hE6 R7
  go_wp2_with fail
  go_region
  clear a3' ah af hkhlt
  generalize (w7.setCell ⟨k.hdr, 0, none⟩ (.slice (some ⟨kb, ko, none⟩) (i + 1) (i + 1))).drew = w8 at R7' hE7
  go_wp2_with fail
  -- n.updateCount()
  have g7n := (y7 (.of n .node) (by simp)).trans x6
  have g7a := (y7 (.of n .arr) (by simp)).trans g6a
  have g7p : Hid (∀ p, p ≠ n → p ≠ q → ∀ rp, s.nd p = some rp → G7 (.of p .node) = some ⟨p, 0, 4, nodeCells rp⟩) := hidp (fun p h1 h2 rp hrp => by rw [y7 _ (by simp)]; exact g6p.out p h1 h2 rp hrp)
  have l2 : (ps.take (i + 1)).length = i + 1 := by rw [List.length_take, HPS.out]; omega
  refine (count_inner (hd := k.hdr) (b := kb) (o := ko) (ib := some (b, o)) (len := i) (cap := i) (kcap := i + 1) (ps := ps.take (i + 1)) (cs := cs.take (i + 1)) (R7'.val g7n (j := 1) rfl rfl rfl) (R7'.val g7n (j := 2) rfl rfl rfl) (R7'.val g7n (j := 3) rfl rfl rfl)
    (R7'.val x7 (j := 0) (by rw [l2]; rfl) rfl rfl) (fun j p hp => ?_) (fun j hj => ?_) (fun c hc => HC0.out c (List.mem_of_mem_take hc)) ?_ ?_ ?_).mono ?_
  · have hj := (List.getElem?_eq_some_iff.1 hp).1
    rw [l2] at hj
    rw [List.getElem?_take_of_lt hj] at hp
    obtain ⟨hpn, rp, hrp, hcp⟩ := HPC.out _ p hp
    refine ⟨?_, hpn, rp.count, by rw [List.getElem?_take_of_lt hj]; exact hcp, R7'.val (g7p.out p hpn (HPQ.out _ p hp) rp hrp) (j := 1) rfl rfl rfl⟩
    exact R7'.val g7a (j := j) (by rw [List.getElem?_map, List.getElem?_map, hp]; rfl) rfl rfl
  · rw [l2] at hj
    exact oq R7' g7a g7n j (by omega)
  · rw [List.length_take, List.length_take, HCL.out]
  · have h1 := sum_le cs (i + 1) HC0.out
    have := HCB.out
    omega
  · omega
  rintro e w' ⟨rfl, dm, w9, rfl, hu7⟩
  obtain ⟨G8, R8, x8, y8⟩ := R7'.store1e g7n hu7 rfl (j := 1) rfl (by simp)
  have R8' := R8.drewN dm
  have hE8 := (hE7.upd hu7 (.inl (hE1.old _ hnS))).drewN dm
  clear hu7 R7' hE7 R8
  generalize w9.drewN dm = wa at R8' hE8
  have hB9 := hE8.bx hB0 hns0
  have d0 := hB9.cell 0 rfl
  have d1 := hB9.cell 0 rfl
  have df0 := hB9.froz 0 (v := Value.int .i64 md.1) rfl
  have df1 := hB9.froz 0 (v := Value.int .i64 md.1) rfl
  have hu8 := Upd.one wa (b := w.heap.size) (o := 0) (Value.int .i64 md.1) (by rw [M_of d1 df1]; rfl)
  go_wp2_with fail
  go_region
  go_wp2
  have hns9 : ¬ S1 w.heap.size := hE8.notin (by simp) hns0
  have R9 := (R8'.upd_out hu8 hns9).drew
  have hE9 := (((Ext.refl S w).alloc (.cells #[Value.int .i64 md.1] 120)).trans hE8).upd hu8 (.inr (Nat.le_refl _)) |>.drew
  refine bodyPost_ret (v := .tuple #[.pointer (some ⟨q, 0, none⟩), .agg #[Value.int .i64 md.1]]) (by simp [results, Try.results134, go_sem, d0, d1]) rfl ?_
  have hwf := HR.out.wf n r HN.out
  have hil : i < r.items.length := by rw [HL.out]; omega
  have g8i : G8 (.of n .items) = some ⟨b, o, r.icap * E.sz, itemCells E (r.items.take i) ++ [Value.int .i64 0] ++ itemCells E (r.items.drop (i + 1))⟩ := by
    rw [y8 _ (by simp), y7 _ (by simp), y6 _ (by simp), x5, ← itemCells_take, ← itemCells_drop]
    rw [show (i + 1) * E.sz = i * 1 + [Value.int .i64 0].length by show (i + 1) * 1 = i * 1 + 1; omega]; rfl
  have R10 := R9.cut_items (x := .of n .items) (y := .of q .items) (by simp [Ne.symm hqn]) g8i rfl hil (by rw [HL.out]; exact hcap)
  have g8a : G8 (.of n .arr) = some ⟨kb, ko, k.cap, (ps.map some).map pv⟩ := by rw [y8 _ (by simp), g7a]
  have R11 := R10.cut_arr (x := .of n .arr) (y := .of q .arr) (i := i + 1) (by simp [Ne.symm hqn]) (by rw [upc_ne _ _ (by simp), upc_ne _ _ (by simp)]; exact g8a) (by rw [List.length_map, HPS.out]; omega) (by rw [List.length_map, HPS.out]; exact hkcap)
  have hq1' : w.heap.size ≤ q := by simp at hq1; omega
  have e1 : G8 (.of q .node) = some ⟨q, 0, 4, nodeCells (I := It) ⟨s.mp.iso, ((L - 1 - i : Nat) : Int) + (cs.drop (i + 1)).sum, r.items.drop (i + 1), some (b, o + (i + 1)), r.icap - (i + 1), some ⟨qh, some (kb, ko + (i + 1)), k.cap - (i + 1), (ps.drop (i + 1)).map some⟩⟩⟩ := by
    rw [y8 _ (by simp [hqn]), y7 _ (by simp), y6 _ (by simp [hqn]), g5q]
    simp only [nodeCells, List.length_drop, HL.out]
    rw [show L - 1 - i = L - (i + 1) by omega]; rfl
  have e2 : G8 (.of q .hdr) = some ⟨qh, 0, 1, [sv (some (kb, ko + (i + 1))) ((ps.drop (i + 1)).map some).length (k.cap - (i + 1))]⟩ := by
    rw [y8 _ (by simp), y7 _ (by simp [hqn]), y6 _ (by simp), y5 _ (by simp), y4 _ (by simp), x3, List.length_map, l1]
    rw [show L + 1 - (i + 1) = L - i by omega]; rfl
  have e3 : G8 (.of n .node) = some ⟨n, 0, 4, nodeCells { r with items := r.items.take i, icap := i, count := (i : Int) + (cs.take (i + 1)).sum, kids := some { k with cap := i + 1, kids := (ps.take (i + 1)).map some } }⟩ := by
    rw [x8]
    simp only [nodeCells, List.length_take, HL.out, HB.out]
    rw [Nat.min_eq_left (by omega)]; rfl
  have e4 : G8 (.of n .hdr) = some ⟨k.hdr, 0, 1, [sv (some (kb, ko)) ((ps.take (i + 1)).map some).length (i + 1)]⟩ := by
    rw [y8 _ (by simp), x7, List.length_map, l2]; rfl
  have e5 : ∀ t, (∀ p, t ≠ .of q p) → (∀ p, t ≠ .of n p) → G8 t = chunk E s t := fun t hq hn => by
    rw [y8 _ (hn _), y7 _ (hn _), y6 _ (hn _), y5 _ (hn _), y4 _ (hq _), y3 _ (hq _), y2 _ (hq _), chunk_ne E _ _ hq]
  clear x8 y8 x7 y7 x6 y6 x5 y5 x4 y4 x3 y3 x2 y2 g5n g5q g5h g5a g5p g6h g6a g6p g7n g7a g7p R9 R10
  refine ⟨q, qh, S1, rfl, hq1', hq2, hE9, R11.congr (fun t => ?_), fun kk rk hk => ?_, ((HR.out.tyf hE9.fr).set ?_).set ?_⟩
  · by_cases htq : ∃ p, t = .of q p
    · obtain ⟨p, rfl⟩ := htq
      rw [chunk_same]
      cases p with
      | node => rw [upc_ne _ _ (by simp), upc_ne _ _ (by simp), upc_ne _ _ (by simp), upc_ne _ _ (by simp), e1]; rfl
      | items => rw [upc_ne _ _ (by simp), upc_ne _ _ (by simp), upc_same, show (i + 1) * E.sz = i + 1 from Nat.mul_one _]; rfl
      | hdr => rw [upc_ne _ _ (by simp), upc_ne _ _ (by simp), upc_ne _ _ (by simp), upc_ne _ _ (by simp), e2]; rfl
      | arr => rw [upc_same]; simp only [chunkN, Option.bind_some, Option.map_some, List.map_drop]
    · have htq' : ∀ p, t ≠ .of q p := fun p e => htq ⟨p, e⟩
      rw [chunk_ne E _ _ htq', upc_ne _ _ (htq' _)]
      by_cases htn : ∃ p, t = .of n p
      · obtain ⟨p, rfl⟩ := htn
        rw [chunk_same]
        cases p with
        | node => rw [upc_ne _ _ (by simp), upc_ne _ _ (by simp), upc_ne _ _ (by simp), e3]; rfl
        | items => rw [upc_ne _ _ (by simp), upc_ne _ _ (by simp [Ne.symm hqn]), upc_same]; simp only [chunkN, HB.out]; rfl
        | hdr => rw [upc_ne _ _ (by simp), upc_ne _ _ (by simp), upc_ne _ _ (by simp), e4]; simp only [chunkN, Option.map_some, HKB.out]
        | arr => rw [upc_same]; simp only [chunkN, Option.bind_some, HKB.out, Option.map_some, List.map_take]
      · have htn' : ∀ p, t ≠ .of n p := fun p e => htn ⟨p, e⟩
        rw [chunk_ne E _ _ htn', upc_ne _ _ (htn' _), upc_ne _ _ (htq' _), upc_ne _ _ (htn' _), e5 t htq' htn']
  · rw [Sto.nd_setNd] at hk
    split at hk
    · obtain rfl := Option.some.inj hk
      refine ⟨(fun h => absurd h (by simp)), (fun k' h hb' => ?_), (by show (r.items.drop (i + 1)).length ≤ r.icap - (i + 1); rw [List.length_drop, HL.out]; omega), (fun k' h => ?_)⟩
      · obtain rfl := Option.some.inj h
        exact absurd hb' (by simp)
      · obtain rfl := Option.some.inj h
        show ((ps.drop (i + 1)).map some).length ≤ k.cap - (i + 1)
        rw [List.length_map, l1]; omega
    · rw [Sto.nd_setNd] at hk
      split at hk
      · obtain rfl := Option.some.inj hk
        refine ⟨(fun h => absurd (HB.out.symm.trans h) (by simp)), (fun k' h hb' => ?_), (by show (r.items.take i).length ≤ i; rw [List.length_take]; omega), (fun k' h => ?_)⟩
        · obtain rfl := Option.some.inj h
          exact absurd (HKB.out.symm.trans hb') (by simp)
        · obtain rfl := Option.some.inj h
          show ((ps.take (i + 1)).map some).length ≤ i + 1
          rw [List.length_map, l2]; exact Nat.le_refl _
      · exact HR.out.wf kk rk hk
  · exact fun p hp => (HR.out.tyf hE9.fr).2 n r HN.out p hp
  · intro p hp
    obtain rfl := Option.some.inj hp
    exact (HR.out.tyf hE9.fr).2 n r HN.out (b, o) HB.out
end Go.Proofs.Ytbjhnefienjncaa.Bt.IU
