/- Maps of numbers (sets): an item is set in a node: the ways without a node below. -/
import Derived.Test.YtbjhnefienjncaaBtIUe
import Derived.Test.YtbjhnefienjncaaBtLast
namespace Go.Proofs.Ytbjhnefienjncaa.Bt.IU
set_option linter.unusedVariables false
set_option linter.unusedSimpArgs false
open Go Go.RowKit Go.Proofs.Ytbjhnefienjncaa.Bt
open Go.Proofs.Ytbjhnefienjncaa.Bt.Last (Y Z)
open _root_.List (setIfInBounds_toArray set_cons_zero set_cons_succ)

variable {S : Nat → Prop} {w : World} {s : Sto It}

set_option maxHeartbeats 1000000 in
set_option maxRecDepth 100000 in
/-- 'nodeSet' where the node has an item that is equal. -/
theorem nodeSet_found (R : RepS E S w s) {A : Addr} {n : Nat} {r : NodeR It} (hA : w.cell? A = some (pv (some n))) (hn : s.nd n = some r) (hi : r.iso = s.mp.iso) (hs : Srt lt r.items) (hlen : r.items.length ≤ 100000) {x y : It} (hl : look lt r.items x = some y) :
    Calls Try.prog 133 #[.pointer (some ⟨s.m, 0, none⟩), .pointer (some A), .agg #[Value.int .i64 x.1]] w (fun e w' => e = .returned (.tuple #[Value.agg #[], .bool true, .bool false]) ∧ Ext S w S w' ∧ RepS E S w' (s.setNd n { r with items := r.items.set (pos lt r.items x) x })) := by
  have hAlt := World.block_lt_of_cell? w _ hA
  obtain ⟨h1, _, h3⟩ := look_some hl
  obtain ⟨b, o, hb⟩ := R.ib_some hn (fun e => by rw [e] at h3; simp at h3)
  have ef : fnd lt r.items x = true := fnd_some hl
  have hp1 : ((pos lt r.items x : Nat) : Int) < (r.items.length : Int) := by omega
  have HB := hidp hb
  have H1 := hidp h1
  clear hb h1 hl
  have HR := hidp R
  have HA := hidp hA
  have HN := hidp hn
  have HI := hidp hi
  have HS := hidp hs
  have HF := hidp ef
  clear R hA hn hi hs ef
  go_enter Try.func133, Try.ntmps133
  go_wp2_with fail
  have R1 := ((HR.out.alloc (.cells #[Value.int .i64 x.1] 120)).alloc (.cells #[] 82))
  refine (isoLoad_own R1 (A := A) ((World.cell?_alloc_lt _ _ _ (by simp; omega)).trans ((World.cell?_alloc_lt _ _ _ hAlt).trans HA.out)) HN.out HI.out true).mono ?_
  rintro e w' ⟨rfl, a1, rfl⟩
  go_wp2_with fail
  refine (search_is ((R1.drewN a1).alloc (.cells #[Value.pointer (some ⟨n, 0, none⟩)] 118)) HN.out HS.out (by omega) x).mono ?_
  rintro e w' ⟨rfl, a2, rfl⟩
  rw [HF.out]
  have R2 := ((R1.drewN a1).alloc (.cells #[Value.pointer (some ⟨n, 0, none⟩)] 118)).drewN a2
  have hE2 := (((((Ext.refl S w).alloc (.cells #[Value.int .i64 x.1] 120)).alloc (.cells #[] 82)).drewN a1).alloc (.cells #[Value.pointer (some ⟨n, 0, none⟩)] 118)).drewN a2
  have B5 := ((((Bx.new w [Value.int .i64 x.1] 120).alloc (.cells #[] 82)).drewN a1).alloc (.cells #[Value.pointer (some ⟨n, 0, none⟩)] 118)).drewN a2
  have B9 := (Bx.new (((w.alloc (.cells #[Value.int .i64 x.1] 120)).alloc (.cells #[] 82)).drewN a1) [Value.pointer (some ⟨n, 0, none⟩)] 118).drewN a2
  have hsz : (((w.alloc (.cells #[Value.int .i64 x.1] 120)).alloc (.cells #[] 82)).drewN a1).heap.size = w.heap.size + 2 := by simp [World.drewN]
  rw [hsz] at B9
  have hns5 : ¬ S w.heap.size := fun h => by have := HR.out.rep.lt _ h; omega
  have hns9 : ¬ S (w.heap.size + 2) := fun h => by have := HR.out.rep.lt _ h; omega
  clear R1 hsz
  generalize hgp : pos lt r.items x = i at *
  have HGP := hidp hgp
  clear hgp
  generalize hgw : ((((w.alloc (.cells #[Value.int .i64 x.1] 120)).alloc (.cells #[] 82)).drewN a1).alloc (.cells #[Value.pointer (some ⟨n, 0, none⟩)] 118)).drewN a2 = w2 at R2 hE2 B5 B9 ⊢
  clear hgw
  obtain ⟨_, _, _, n2, _⟩ := ncell R2 HN.out
  have n2' : w2.cell? ⟨n, 2, none⟩ = some (.slice (some ⟨b, o, none⟩) r.items.length r.icap) := by rw [n2, HB.out]; rfl
  obtain ⟨i1, i2⟩ := imem R2 HN.out HB.out H1.out
  have hu := Upd.one w2  (Value.int .i64 x.1) (by rw [i2]; rfl)
  have c1 := M_cell i1
  have c2 := M_cell i2
  have f1 := M_froz i1
  have f2 := M_froz i2
  have d1 := B5.cell 0 rfl
  have d2 := B5.cell 0 rfl
  have d3 := B9.cell 0 rfl
  have hblt : b < w2.heap.size := R2.rep.lt b (R2.inS_items HN.out HB.out)
  have hpa := part_item R2 HN.out HB.out (o + i)
  have R3 := R2.set_item HN.out HB.out (i := i) x h3 (by show _ = _ + _ * 1; rw [Nat.mul_one]) hu
  have hE3 := hE2.upd hu (.inl (HR.out.inS_items HN.out HB.out))
  have HR3 := hidp (And.intro hE3 R3)
  clear n2 i1 i2 hu R2 hE2 B5 B9 R3 hE3
  go_wp2_with fail
  go_region
  go_wp2
  refine bodyPost_ret (v := .tuple #[Value.agg #[], .bool true, .bool false]) (by simp [results, Try.results133, go_sem]) rfl ?_
  rw [HGP.out]
  exact ⟨rfl, HR3.out.1.drew, HR3.out.2.drew⟩

set_option maxHeartbeats 1000000 in
set_option maxRecDepth 100000 in
/-- 'nodeSet' at a leaf that is full. -/
theorem nodeSet_full (R : RepS E S w s) {A : Addr} {n : Nat} {r : NodeR It} (hA : w.cell? A = some (pv (some n))) (hn : s.nd n = some r) (hi : r.iso = s.mp.iso) (hs : Srt lt r.items) (hlen : r.items.length ≤ 100000) (hk : r.kids = none) (hmx : (r.items.length : Int) = s.mp.mx) {x : It} (hl : look lt r.items x = none) :
    Calls Try.prog 133 #[.pointer (some ⟨s.m, 0, none⟩), .pointer (some A), .agg #[Value.int .i64 x.1]] w (fun e w' => e = .returned (.tuple #[Value.agg #[], .bool false, .bool true]) ∧ Ext S w S w' ∧ RepS E S w' s) := by
  have hAlt := World.block_lt_of_cell? w _ hA
  have ef : fnd lt r.items x = false := fnd_none hl
  have HK := hidp hk
  have HX := hidp hmx
  clear hk hmx hl
  have HR := hidp R
  have HA := hidp hA
  have HN := hidp hn
  have HI := hidp hi
  have HS := hidp hs
  have HF := hidp ef
  clear R hA hn hi hs ef
  go_enter Try.func133, Try.ntmps133
  go_wp2_with fail
  have R1 := ((HR.out.alloc (.cells #[Value.int .i64 x.1] 120)).alloc (.cells #[] 82))
  refine (isoLoad_own R1 (A := A) ((World.cell?_alloc_lt _ _ _ (by simp; omega)).trans ((World.cell?_alloc_lt _ _ _ hAlt).trans HA.out)) HN.out HI.out true).mono ?_
  rintro e w' ⟨rfl, a1, rfl⟩
  go_wp2_with fail
  refine (search_is ((R1.drewN a1).alloc (.cells #[Value.pointer (some ⟨n, 0, none⟩)] 118)) HN.out HS.out (by omega) x).mono ?_
  rintro e w' ⟨rfl, a2, rfl⟩
  rw [HF.out]
  have R2 := ((R1.drewN a1).alloc (.cells #[Value.pointer (some ⟨n, 0, none⟩)] 118)).drewN a2
  have hE2 := (((((Ext.refl S w).alloc (.cells #[Value.int .i64 x.1] 120)).alloc (.cells #[] 82)).drewN a1).alloc (.cells #[Value.pointer (some ⟨n, 0, none⟩)] 118)).drewN a2
  have B5 := ((((Bx.new w [Value.int .i64 x.1] 120).alloc (.cells #[] 82)).drewN a1).alloc (.cells #[Value.pointer (some ⟨n, 0, none⟩)] 118)).drewN a2
  have B9 := (Bx.new (((w.alloc (.cells #[Value.int .i64 x.1] 120)).alloc (.cells #[] 82)).drewN a1) [Value.pointer (some ⟨n, 0, none⟩)] 118).drewN a2
  have hsz : (((w.alloc (.cells #[Value.int .i64 x.1] 120)).alloc (.cells #[] 82)).drewN a1).heap.size = w.heap.size + 2 := by simp [World.drewN]
  rw [hsz] at B9
  have hns5 : ¬ S w.heap.size := fun h => by have := HR.out.rep.lt _ h; omega
  have hns9 : ¬ S (w.heap.size + 2) := fun h => by have := HR.out.rep.lt _ h; omega
  clear R1 hsz
  generalize hgp : pos lt r.items x = i at *
  have HGP := hidp hgp
  clear hgp
  generalize hgw : ((((w.alloc (.cells #[Value.int .i64 x.1] 120)).alloc (.cells #[] 82)).drewN a1).alloc (.cells #[Value.pointer (some ⟨n, 0, none⟩)] 118)).drewN a2 = w2 at R2 hE2 B5 B9 ⊢
  clear hgw
  obtain ⟨hnlt, _, _, n2, n3⟩ := ncell R2 HN.out
  obtain ⟨hmlt, _, _, _, _, m4, _, _, m7, _, _⟩ := mcell R2
  have HPE : Hid (∀ k, (partAt ⟨s.m, 4, none⟩ 0 0).run Try.prog (w2.drewN k) = .ok ⟨s.m, 4, none⟩ (w2.drewN k)) := hidp fun k => part_empty (R2.drewN k)
  obtain ⟨ba, n2'⟩ : ∃ ba, w2.cell? ⟨n, 2, none⟩ = some (.slice ba r.items.length r.icap) := ⟨_, n2⟩
  have n3' : w2.cell? ⟨n, 3, none⟩ = some (pv none) := by rw [n3, HK.out]; rfl
  rw [← HX.out] at m7
  have d3 := B9.cell 0 rfl
  have HR3 := hidp (And.intro hE2 R2)
  clear n2 n3 R2 hE2 B5 B9
  go_wp2_with fail
  refine (leaf_raw n3').mono ?_
  rintro e w' ⟨rfl, rfl⟩
  go_wp2_with fail
  go_quiet (fail)
  have hpe := HPE.out nq
  go_wp2
  refine bodyPost_ret (v := .tuple #[Value.agg #[], .bool false, .bool true]) (by simp [results, Try.results133, go_sem]) rfl ?_
  exact ⟨rfl, HR3.out.1.drewN _, HR3.out.2.drewN _⟩

set_option maxHeartbeats 1000000 in
set_option maxRecDepth 100000 in
/-- 'nodeSet' at a leaf with room. -/
theorem nodeSet_new (R : RepS E S w s) {A : Addr} {n : Nat} {r : NodeR It} (hA : w.cell? A = some (pv (some n))) (hn : s.nd n = some r) (hi : r.iso = s.mp.iso) (hs : Srt lt r.items) (hlen : r.items.length ≤ 100000) (hk : r.kids = none) (hmx : (r.items.length : Int) < s.mp.mx) (hc0 : 0 ≤ r.count) (hc1 : r.count ≤ 100000000000) {x : It} (hl : look lt r.items x = none) :
    Calls Try.prog 133 #[.pointer (some ⟨s.m, 0, none⟩), .pointer (some A), .agg #[Value.int .i64 x.1]] w (fun e w' => e = .returned (.tuple #[Value.agg #[], .bool false, .bool false]) ∧ ∃ S' ib' cap', Ext S w S' w' ∧ RepS E S' w' (s.setNd n { r with items := put lt r.items x, ib := ib', icap := cap', count := r.count + 1 })) := by
  have hAlt := World.block_lt_of_cell? w _ hA
  have ef : fnd lt r.items x = false := fnd_none hl
  have hpl := pos_le (lt := lt) r.items x
  obtain ⟨i0, hi0, hz0, hz1, hz2⟩ := info_parts infoP
  have HI0 := hidp hi0
  have HZ0 := hidp hz0
  have HZ1 := hidp hz1
  have HZ2 := hidp hz2
  clear hi0 hz0 hz1 hz2
  have HK := hidp hk
  have HX := hidp hmx
  have HL := hidp hl
  clear hk hmx hl
  have HR := hidp R
  have HA := hidp hA
  have HN := hidp hn
  have HI := hidp hi
  have HS := hidp hs
  have HF := hidp ef
  clear R hA hn hi hs ef
  go_enter Try.func133, Try.ntmps133
  go_wp2_with fail
  have R1 := ((HR.out.alloc (.cells #[Value.int .i64 x.1] 120)).alloc (.cells #[] 82))
  refine (isoLoad_own R1 (A := A) ((World.cell?_alloc_lt _ _ _ (by simp; omega)).trans ((World.cell?_alloc_lt _ _ _ hAlt).trans HA.out)) HN.out HI.out true).mono ?_
  rintro e w' ⟨rfl, a1, rfl⟩
  go_wp2_with fail
  refine (search_is ((R1.drewN a1).alloc (.cells #[Value.pointer (some ⟨n, 0, none⟩)] 118)) HN.out HS.out (by omega) x).mono ?_
  rintro e w' ⟨rfl, a2, rfl⟩
  rw [HF.out]
  have R2 := ((R1.drewN a1).alloc (.cells #[Value.pointer (some ⟨n, 0, none⟩)] 118)).drewN a2
  have hE2 := (((((Ext.refl S w).alloc (.cells #[Value.int .i64 x.1] 120)).alloc (.cells #[] 82)).drewN a1).alloc (.cells #[Value.pointer (some ⟨n, 0, none⟩)] 118)).drewN a2
  have B5 := ((((Bx.new w [Value.int .i64 x.1] 120).alloc (.cells #[] 82)).drewN a1).alloc (.cells #[Value.pointer (some ⟨n, 0, none⟩)] 118)).drewN a2
  have B9 := (Bx.new (((w.alloc (.cells #[Value.int .i64 x.1] 120)).alloc (.cells #[] 82)).drewN a1) [Value.pointer (some ⟨n, 0, none⟩)] 118).drewN a2
  have hsz : (((w.alloc (.cells #[Value.int .i64 x.1] 120)).alloc (.cells #[] 82)).drewN a1).heap.size = w.heap.size + 2 := by simp [World.drewN]
  rw [hsz] at B9
  have hns5 : ¬ S w.heap.size := fun h => by have := HR.out.rep.lt _ h; omega
  have hns9 : ¬ S (w.heap.size + 2) := fun h => by have := HR.out.rep.lt _ h; omega
  clear R1 hsz
  generalize hgp : pos lt r.items x = i at *
  have HGP := hidp hgp
  clear hgp
  generalize hgw : ((((w.alloc (.cells #[Value.int .i64 x.1] 120)).alloc (.cells #[] 82)).drewN a1).alloc (.cells #[Value.pointer (some ⟨n, 0, none⟩)] 118)).drewN a2 = w2 at R2 hE2 B5 B9 ⊢
  clear hgw
  obtain ⟨hnlt, _, _, n2, n3⟩ := ncell R2 HN.out
  obtain ⟨hmlt, _, _, _, _, m4, m5, _, m7, _, _⟩ := mcell R2
  have n3' : w2.cell? ⟨n, 3, none⟩ = some (pv none) := by rw [n3, HK.out]; rfl
  have d3 := B9.cell 0 rfl
  have HM := hidp (And.intro m7 n2)
  have hne : ((r.items.length : Int) == s.mp.mx) = false := beq_eq_false_iff_ne.2 (by have := HX.out; omega)
  clear n3 m7
  go_wp2_with fail
  refine (leaf_raw n3').mono ?_
  rintro e w' ⟨rfl, rfl⟩
  clear n2
  obtain ⟨ba, n2'⟩ : ∃ ba, w2.cell? ⟨n, 2, none⟩ = some (.slice ba r.items.length r.icap) := ⟨_, HM.out.2⟩
  have m7 := HM.out.1
  go_wp2_with fail
  go_quiet (fail)
  clear m7 n2' n3'
  have R3 := R2.drewN nq
  have hE3 := hE2.drewN nq
  have B53 := B5.drewN nq
  have B93 := B9.drewN nq
  clear R2 hE2 B5 B9 hmlt m4 m5 d3 HM hnlt
  generalize w2.drewN nq = w3 at R3 hE3 B53 B93 ⊢
  have hnS := R3.inS_node HN.out
  have hnm : ¬ n = s.m := fun e => R3.node_ne_map HN.out (e.trans (rfl : s.m = s.m).symm)
  have hn9 : ¬ n = w.heap.size + 2 := fun e => hns9 (e ▸ hnS)
  obtain ⟨hnlt, _, _, n2, _⟩ := ncell R3 HN.out
  have m4 : w3.cell? ⟨s.m, 4, none⟩ = some (Value.int .i64 0) := by rw [← (rfl : s.m = s.m)]; exact (mcell R3).2.2.2.2.2.1
  have m5 : w3.cell? ⟨s.m, 4, none⟩ = some (Value.int .i64 0) := by rw [← (rfl : s.m = s.m)]; exact (mcell R3).2.2.2.2.2.2.1
  have d3 := B93.cell 0 rfl
  have HR3 := hidp R3
  have HB9 := hidp B93
  have HW := hidp (R3.wf n r HN.out)
  clear R3 B93
  go_wp2_with fail
  refine Last.start_ (S := fun w' => w'.cell? ⟨w.heap.size + 2, 0, none⟩ = some (.pointer (some ⟨n, 0, none⟩)) ∧ w'.cell? ⟨n, 2, none⟩ = some (sv r.ib r.items.length r.icap) ∧ w'.cell? ⟨s.m, 4, none⟩ = some (Value.int .i64 0)) (ds := [13]) #[Z,Z,Z,Z,Z,Z,Z,Z,Z,Z,Z,Z,Z,Z] (by rfl) (by rfl) (by rfl) ?_ (fun hHeld => ?_)
  · go_keep
  refine Last.tk 0 59 #[Y,Z,Z,Z,Z,Z,Z,Z,Z,Z,Z,Z,Z,Z] rfl rfl hHeld ?_
  refine Last.tk 1 60 #[Y,Y,Z,Z,Z,Z,Z,Z,Z,Z,Z,Z,Z,Z] rfl rfl hHeld ?_
  refine Last.tk 2 61 #[Y,Y,Y,Z,Z,Z,Z,Z,Z,Z,Z,Z,Z,Z] rfl rfl hHeld ?_
  refine Last.tk 3 62 #[Y,Y,Y,Y,Z,Z,Z,Z,Z,Z,Z,Z,Z,Z] rfl rfl hHeld ?_
  refine Last.tk 4 63 #[Y,Y,Y,Y,Y,Z,Z,Z,Z,Z,Z,Z,Z,Z] rfl rfl hHeld ?_
  refine Last.tk 5 64 #[Y,Y,Y,Y,Y,Y,Z,Z,Z,Z,Z,Z,Z,Z] rfl rfl hHeld ?_
  refine Last.tk 6 65 #[Y,Y,Y,Y,Y,Y,Y,Z,Z,Z,Z,Z,Z,Z] rfl rfl hHeld ?_
  refine Last.tk 7 66 #[Y,Y,Y,Y,Y,Y,Y,Y,Z,Z,Z,Z,Z,Z] rfl rfl hHeld ?_
  refine Last.tk 8 67 #[Y,Y,Y,Y,Y,Y,Y,Y,Y,Z,Z,Z,Z,Z] rfl rfl hHeld ?_
  refine Last.one_ (i := 9) (N := some 68) #[Y,Y,Y,Y,Y,Y,Y,Y,Y,Y,Z,Z,Z,Z] rfl rfl (by kernel_rfl) (by decide) (fun K hK => ?_)
  go_simp
  refine hK.out _ _ ?_ (fun hHeld => ?_)
  · (try dsimp only); go_keep
  clear hK K
  try simp only [Act.put, setIfInBounds_toArray, set_cons_zero, set_cons_succ]
  refine Last.one_ (i := 10) (N := some 69) #[Y,Y,Y,Y,Y,Y,Y,Y,Y,Y,Y,Z,Z,Z] rfl rfl (by kernel_rfl) (by decide) (fun K hK => ?_)
  refine step_app (by rfl) _ _ _ (by rfl) 120 i0 _ 1 8 Try.underlying181 HI0.out HZ0.out HZ1.out HZ2.out rfl (by decide) r.ib r.items.length r.icap (itemCells E r.items) (by rfl) (fun h => ⟨by rw [(HW.out.1 h).1]; rfl, (HW.out.1 h).2⟩) (itemCells_length _)
          (fun b o hb => ((HR3.out.drew).alloc _).items HN.out hb) ⟨w3.heap.size, 0, none⟩ 1 1 [Value.int .i64 0] (by rfl) (by decide) (by rfl) (fun j u hj => by rw [Addr.add_lit, Nat.zero_add]; exact (Bx.new (w3.drew) [Value.int .i64 0] 120).cell j hj) (by simp [Value.oneCell']) (by unfold maxLen; omega) (by omega) ?_
  intro v' w4 happ
  obtain ⟨gb, gq, gc, rfl⟩ := happ.form
  obtain ⟨R4, hF4⟩ := ((HR3.out.drew).alloc (.cells #[Value.int .i64 0] 120)).app_keep_items HN.out (m := 1) (by rfl) happ
  have k1 := (((HB9.out.drew).alloc (.cells #[Value.int .i64 0] 120)).keep hF4 hns9).cell 0 rfl
  have k2 := (R4.node HN.out).cell 2 (v := sv r.ib r.items.length r.icap) rfl
  have f2 := (R4.node HN.out).froz 2 (v := sv r.ib r.items.length r.icap) rfl
  have k3 : w4.cell? ⟨s.m, 4, none⟩ = some (Value.int .i64 0) := by rw [← (rfl : s.m = s.m)]; exact (mcell R4).2.2.2.2.2.1
  have k4 : w4.cell? ⟨s.m, 4, none⟩ = some (Value.int .i64 0) := by rw [← (rfl : s.m = s.m)]; exact (mcell R4).2.2.2.2.2.2.1
  have HA4 := hidp (And.intro happ R4)
  clear happ R4 hF4
  refine hK.out _ _ ?_ (fun hHeld => ?_)
  · (try dsimp only); go_keep
  clear hK K
  try simp only [Act.put, setIfInBounds_toArray, set_cons_zero, set_cons_succ]
  refine Last.tk 11 70 #[Y,Y,Y,Y,Y,Y,Y,Y,Y,Y,Y,Y,Z,Z] rfl rfl hHeld ?_
  refine Last.tk 12 71 #[Y,Y,Y,Y,Y,Y,Y,Y,Y,Y,Y,Y,Y,Z] rfl rfl hHeld ?_
  refine Last.last_ (i := 13) (N := none) #[Y,Y,Y,Y,Y,Y,Y,Y,Y,Y,Y,Y,Y,Y] rfl rfl (by kernel_rfl) (by decide) (fun K hK => ?_)
  go_simp
  refine hK.out _ _ ?_
  clear hK K
  try simp only [Act.put, setIfInBounds_toArray, set_cons_zero, set_cons_succ]
  refine Last.done_ (by kernel_rfl) ?_
  obtain ⟨happ, R4⟩ := HA4.out
  obtain ⟨ib', cap', S5, hv5, hcap5, hF5, hs51, hs52, R5⟩ := (HR3.out.drew.alloc (.cells #[Value.int .i64 0] 120)).app_items HN.out [((0 : Int), ())] happ (Upd.one w4 _ (by rw [(R4.node HN.out).2 2 _ rfl]; rfl))
  have hE5 := ((hE3.drew.alloc (.cells #[Value.int .i64 0] 120)).trans ⟨hF5, hs51, hs52⟩)
  have B55 := (B53.drew.alloc (.cells #[Value.int .i64 0] 120)).keep hF5 hns5
  have B59 := (HB9.out.drew.alloc (.cells #[Value.int .i64 0] 120)).keep hF5 hns9
  have HSB : Hid (¬ S5 (w.heap.size + 2) ∧ ¬ S5 w.heap.size) := hidp ⟨fun h => (hs51 _ h).elim hns9 (fun h' => by have := HB9.out.1; rw [World.size_alloc] at h'; have e : w3.drew.heap.size = w3.heap.size := rfl; omega), fun h => (hs51 _ h).elim hns5 (fun h' => by have := B53.1; rw [World.size_alloc] at h'; have e : w3.drew.heap.size = w3.heap.size := rfl; omega)⟩
  clear happ R4 HA4 HB9 HR3 hE3 B53 k1 k2 k3 k4 f2 HW
  generalize w4.setCell ⟨n, 2, none⟩ (.slice (some ⟨gb, gq, none⟩) (r.items.length + 1) gc) = w5 at R5 hE5 B55 B59 ⊢
  obtain ⟨rfl, rfl⟩ : ib' = some (gb, gq) ∧ gc = cap' := sv_inj hv5
  clear hv5 hcap5 hF5 hs51 hs52
  have hl1 : (r.items ++ [((0 : Int), ())]).length = r.items.length + 1 := by simp
  have hl6 : ((r.items ++ [((0 : Int), ())]).take (i + 1) ++ r.items.drop i ++ (r.items ++ [((0 : Int), ())]).drop (i + 1 + (r.items.drop i).length)).length = r.items.length + 1 := by simp; omega
  have N5 := Sto.nd_same s n { r with items := r.items ++ [((0 : Int), ())], ib := some (gb, gq), icap := gc }
  obtain ⟨_, _, _, n2, _⟩ := ncell R5 N5
  rw [hl1] at n2
  have n2' : w5.cell? ⟨n, 2, none⟩ = some (.slice (some ⟨gb, gq, none⟩) (r.items.length + 1) gc) := n2
  have hgc : r.items.length + 1 ≤ gc := by have := (R5.wf _ _ N5).2.2.1; rw [hl1] at this; exact this
  have d9 := B59.cell 0 rfl
  have HR5 := hidp R5
  have HE5 := hidp hE5
  have HB55 := hidp B55
  have HB59 := hidp B59
  have hw1 : IntKind.i64.wrap ((i : Int) + 1) = (i : Int) + 1 := by rw [Last.i64_w]; exact IntWalk.wrap64_in _ ⟨by omega, by omega⟩
  have hb0 : (0 : Int) ≤ (i : Int) := by omega
  have hb1 : (0 : Int) ≤ (i : Int) + 1 := by omega
  have hb2 : (i : Int) ≤ ((r.items.length : Nat) : Int) + 1 := by omega
  have hb3 : (i : Int) + 1 ≤ ((r.items.length : Nat) : Int) + 1 := by omega
  clear R5 hE5 B55 B59 n2
  go_wp2_with fail
  go_region_held3 (fun w' => w'.cell? ⟨w.heap.size + 2, 0, none⟩ = some (.pointer (some ⟨n, 0, none⟩)) ∧ w'.cell? ⟨n, 2, none⟩ = some (.slice (some ⟨gb, gq, none⟩) (r.items.length + 1) gc)) (go_keep)
    ((refine step_copy (by rfl) _ _ _ _ (by rfl) 120 i0 1 Try.underlying181 HI0.out HZ1.out gb (gq + (i + 1)) (r.items.length - i) (gc - (i + 1)) ?hd gb (gq + i) (r.items.length + 1 - i) (gc - i) ?hx (itemCells E (r.items.drop i)) ?hn (fun j v hj => (by have h9 := HR5.out.src_items (a := i) (m := [((0 : Int), ())]) N5 rfl (List.drop_append_of_le_length hpl) (by rw [hl1]; omega) hj; rw [show i * E.sz = i from Nat.mul_one i] at h9; exact h9)) ?hc (itemCells_one _) ?_
      case hd => (simp [Act.eval]; omega)
      case hx => (simp [Act.eval]; omega)
      case hn =>
        have e : Nat.min (r.items.length + 1 - i) (r.items.length - i) = r.items.length - i := Nat.min_eq_right (by omega)
        rw [itemCells_length, List.length_drop, e]; rfl
      case hc =>
        intro j hj
        rw [itemCells_length, List.length_drop] at hj
        rw [Nat.add_assoc]
        exact HR5.out.dst_items N5 rfl (by show (i + 1) + j < gc * 1; have h2 : E.sz = 1 := rfl; rw [h2] at hj; omega)
      intro w6 hu6
      have k1 := (HB59.out.drew.keep hu6.fr (fun e => HSB.out.1 (e ▸ HR5.out.inS_items N5 rfl))).cell 0 rfl
      have k2 := (((HR5.out.drew).set_items N5 rfl (a := i + 1) (r.items.drop i) (by rw [hl1, List.length_drop]; omega) (by show _ = _ + _ * 1; rw [Nat.mul_one]) hu6).node (Sto.nd_same _ _ _)).cell 2 (v := sv (some (gb, gq)) ((r.items ++ [((0 : Int), ())]).take (i + 1) ++ r.items.drop i ++ (r.items ++ [((0 : Int), ())]).drop (i + 1 + (r.items.drop i).length)).length gc) rfl
      rw [hl6] at k2
      have k2' : w6.cell? ⟨n, 2, none⟩ = some (.slice (some ⟨gb, gq, none⟩) (r.items.length + 1) gc) := k2
      clear k2
      have HU6 := hidp hu6
      clear hu6))
  have R6 := (HR5.out.drew).set_items N5 rfl (a := i + 1) (r.items.drop i) (by rw [hl1, List.length_drop]; omega) (by show _ = _ + _ * 1; rw [Nat.mul_one]) HU6.out
  rw [Sto.setNd_again] at R6
  have hE6 := HE5.out.drew.upd HU6.out (.inl (HR5.out.inS_items N5 rfl))
  have B65 := HB55.out.drew.keep HU6.out.fr (fun e => HSB.out.2 (e ▸ HR5.out.inS_items N5 rfl))
  have B69 := HB59.out.drew.keep HU6.out.fr (fun e => HSB.out.1 (e ▸ HR5.out.inS_items N5 rfl))
  clear HR5 HE5 HB55 HB59 HU6 d9 n2' N5
  have N6 := Sto.nd_same s n { r with items := (r.items ++ [((0 : Int), ())]).take (i + 1) ++ r.items.drop i ++ (r.items ++ [((0 : Int), ())]).drop (i + 1 + (r.items.drop i).length), ib := some (gb, gq), icap := gc }
  have hg6 : ∃ l6, l6 = (r.items ++ [((0 : Int), ())]).take (i + 1) ++ r.items.drop i ++ (r.items ++ [((0 : Int), ())]).drop (i + 1 + (r.items.drop i).length) := ⟨_, rfl⟩
  obtain ⟨l6, hg6⟩ := hg6
  rw [← hg6] at R6 N6 hl6
  have HG6 := hidp hg6
  clear hg6
  have hi6 : i < l6.length := by omega
  obtain ⟨y6, hy6⟩ : ∃ y, l6[i]? = some y := ⟨_, List.getElem?_eq_getElem hi6⟩
  obtain ⟨_, _, _, n2, _⟩ := ncell R6 N6
  rw [hl6] at n2
  have n2' : w6.cell? ⟨n, 2, none⟩ = some (.slice (some ⟨gb, gq, none⟩) (r.items.length + 1) gc) := n2
  obtain ⟨i1, i2⟩ := imem R6 N6 rfl hy6
  have hu := Upd.one w6  (Value.int .i64 x.1) (by rw [i2]; rfl)
  have c1 := M_cell i1
  have c2 := M_cell i2
  have f1 := M_froz i1
  have f2 := M_froz i2
  have d1 := B65.cell 0 rfl
  have d2 := B65.cell 0 rfl
  have d3 := B69.cell 0 rfl
  have hblt : gb < w6.heap.size := R6.rep.lt gb (R6.inS_items N6 rfl)
  have hp1 : (i : Int) < ((r.items.length : Nat) : Int) + 1 := by omega
  have hgS := R6.inS_items N6 rfl
  have R7 := R6.set_item N6 rfl (i := i) x hi6 (by show _ = _ + _ * 1; rw [Nat.mul_one]) hu
  rw [Sto.setNd_again] at R7
  have hE7 := hE6.upd hu (.inl hgS)
  have B79 := B69.upd hu (fun e => HSB.out.1 (e ▸ hgS))
  have HR7 := hidp R7
  have HE7 := hidp hE7
  have HB79 := hidp B79
  clear n2 i1 i2 hu R6 hE6 B65 B69 R7 hE7 B79 N6
  generalize (if gc = i + 1 then (some ⟨gb, gq, none⟩ : Option Addr) else some ⟨gb, gq + (i + 1), none⟩) = zz1
  generalize (if gc = i then (some ⟨gb, gq, none⟩ : Option Addr) else some ⟨gb, gq + i, none⟩) = zz2
  go_wp2_with fail
  go_region
  have R7 := HR7.out.drew
  have hE7 := HE7.out.drew
  have B79 := HB79.out.drew
  clear HR7 HE7 HB79 c1 c2 f1 f2 d1 d2 d3 n2' k1 k2'
  generalize (w6.setCell ⟨gb, gq + i, none⟩ (Value.int .i64 x.1)).drew = w7 at R7 hE7 B79 ⊢
  have N7 := Sto.nd_same s n { r with items := l6.set i x, ib := some (gb, gq), icap := gc }
  have n1 := (R7.node N7).cell 1 rfl
  have f1 := (R7.node N7).froz 1 rfl
  have hu8 := Upd.one w7 (b := n) (o := 1) (.int .i64 (r.count + 1)) (by rw [(R7.node N7).2 1 _ rfl]; rfl)
  have R8 := R7.set_count N7 (r.count + 1) hu8
  rw [Sto.setNd_again] at R8
  have hE8 := hE7.upd hu8 (.inl (R7.inS_node N7))
  have B89 := B79.upd hu8 (fun e => hn9 e.symm)
  have m4 : w7.cell? ⟨s.m, 4, none⟩ = some (Value.int .i64 0) := (mcell R7).2.2.2.2.2.1
  have d9 := B79.cell 0 rfl
  have hw2 : IntKind.i64.wrap (r.count + 1) = r.count + 1 := by rw [Last.i64_w]; exact IntWalk.wrap64_in _ ⟨by omega, by omega⟩
  have hf := And.intro hE8 R8
  rw [HG6.out, shift_set hpl, ← HGP.out, ← put_none HL.out] at hf
  have HF8 := hidp hf
  have hpe := part_empty R8
  rw [Sto.m_setNd] at hpe
  clear R7 hE7 B79 N7 hu8 R8 hE8 B89 hf
  go_wp2
  refine bodyPost_ret (v := .tuple #[Value.agg #[], .bool false, .bool false]) (by simp [results, Try.results133, go_sem]) rfl ?_
  exact ⟨rfl, S5, HF8.out.1, some (gb, gq), gc, HF8.out.2⟩

end Go.Proofs.Ytbjhnefienjncaa.Bt.IU
