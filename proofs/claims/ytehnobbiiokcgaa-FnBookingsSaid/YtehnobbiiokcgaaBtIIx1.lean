/- Maps from numbers to numbers: the doors of a node. -/
import Derived.Test.YtehnobbiiokcgaaBtIIe
import Derived.Test.YtehnobbiiokcgaaBtLast
namespace Go.Proofs.Ytehnobbiiokcgaa.Bt.II
set_option linter.unusedVariables false
set_option linter.unusedSimpArgs false
open Go Go.RowKit Go.Proofs.Ytehnobbiiokcgaa.Bt
open Go.Proofs.Ytehnobbiiokcgaa.Bt.Last (Y Z)
open _root_.List (setIfInBounds_toArray set_cons_zero set_cons_succ)

variable {S : Nat → Prop} {w : World} {s : Sto It}
/-- A node as the doors hand it about. -/
def dv (n : Nat) : Value := .agg #[.pointer (some ⟨n, 0, none⟩)]

set_option maxHeartbeats 1000000 in
set_option maxRecDepth 100000 in
/-- 'DoorItem' -/
theorem doorItem_is (R : RepS E S w s) {n : Nat} {r : NodeR It} (hn : s.nd n = some r) (hlen : r.items.length ≤ 100000000) (x : It) :
    Calls Try.prog 85 #[dv n, Value.int .i64 x.1, Value.int .i64 x.2] w (fun e w' => e = .returned (.tuple #[]) ∧ ∃ ib' cap' S', Ext S w S' w' ∧ RepS E S' w' (s.setNd n { r with items := r.items ++ [x], ib := ib', icap := cap' })) := by
  obtain ⟨i0, hi0, hz0, hz1, hz2⟩ := info_parts infoP
  have HI0 := hidp hi0
  have HZ0 := hidp hz0
  have HZ1 := hidp hz1
  have HZ2 := hidp hz2
  have HN := hidp hn
  have hns9 : ¬ S w.heap.size := fun h => by have := R.rep.lt _ h; omega
  have R3 := R.alloc (.cells #[Value.pointer (some ⟨n, 0, none⟩)] 96)
  have hE3 := (Ext.refl S w).alloc (.cells #[Value.pointer (some ⟨n, 0, none⟩)] 96)
  have B93 := Bx.new w [Value.pointer (some ⟨n, 0, none⟩)] 96
  have hnS := R.inS_node hn
  clear R hn hi0 hz0 hz1 hz2
  unfold dv
  go_enter Try.func85, Try.ntmps85
  go_wp2_with fail
  generalize w.alloc (.cells #[Value.pointer (some ⟨n, 0, none⟩)] 96) = w3 at R3 hE3 B93 ⊢
  have hn9 : ¬ n = w.heap.size := fun e => hns9 (e ▸ hnS)
  obtain ⟨hnlt, _, _, n2, _⟩ := ncell R3 HN.out
  have d3 := B93.cell 0 rfl
  have HR3 := hidp R3
  have HB9 := hidp B93
  have HE3 := hidp hE3
  have HW := hidp (R3.wf n r HN.out)
  clear R3 B93 hE3
  go_wp2_with fail
  refine Last.start_ (S := fun w' => w'.cell? ⟨w.heap.size, 0, none⟩ = some (.pointer (some ⟨n, 0, none⟩)) ∧ w'.cell? ⟨n, 2, none⟩ = some (sv r.ib r.items.length r.icap)) (ds := [14]) #[Z,Z,Z,Z,Z,Z,Z,Z,Z,Z,Z,Z,Z,Z,Z] (by rfl) (by rfl) (by rfl) ?_ (fun hHeld => ?_)
  · go_keep
  refine Last.tk 0 6 #[Y,Z,Z,Z,Z,Z,Z,Z,Z,Z,Z,Z,Z,Z,Z] rfl rfl hHeld ?_
  refine Last.tk 1 7 #[Y,Y,Z,Z,Z,Z,Z,Z,Z,Z,Z,Z,Z,Z,Z] rfl rfl hHeld ?_
  refine Last.tk 2 8 #[Y,Y,Y,Z,Z,Z,Z,Z,Z,Z,Z,Z,Z,Z,Z] rfl rfl hHeld ?_
  refine Last.tk 3 9 #[Y,Y,Y,Y,Z,Z,Z,Z,Z,Z,Z,Z,Z,Z,Z] rfl rfl hHeld ?_
  refine Last.tk 4 10 #[Y,Y,Y,Y,Y,Z,Z,Z,Z,Z,Z,Z,Z,Z,Z] rfl rfl hHeld ?_
  refine Last.tk 5 11 #[Y,Y,Y,Y,Y,Y,Z,Z,Z,Z,Z,Z,Z,Z,Z] rfl rfl hHeld ?_
  refine Last.tk 6 12 #[Y,Y,Y,Y,Y,Y,Y,Z,Z,Z,Z,Z,Z,Z,Z] rfl rfl hHeld ?_
  refine Last.tk 7 13 #[Y,Y,Y,Y,Y,Y,Y,Y,Z,Z,Z,Z,Z,Z,Z] rfl rfl hHeld ?_
  refine Last.tk 8 14 #[Y,Y,Y,Y,Y,Y,Y,Y,Y,Z,Z,Z,Z,Z,Z] rfl rfl hHeld ?_
  refine Last.tk 9 15 #[Y,Y,Y,Y,Y,Y,Y,Y,Y,Y,Z,Z,Z,Z,Z] rfl rfl hHeld ?_
  refine Last.one_ (i := 10) (N := some 16) #[Y,Y,Y,Y,Y,Y,Y,Y,Y,Y,Y,Z,Z,Z,Z] rfl rfl (by kernel_rfl) (by decide) (fun K hK => ?_)
  go_simp
  refine hK.out _ _ ?_ (fun hHeld => ?_)
  · (try dsimp only); go_keep
  clear hK K
  try simp only [Act.put, setIfInBounds_toArray, set_cons_zero, set_cons_succ]
  refine Last.one_ (i := 11) (N := some 17) #[Y,Y,Y,Y,Y,Y,Y,Y,Y,Y,Y,Y,Z,Z,Z] rfl rfl (by kernel_rfl) (by decide) (fun K hK => ?_)
  refine step_app (by rfl) _ _ _ (by rfl) 120 i0 _ 2 16 Try.underlying124 HI0.out HZ0.out HZ1.out HZ2.out rfl (by decide) r.ib r.items.length r.icap (itemCells E r.items) (by rfl) (fun h => ⟨by rw [(HW.out.1 h).1]; rfl, (HW.out.1 h).2⟩) (itemCells_length _)
          (fun b o hb => ((HR3.out.drew).alloc _).items HN.out hb) ⟨w3.heap.size, 0, none⟩ 1 1 [Value.int .i64 x.2, Value.int .i64 x.1] (by rfl) (by decide) (by rfl) (fun j u hj => by rw [Addr.add_lit, Nat.zero_add]; exact (Bx.new (w3.drew) [Value.int .i64 x.2, Value.int .i64 x.1] 120).cell j hj) (by simp [Value.oneCell']) (by unfold maxLen; omega) (by omega) ?_
  intro v' w4 happ
  obtain ⟨gb, gq, gc, rfl⟩ := happ.form
  obtain ⟨R4, hF4⟩ := ((HR3.out.drew).alloc (.cells #[Value.int .i64 x.2, Value.int .i64 x.1] 120)).app_keep_items HN.out (m := 1) (by rfl) happ
  have k1 := (((HB9.out.drew).alloc (.cells #[Value.int .i64 x.2, Value.int .i64 x.1] 120)).keep hF4 hns9).cell 0 rfl
  have k2 := (R4.node HN.out).cell 2 (v := sv r.ib r.items.length r.icap) rfl
  have f2 := (R4.node HN.out).froz 2 (v := sv r.ib r.items.length r.icap) rfl
  have HA4 := hidp (And.intro happ R4)
  clear happ R4 hF4
  refine hK.out _ _ ?_ (fun hHeld => ?_)
  · (try dsimp only); go_keep
  clear hK K
  try simp only [Act.put, setIfInBounds_toArray, set_cons_zero, set_cons_succ]
  refine Last.tk 12 18 #[Y,Y,Y,Y,Y,Y,Y,Y,Y,Y,Y,Y,Y,Z,Z] rfl rfl hHeld ?_
  refine Last.tk 13 19 #[Y,Y,Y,Y,Y,Y,Y,Y,Y,Y,Y,Y,Y,Y,Z] rfl rfl hHeld ?_
  refine Last.last_ (i := 14) (N := none) #[Y,Y,Y,Y,Y,Y,Y,Y,Y,Y,Y,Y,Y,Y,Y] rfl rfl (by kernel_rfl) (by decide) (fun K hK => ?_)
  go_simp
  refine hK.out _ _ ?_
  clear hK K
  try simp only [Act.put, setIfInBounds_toArray, set_cons_zero, set_cons_succ]
  refine Last.done_ (by kernel_rfl) ?_
  obtain ⟨happ, R4⟩ := HA4.out
  obtain ⟨ib', cap', S5, hv5, hcap5, hF5, hs51, hs52, R5⟩ := (HR3.out.drew.alloc (.cells #[Value.int .i64 x.2, Value.int .i64 x.1] 120)).app_items HN.out [x] happ (Upd.one w4 _ (by rw [(R4.node HN.out).2 2 _ rfl]; rfl))
  have hE5 := ((HE3.out.drew.alloc (.cells #[Value.int .i64 x.2, Value.int .i64 x.1] 120)).trans ⟨hF5, hs51, hs52⟩)
  have HF := hidp (And.intro hE5 R5)
  clear happ R4 HA4 HB9 HR3 HE3 k1 k2 f2 HW hE5 R5 hF5 hs51 hs52 hcap5 hv5
  go_wp2
  go_end0
  exact ⟨rfl, ib', cap', S5, HF.out.1, HF.out.2⟩

set_option maxHeartbeats 1000000 in
set_option maxRecDepth 100000 in
/-- 'DoorAppend' -/
theorem doorAppend_is (R : RepS E S w s) {n : Nat} {r : NodeR It} (hn : s.nd n = some r) {k : KidR} (hk : r.kids = some k) (hlen : k.kids.length ≤ 100000000) (p : Nat) :
    Calls Try.prog 86 #[dv n, dv p] w (fun e w' => e = .returned (.tuple #[]) ∧ ∃ kb' cap' S', Ext S w S' w' ∧ RepS E S' w' (s.setNd n { r with kids := some { k with kids := k.kids ++ [some p], base := kb', cap := cap' } })) := by
  obtain ⟨j0, hj0, hy0, hy1, hy2⟩ := info_parts infoK
  have HJ0 := hidp hj0
  have HY0 := hidp hy0
  have HY1 := hidp hy1
  have HY2 := hidp hy2
  have HN := hidp hn
  have HK := hidp hk
  have hns9 : ¬ S w.heap.size := fun h => by have := R.rep.lt _ h; omega
  have hns8 : ¬ S (w.heap.size + 1) := fun h => by have := R.rep.lt _ h; omega
  have hsz : (w.alloc (.cells #[Value.pointer (some ⟨n, 0, none⟩)] 96)).heap.size = w.heap.size + 1 := by simp
  have R3 := (R.alloc (.cells #[Value.pointer (some ⟨n, 0, none⟩)] 96)).alloc (.cells #[Value.pointer (some ⟨p, 0, none⟩)] 96)
  have hE3 := ((Ext.refl S w).alloc (.cells #[Value.pointer (some ⟨n, 0, none⟩)] 96)).alloc (.cells #[Value.pointer (some ⟨p, 0, none⟩)] 96)
  have B93 := (Bx.new w [Value.pointer (some ⟨n, 0, none⟩)] 96).alloc (.cells #[Value.pointer (some ⟨p, 0, none⟩)] 96)
  have B83 := Bx.new (w.alloc (.cells #[Value.pointer (some ⟨n, 0, none⟩)] 96)) [Value.pointer (some ⟨p, 0, none⟩)] 96
  rw [hsz] at B83
  have hnS := R.inS_node hn
  have hhS := R.inS_hdr hn hk
  clear R hn hj0 hy0 hy1 hy2 hsz
  unfold dv
  go_enter Try.func86, Try.ntmps86
  go_wp2_with fail
  generalize (w.alloc (.cells #[Value.pointer (some ⟨n, 0, none⟩)] 96)).alloc (.cells #[Value.pointer (some ⟨p, 0, none⟩)] 96) = w3 at R3 hE3 B93 B83 ⊢
  have hn9 : ¬ n = w.heap.size := fun e => hns9 (e ▸ hnS)
  have hh9 : ¬ k.hdr = w.heap.size := fun e => hns9 (e ▸ hhS)
  have hn8 : ¬ n = w.heap.size + 1 := fun e => hns8 (e ▸ hnS)
  have hh8 : ¬ k.hdr = w.heap.size + 1 := fun e => hns8 (e ▸ hhS)
  obtain ⟨hnlt, _, _, _, n3⟩ := ncell R3 HN.out
  have n3' : w3.cell? ⟨n, 3, none⟩ = some (.pointer (some ⟨k.hdr, 0, none⟩)) := by rw [n3, hk]; rfl
  have nh := (R3.hdr HN.out hk).cell 0 rfl
  have d3 := B93.cell 0 rfl
  have d8 := B83.cell 0 rfl
  have HR3 := hidp R3
  have HB9 := hidp B93
  have HB8 := hidp B83
  have HE3 := hidp hE3
  have HW := hidp ((R3.wf n r HN.out).2.1 k hk)
  clear R3 B93 B83 hE3 n3 hk
  go_wp2_with fail
  refine Last.start_ (S := fun w' => w'.cell? ⟨w.heap.size, 0, none⟩ = some (.pointer (some ⟨n, 0, none⟩)) ∧ w'.cell? ⟨w.heap.size + 1, 0, none⟩ = some (.pointer (some ⟨p, 0, none⟩)) ∧ w'.cell? ⟨n, 3, none⟩ = some (.pointer (some ⟨k.hdr, 0, none⟩)) ∧ w'.cell? ⟨k.hdr, 0, none⟩ = some (sv k.base k.kids.length k.cap)) (ds := [17]) #[Z,Z,Z,Z,Z,Z,Z,Z,Z,Z,Z,Z,Z,Z,Z,Z,Z,Z] (by rfl) (by rfl) (by rfl) ?_ (fun hHeld => ?_)
  · go_keep
  refine Last.tk 0 4 #[Y,Z,Z,Z,Z,Z,Z,Z,Z,Z,Z,Z,Z,Z,Z,Z,Z,Z] rfl rfl hHeld ?_
  refine Last.tk 1 5 #[Y,Y,Z,Z,Z,Z,Z,Z,Z,Z,Z,Z,Z,Z,Z,Z,Z,Z] rfl rfl hHeld ?_
  refine Last.tk 2 6 #[Y,Y,Y,Z,Z,Z,Z,Z,Z,Z,Z,Z,Z,Z,Z,Z,Z,Z] rfl rfl hHeld ?_
  refine Last.tk 3 7 #[Y,Y,Y,Y,Z,Z,Z,Z,Z,Z,Z,Z,Z,Z,Z,Z,Z,Z] rfl rfl hHeld ?_
  refine Last.tk 4 8 #[Y,Y,Y,Y,Y,Z,Z,Z,Z,Z,Z,Z,Z,Z,Z,Z,Z,Z] rfl rfl hHeld ?_
  refine Last.tk 5 9 #[Y,Y,Y,Y,Y,Y,Z,Z,Z,Z,Z,Z,Z,Z,Z,Z,Z,Z] rfl rfl hHeld ?_
  refine Last.tk 6 10 #[Y,Y,Y,Y,Y,Y,Y,Z,Z,Z,Z,Z,Z,Z,Z,Z,Z,Z] rfl rfl hHeld ?_
  refine Last.tk 7 11 #[Y,Y,Y,Y,Y,Y,Y,Y,Z,Z,Z,Z,Z,Z,Z,Z,Z,Z] rfl rfl hHeld ?_
  refine Last.tk 8 12 #[Y,Y,Y,Y,Y,Y,Y,Y,Y,Z,Z,Z,Z,Z,Z,Z,Z,Z] rfl rfl hHeld ?_
  refine Last.tk 9 13 #[Y,Y,Y,Y,Y,Y,Y,Y,Y,Y,Z,Z,Z,Z,Z,Z,Z,Z] rfl rfl hHeld ?_
  refine Last.tk 10 14 #[Y,Y,Y,Y,Y,Y,Y,Y,Y,Y,Y,Z,Z,Z,Z,Z,Z,Z] rfl rfl hHeld ?_
  refine Last.tk 11 15 #[Y,Y,Y,Y,Y,Y,Y,Y,Y,Y,Y,Y,Z,Z,Z,Z,Z,Z] rfl rfl hHeld ?_
  refine Last.tk 12 16 #[Y,Y,Y,Y,Y,Y,Y,Y,Y,Y,Y,Y,Y,Z,Z,Z,Z,Z] rfl rfl hHeld ?_
  refine Last.tk 13 17 #[Y,Y,Y,Y,Y,Y,Y,Y,Y,Y,Y,Y,Y,Y,Z,Z,Z,Z] rfl rfl hHeld ?_
  refine Last.one_ (i := 14) (N := some 18) #[Y,Y,Y,Y,Y,Y,Y,Y,Y,Y,Y,Y,Y,Y,Y,Z,Z,Z] rfl rfl (by kernel_rfl) (by decide) (fun K hK => ?_)
  go_simp
  refine hK.out _ _ ?_ (fun hHeld => ?_)
  · (try dsimp only); go_keep
  clear hK K
  try simp only [Act.put, setIfInBounds_toArray, set_cons_zero, set_cons_succ]
  refine Last.one_ (i := 15) (N := some 19) #[Y,Y,Y,Y,Y,Y,Y,Y,Y,Y,Y,Y,Y,Y,Y,Y,Z,Z] rfl rfl (by kernel_rfl) (by decide) (fun K hK => ?_)
  refine step_app (by rfl) _ _ _ (by rfl) 94 j0 _ 1 8 Try.underlying123 HJ0.out HY0.out HY1.out HY2.out rfl (by decide) k.base k.kids.length k.cap (k.kids.map pv) (by rfl) (fun h => ⟨by rw [(HW.out h).1]; rfl, (HW.out h).2⟩) (by rw [List.length_map, Nat.mul_one])
          (fun b o hb => by rw [Nat.mul_one]; exact ((HR3.out.drew).alloc _).arr HN.out HK.out hb) ⟨w3.heap.size, 0, none⟩ 1 1 [.pointer (some ⟨p, 0, none⟩)] (by rfl) (by decide) (by rfl) (fun j u hj => by rw [Addr.add_lit, Nat.zero_add]; exact (Bx.new (w3.drew) [.pointer (some ⟨p, 0, none⟩)] 94).cell j hj) (by simp [Value.oneCell']) (by unfold maxLen; omega) (by omega) ?_
  intro v' w4 happ
  obtain ⟨gb, gq, gc, rfl⟩ := happ.form
  obtain ⟨R4, hF4⟩ := ((HR3.out.drew).alloc (.cells #[.pointer (some ⟨p, 0, none⟩)] 94)).app_keep_kids HN.out HK.out (m := 1) (by rfl) happ
  have k1 := (((HB9.out.drew).alloc (.cells #[.pointer (some ⟨p, 0, none⟩)] 94)).keep hF4 hns9).cell 0 rfl
  have k8 := (((HB8.out.drew).alloc (.cells #[.pointer (some ⟨p, 0, none⟩)] 94)).keep hF4 hns8).cell 0 rfl
  have k3 : w4.cell? ⟨n, 3, none⟩ = some (.pointer (some ⟨k.hdr, 0, none⟩)) := by
    have h := (ncell R4 HN.out).2.2.2.2
    rw [HK.out] at h; exact h
  have k2 := (R4.hdr HN.out HK.out).cell 0 rfl
  have f2 := (R4.hdr HN.out HK.out).froz 0 rfl
  have HA4 := hidp (And.intro happ R4)
  clear happ R4 hF4
  refine hK.out _ _ ?_ (fun hHeld => ?_)
  · (try dsimp only); go_keep
  clear hK K
  try simp only [Act.put, setIfInBounds_toArray, set_cons_zero, set_cons_succ]
  refine Last.tk 16 20 #[Y,Y,Y,Y,Y,Y,Y,Y,Y,Y,Y,Y,Y,Y,Y,Y,Y,Z] rfl rfl hHeld ?_
  refine Last.last_ (i := 17) (N := none) #[Y,Y,Y,Y,Y,Y,Y,Y,Y,Y,Y,Y,Y,Y,Y,Y,Y,Y] rfl rfl (by kernel_rfl) (by decide) (fun K hK => ?_)
  go_simp
  refine hK.out _ _ ?_
  clear hK K
  try simp only [Act.put, setIfInBounds_toArray, set_cons_zero, set_cons_succ]
  refine Last.done_ (by kernel_rfl) ?_
  obtain ⟨happ, R4⟩ := HA4.out
  obtain ⟨kb', cap', S5, hv5, hcap5, hF5, hs51, hs52, R5⟩ := (HR3.out.drew.alloc (.cells #[.pointer (some ⟨p, 0, none⟩)] 94)).app_kids HN.out HK.out [some p] happ (Upd.one w4 _ (by rw [(R4.hdr HN.out HK.out).2 0 _ rfl]; rfl))
  have hE5 := ((HE3.out.drew.alloc (.cells #[.pointer (some ⟨p, 0, none⟩)] 94)).trans ⟨hF5, hs51, hs52⟩)
  have HF := hidp (And.intro hE5 R5)
  clear happ R4 HA4 HB9 HB8 HR3 HE3 k1 k2 k3 k8 f2 HW hE5 R5 hF5 hs51 hs52 hcap5 hv5
  go_wp2
  go_end0
  exact ⟨rfl, kb', cap', S5, HF.out.1, HF.out.2⟩
end Go.Proofs.Ytehnobbiiokcgaa.Bt.II
