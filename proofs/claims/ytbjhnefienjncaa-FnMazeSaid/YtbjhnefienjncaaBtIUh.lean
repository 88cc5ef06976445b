/- Maps of numbers (sets): an item is set below a node, and the node below is split. -/
import Derived.Test.YtbjhnefienjncaaBtIUg
namespace Go.Proofs.Ytbjhnefienjncaa.Bt.IU
set_option linter.unusedVariables false
set_option linter.unusedSimpArgs false
open Go Go.RowKit Go.Proofs.Ytbjhnefienjncaa.Bt
open Go.Proofs.Ytbjhnefienjncaa.Bt.Last (Y Z)
open _root_.List (setIfInBounds_toArray set_cons_zero set_cons_succ)

variable {S : Nat → Prop} {w : World} {s : Sto It}

set_option maxHeartbeats 1000000 in
set_option maxRecDepth 100000 in
/-- 'nodeSet' where the node below is split, and this one has room. -/
theorem nodeSet_room (R : RepS E S w s) {A : Addr} {n : Nat} {r : NodeR It} (hA : w.cell? A = some (pv (some n))) (hn : s.nd n = some r) (hi : r.iso = s.mp.iso) (hs : Srt lt r.items) (hlen : r.items.length ≤ 100000) {k : KidR} (hk : r.kids = some k) {kb ko p : Nat} (hkb : k.base = some (kb, ko)) {x : It} (hkp : k.kids[pos lt r.items x]? = some (some p)) (hl : look lt r.items x = none) (hmx : (r.items.length : Int) < s.mp.mx) (hc0 : 0 ≤ r.count) (hc1 : r.count ≤ 100000000000) (hkn : k.kids.length = r.items.length + 1)
    (hca : ∀ w1, RepS E S w1 s → Ext S w S w1 → w1.cell? ⟨kb, ko + pos lt r.items x, none⟩ = some (pv (some p)) → Calls Try.prog 133 #[.pointer (some ⟨s.m, 0, none⟩), .pointer (some ⟨kb, ko + pos lt r.items x, none⟩), .agg #[Value.int .i64 x.1]] w1
      (fun e w' => ∃ S', e = .returned (.tuple #[Value.agg #[], .bool false, .bool true]) ∧ Ext S w1 S' w' ∧ RepS E S' w' s))
    {md : It} {D : Nat → Sto It → Prop}
    (hsp : ∀ S1 w1, RepS E S1 w1 s → Ext S w S1 w1 → Calls Try.prog 134 #[.pointer (some ⟨s.m, 0, none⟩), .pointer (some ⟨p, 0, none⟩)] w1 (fun e w' => ∃ q S' s', e = .returned (.tuple #[.pointer (some ⟨q, 0, none⟩), .agg #[Value.int .i64 md.1]]) ∧ Ext S1 w1 S' w' ∧ RepS E S' w' s' ∧ s'.m = s.m ∧ s'.mp = s.mp ∧ s'.nd n = some r ∧ D q s'))
    {Post : Ending → World → Prop}
    (hfin : ∀ q s4 S5 w5 b5 c5 kb5 kc5, D q s4 → s4.m = s.m → s4.mp = s.mp → s4.nd n = some r → Ext S w S5 w5 → w5.cell? ⟨w.heap.size + 2, 0, none⟩ = some (pv (some n)) →
      RepS E S5 w5 (s4.setNd n { r with items := r.items.take (pos lt r.items x) ++ md :: r.items.drop (pos lt r.items x), ib := b5, icap := c5, kids := some { k with base := kb5, cap := kc5, kids := k.kids.take (pos lt r.items x + 1) ++ some q :: k.kids.drop (pos lt r.items x + 1) } }) →
      Calls Try.prog 133 #[.pointer (some ⟨s.m, 0, none⟩), .pointer (some ⟨w.heap.size + 2, 0, none⟩), .agg #[Value.int .i64 x.1]] w5 (fun e w' => ∃ v2 v3, e = .returned (.tuple #[.agg #[], v2, v3]) ∧ Post e w')) :
    Calls Try.prog 133 #[.pointer (some ⟨s.m, 0, none⟩), .pointer (some A), .agg #[Value.int .i64 x.1]] w (fun e w' => Post e w') := by
  have hAlt := World.block_lt_of_cell? w _ hA
  obtain ⟨i0, hi0, hz0, hz1, hz2⟩ := info_parts infoP
  obtain ⟨j0, hj0, hy0, hy1, hy2⟩ := info_parts infoK
  have HI0 := hidp hi0
  have HZ0 := hidp hz0
  have HZ1 := hidp hz1
  have HZ2 := hidp hz2
  have HJ0 := hidp hj0
  have HY0 := hidp hy0
  have HY1 := hidp hy1
  have HY2 := hidp hy2
  clear hi0 hz0 hz1 hz2 hj0 hy0 hy1 hy2
  have hpl := pos_le (lt := lt) r.items x
  have ef : fnd lt r.items x = false := fnd_none hl
  have HK := hidp hk
  have HL := hidp hl
  have HKB := hidp hkb
  have HKP := hidp hkp
  have HCA := hidp hca
  clear hk hl hkb hkp hca
  have HX := hidp hmx
  have HSP := hidp hsp
  have HKN := hidp hkn
  have HFIN := hidp hfin
  clear hmx hsp hfin hkn
  have HR := hidp R
  have HA := hidp hA
  have HN := hidp hn
  have HI := hidp hi
  have HS := hidp hs
  have HF := hidp ef
  clear R hA hn hi hs ef
  go_enter Try.func133, Try.ntmps133
  go_wp2_with fail
  have R1 := ((HR.out.alloc (.cells #[Value.int .i64 x.1] 120)).alloc (.cells #[] 82))
  refine (isoLoad_own R1 (A := A) ((World.cell?_alloc_lt _ _ _ (by simp; omega)).trans ((World.cell?_alloc_lt _ _ _ hAlt).trans HA.out)) HN.out HI.out true).mono ?_
  rintro e w' ⟨rfl, a1, rfl⟩
  go_wp2_with fail
  refine (search_is ((R1.drewN a1).alloc (.cells #[Value.pointer (some ⟨n, 0, none⟩)] 118)) HN.out HS.out (by omega) x).mono ?_
  rintro e w' ⟨rfl, a2, rfl⟩
  rw [HF.out]
  have R2 := ((R1.drewN a1).alloc (.cells #[Value.pointer (some ⟨n, 0, none⟩)] 118)).drewN a2
  have hE2 := (((((Ext.refl S w).alloc (.cells #[Value.int .i64 x.1] 120)).alloc (.cells #[] 82)).drewN a1).alloc (.cells #[Value.pointer (some ⟨n, 0, none⟩)] 118)).drewN a2
  have B5 := ((((Bx.new w [Value.int .i64 x.1] 120).alloc (.cells #[] 82)).drewN a1).alloc (.cells #[Value.pointer (some ⟨n, 0, none⟩)] 118)).drewN a2
  have B9 := (Bx.new (((w.alloc (.cells #[Value.int .i64 x.1] 120)).alloc (.cells #[] 82)).drewN a1) [Value.pointer (some ⟨n, 0, none⟩)] 118).drewN a2
  have hsz : (((w.alloc (.cells #[Value.int .i64 x.1] 120)).alloc (.cells #[] 82)).drewN a1).heap.size = w.heap.size + 2 := by simp [World.drewN]
  rw [hsz] at B9
  have hns5 : ¬ S w.heap.size := fun h => by have := HR.out.rep.lt _ h; omega
  have hns9 : ¬ S (w.heap.size + 2) := fun h => by have := HR.out.rep.lt _ h; omega
  clear R1 hsz
  generalize hgp : pos lt r.items x = i at *
  have HGP := hidp hgp
  clear hgp
  generalize hgw : ((((w.alloc (.cells #[Value.int .i64 x.1] 120)).alloc (.cells #[] 82)).drewN a1).alloc (.cells #[Value.pointer (some ⟨n, 0, none⟩)] 118)).drewN a2 = w2 at R2 hE2 B5 B9 ⊢
  clear hgw
  obtain ⟨hnlt, _, _, _, n3⟩ := ncell R2 HN.out
  have n3' : w2.cell? ⟨n, 3, none⟩ = some (pv (some k.hdr)) := by rw [n3, HK.out]; rfl
  have d9 := B9.cell 0 rfl
  go_wp2_with fail
  refine (leaf_raw n3').mono ?_
  rintro e w' ⟨rfl, rfl⟩
  clear n3 n3'
  have n3 : w2.cell? ⟨n, 3, none⟩ = some (.pointer (some ⟨k.hdr, 0, none⟩)) := by rw [(ncell R2 HN.out).2.2.2.2, HK.out]; rfl
  have h0 : w2.cell? ⟨k.hdr, 0, none⟩ = some (.slice (some ⟨kb, ko, none⟩) k.kids.length k.cap) := by
    have := (R2.hdr HN.out HK.out).cell 0 rfl
    rw [HKB.out] at this; exact this
  have c0 : w2.cell? ⟨kb, ko + i, none⟩ = some (pv (some p)) := M_cell (R2.kid HN.out HK.out HKB.out HKP.out)
  have hkl : i < k.kids.length := (List.getElem?_eq_some_iff.1 HKP.out).1
  have hkI : (i : Int) < (k.kids.length : Int) := by omega
  have d5 := B5.cell 0 rfl
  have d6 := B5.cell 0 rfl
  have HR2 := hidp R2
  have HE2 := hidp hE2
  have HB5 := hidp B5
  have HB9 := hidp B9
  have HC0 := hidp c0
  clear R2 hE2 B5 B9 c0
  go_wp2_with fail
  go_region_held3 (fun w' => w'.cell? ⟨w.heap.size + 2, 0, none⟩ = some (.pointer (some ⟨n, 0, none⟩)) ∧ w'.cell? ⟨n, 3, none⟩ = some (.pointer (some ⟨k.hdr, 0, none⟩)) ∧ w'.cell? ⟨k.hdr, 0, none⟩ = some (.slice (some ⟨kb, ko, none⟩) k.kids.length k.cap) ∧ w'.cell? ⟨w.heap.size, 0, none⟩ = some (Value.int .i64 x.1)) (go_keep)
    ((go_at_call 133
      refine (HCA.out w2.drew HR2.out.drew HE2.out.drew HC0.out).mono ?_
      rintro e w' ⟨S3, rfl, hE3, R3⟩
      have hn3 := HN.out
      have k1 := (HB9.out.drew.keep hE3.fr hns9).cell 0 rfl
      have k2 := (HB5.out.drew.keep hE3.fr hns5).cell 0 rfl
      have k3 := (HB5.out.drew.keep hE3.fr hns5).cell 0 rfl
      have k4 : w'.cell? ⟨n, 3, none⟩ = some (.pointer (some ⟨k.hdr, 0, none⟩)) := by rw [(ncell R3 hn3).2.2.2.2, HK.out]; rfl
      have k5 : w'.cell? ⟨k.hdr, 0, none⟩ = some (.slice (some ⟨kb, ko, none⟩) k.kids.length k.cap) := by
        have := (R3.hdr hn3 HK.out).cell 0 rfl
        rw [HKB.out] at this; exact this
      have hB93 := hidp (HB9.out.drew.keep hE3.fr hns9)
      have hB53 := hidp (HB5.out.drew.keep hE3.fr hns5)
      have HE3 := hidp hE3
      have HR3 := hidp R3
      have HN3 := hidp hn3
      clear hE3 R3 hn3))
  obtain ⟨hmlt, _, _, _, _, m4, m5, _, m7, _, _⟩ := mcell HR3.out
  have n2 := (ncell HR3.out HN3.out).2.2.2.1
  have HK2 := hidp (And.intro k4 k5)
  clear k4 k5
  obtain ⟨ba, n2'⟩ : ∃ ba, w'.cell? ⟨n, 2, none⟩ = some (.slice ba r.items.length r.icap) := ⟨_, n2⟩
  clear n2
  have hne : ((r.items.length : Int) == s.mp.mx) = false := beq_eq_false_iff_ne.2 (by have := HX.out; omega)
  go_wp2_with fail
  go_quiet (fail)
  have k4 := HK2.out.1
  have k5 := HK2.out.2
  have c0 : w'.cell? ⟨kb, ko + i, none⟩ = some (.pointer (some ⟨p, 0, none⟩)) := M_cell (HR3.out.kid HN3.out HK.out HKB.out HKP.out)
  go_wp2_with fail
  refine (HSP.out S3 _ (HR3.out.drewN _) ((HE2.out.drew.trans HE3.out).drewN _)).mono ?_
  rintro e w4 ⟨q, S4, s4, rfl, hE4, R4, hm4, hmp4, hn4, hD4⟩
  have HD4 := hidp hD4
  clear hD4 m4 m5 m7 k1 k2 k3 k4 k5 c0 n2' h0 n3 d9 d5 d6
  have hS39 : ¬ S3 (w.heap.size + 2) := fun h => (HE3.out.new _ h).elim hns9 (fun h' => by have := HB9.out.1; have e : w2.drew.heap.size = w2.heap.size := rfl; omega)
  have hS35 : ¬ S3 w.heap.size := fun h => (HE3.out.new _ h).elim hns5 (fun h' => by have := HB5.out.1; have e : w2.drew.heap.size = w2.heap.size := rfl; omega)
  have hS49 : ¬ S4 (w.heap.size + 2) := fun h => (hE4.new _ h).elim hS39 (fun h' => by have := hB93.out.1; have e : (w'.drewN nq).heap.size = w'.heap.size := rfl; omega)
  have hS45 : ¬ S4 w.heap.size := fun h => (hE4.new _ h).elim hS35 (fun h' => by have := hB53.out.1; have e : (w'.drewN nq).heap.size = w'.heap.size := rfl; omega)
  have hS4m : ¬ S4 w4.heap.size := fun h => by have := R4.rep.lt _ h; omega
  have hE5 := (((HE2.out.drew.trans HE3.out).drewN nq).trans hE4).alloc (.cells #[Value.int .i64 md.1] 120)
  have R5 := R4.alloc (.cells #[Value.int .i64 md.1] 120)
  have B55 := ((hB53.out.drewN nq).keep hE4.fr hS35).alloc (.cells #[Value.int .i64 md.1] 120)
  have B59 := ((hB93.out.drewN nq).keep hE4.fr hS39).alloc (.cells #[Value.int .i64 md.1] 120)
  have BM := Bx.new w4 [Value.int .i64 md.1] 120
  have d9 := ((hB93.out.drewN nq).keep hE4.fr hS39).cell 0 rfl
  clear HR3 HE3 hB53 hB93 HR2 HE2 HB5 HB9 HK2 HSP hE4 R4 HC0
  go_wp2_with fail
  generalize w4.heap.size = mb at BM hS4m ⊢
  generalize w4.alloc (.cells #[Value.int .i64 md.1] 120) = w5 at R5 hE5 B55 B59 BM ⊢
  clear d9
  have HN4 := hidp hn4
  have h3 : w5.cell? ⟨n, 3, none⟩ = some (.pointer (some ⟨k.hdr, 0, none⟩)) := by rw [(ncell R5 hn4).2.2.2.2, HK.out]; rfl
  have h0 : w5.cell? ⟨k.hdr, 0, none⟩ = some (.slice (some ⟨kb, ko, none⟩) k.kids.length k.cap) := by
    have := (R5.hdr hn4 HK.out).cell 0 rfl
    rw [HKB.out] at this; exact this
  have d9 := B59.cell 0 rfl
  have hkl1 : k.kids.length ≤ 100001 := by rw [HKN.out]; omega
  have HR5 := hidp R5
  have HE5 := hidp hE5
  have HB55 := hidp B55
  have HB59 := hidp B59
  have HBM := hidp BM
  have hhS := R5.inS_hdr hn4 HK.out
  have hh9 : ¬ k.hdr = w.heap.size + 2 := fun e => hS49 (e ▸ hhS)
  have hhn : ¬ k.hdr = n := fun e => R5.hdr_ne_node hn4 HK.out hn4 e
  clear R5 hE5 B55 B59 BM hn4
  refine Last.start_ (S := fun w' => w'.cell? ⟨w.heap.size + 2, 0, none⟩ = some (.pointer (some ⟨n, 0, none⟩)) ∧ w'.cell? ⟨n, 3, none⟩ = some (.pointer (some ⟨k.hdr, 0, none⟩)) ∧ w'.cell? ⟨k.hdr, 0, none⟩ = some (.slice (some ⟨kb, ko, none⟩) k.kids.length k.cap)) (ds := [13]) #[Z,Z,Z,Z,Z,Z,Z,Z,Z,Z,Z,Z,Z,Z] (by rfl) (by rfl) (by rfl) ?_ (fun hHeld => ?_)
  · go_keep
  refine Last.tk 0 150 #[Y,Z,Z,Z,Z,Z,Z,Z,Z,Z,Z,Z,Z,Z] rfl rfl hHeld ?_
  refine Last.tk 1 151 #[Y,Y,Z,Z,Z,Z,Z,Z,Z,Z,Z,Z,Z,Z] rfl rfl hHeld ?_
  refine Last.tk 2 152 #[Y,Y,Y,Z,Z,Z,Z,Z,Z,Z,Z,Z,Z,Z] rfl rfl hHeld ?_
  refine Last.tk 3 153 #[Y,Y,Y,Y,Z,Z,Z,Z,Z,Z,Z,Z,Z,Z] rfl rfl hHeld ?_
  refine Last.tk 4 154 #[Y,Y,Y,Y,Y,Z,Z,Z,Z,Z,Z,Z,Z,Z] rfl rfl hHeld ?_
  refine Last.tk 5 155 #[Y,Y,Y,Y,Y,Y,Z,Z,Z,Z,Z,Z,Z,Z] rfl rfl hHeld ?_
  refine Last.tk 6 156 #[Y,Y,Y,Y,Y,Y,Y,Z,Z,Z,Z,Z,Z,Z] rfl rfl hHeld ?_
  refine Last.tk 7 157 #[Y,Y,Y,Y,Y,Y,Y,Y,Z,Z,Z,Z,Z,Z] rfl rfl hHeld ?_
  refine Last.tk 8 158 #[Y,Y,Y,Y,Y,Y,Y,Y,Y,Z,Z,Z,Z,Z] rfl rfl hHeld ?_
  refine Last.tk 9 159 #[Y,Y,Y,Y,Y,Y,Y,Y,Y,Y,Z,Z,Z,Z] rfl rfl hHeld ?_
  refine Last.one_ (i := 10) (N := some 160) #[Y,Y,Y,Y,Y,Y,Y,Y,Y,Y,Y,Z,Z,Z] rfl rfl (by kernel_rfl) (by decide) (fun K hK => ?_)
  go_simp
  refine hK.out _ _ ?_ (fun hHeld => ?_)
  · (try dsimp only); go_keep
  clear hK K
  try simp only [Act.put, setIfInBounds_toArray, set_cons_zero, set_cons_succ]
  refine Last.one_ (i := 11) (N := some 161) #[Y,Y,Y,Y,Y,Y,Y,Y,Y,Y,Y,Y,Z,Z] rfl rfl (by kernel_rfl) (by decide) (fun K hK => ?_)
  refine step_app (by rfl) _ _ _ (by rfl) 118 j0 _ 1 8 Try.underlying185 HJ0.out HY0.out HY1.out HY2.out rfl (by decide) (some (kb, ko)) k.kids.length k.cap (k.kids.map pv) (by rfl) (fun h => absurd h (by simp)) (by simp)
          (fun b o hb => by cases hb; rw [Nat.mul_one]; exact ((HR5.out.drew).alloc _).arr HN4.out HK.out HKB.out) ⟨w5.heap.size, 0, none⟩ 1 1 [.pointer none] (by rfl) (by decide) (by rfl) (fun j u hj => by rw [Addr.add_lit, Nat.zero_add]; exact (Bx.new (w5.drew) [Value.pointer none] 118).cell j hj) (by simp [Value.oneCell']) (by unfold maxLen; omega) (by omega) ?_
  intro v' w6 happ
  obtain ⟨gb, gq, gc, rfl⟩ := happ.form
  rw [← HKB.out] at happ
  obtain ⟨R6, hF6⟩ := ((HR5.out.drew).alloc (.cells #[Value.pointer none] 118)).app_keep_kids HN4.out HK.out (m := 1) (by rfl) happ
  have k1 := (((HB59.out.drew).alloc (.cells #[Value.pointer none] 118)).keep hF6 hS49).cell 0 rfl
  have k2 : w6.cell? ⟨n, 3, none⟩ = some (.pointer (some ⟨k.hdr, 0, none⟩)) := by rw [(ncell R6 HN4.out).2.2.2.2, HK.out]; rfl
  have k3 : w6.cell? ⟨k.hdr, 0, none⟩ = some (.slice (some ⟨kb, ko, none⟩) k.kids.length k.cap) := by
    have := (R6.hdr HN4.out HK.out).cell 0 rfl
    rw [HKB.out] at this; exact this
  have f2 := (R6.hdr HN4.out HK.out).froz 0 rfl
  have HA6 := hidp (And.intro happ R6)
  clear happ R6 hF6
  refine hK.out _ _ ?_ (fun hHeld => ?_)
  · (try dsimp only); go_keep
  clear hK K
  try simp only [Act.put, setIfInBounds_toArray, set_cons_zero, set_cons_succ]
  refine Last.tk 12 162 #[Y,Y,Y,Y,Y,Y,Y,Y,Y,Y,Y,Y,Y,Z] rfl rfl hHeld ?_
  refine Last.last_ (i := 13) (N := none) #[Y,Y,Y,Y,Y,Y,Y,Y,Y,Y,Y,Y,Y,Y] rfl rfl (by kernel_rfl) (by decide) (fun K hK => ?_)
  go_simp
  refine hK.out _ _ ?_
  clear hK K
  try simp only [Act.put, setIfInBounds_toArray, set_cons_zero, set_cons_succ]
  refine Last.done_ (by kernel_rfl) ?_
  obtain ⟨happ, R6⟩ := HA6.out
  obtain ⟨kb', kc', S7, hv7, hcap7, hF7, hs71, hs72, R7⟩ := (HR5.out.drew.alloc (.cells #[.pointer none] 118)).app_kids HN4.out HK.out [none] happ (Upd.one w6 _ (by rw [(R6.hdr HN4.out HK.out).2 0 _ rfl]; rfl))
  have hE7 := ((HE5.out.drew.alloc (.cells #[.pointer none] 118)).trans ⟨hF7, hs71, hs72⟩)
  have B75 := (HB55.out.drew.alloc (.cells #[.pointer none] 118)).keep hF7 hS45
  have B79 := (HB59.out.drew.alloc (.cells #[.pointer none] 118)).keep hF7 hS49
  have BM7 := (HBM.out.drew.alloc (.cells #[.pointer none] 118)).keep hF7 hS4m
  have e5 : w5.drew.heap.size = w5.heap.size := rfl
  have hS79 : ¬ S7 (w.heap.size + 2) := fun h => (hs71 _ h).elim hS49 (fun h' => by have := HB59.out.1; rw [World.size_alloc] at h'; omega)
  have hS75 : ¬ S7 w.heap.size := fun h => (hs71 _ h).elim hS45 (fun h' => by have := HB55.out.1; rw [World.size_alloc] at h'; omega)
  have hS7m : ¬ S7 mb := fun h => (hs71 _ h).elim hS4m (fun h' => by have := HBM.out.1; rw [World.size_alloc] at h'; omega)
  clear happ R6 HA6 HB55 HB59 HBM HR5 HE5 k1 k2 k3 f2 h3 h0
  generalize w6.setCell ⟨k.hdr, 0, none⟩ (.slice (some ⟨gb, gq, none⟩) (k.kids.length + 1) gc) = w7 at R7 hE7 B75 B79 BM7 ⊢
  obtain ⟨rfl, rfl⟩ : kb' = some (gb, gq) ∧ gc = kc' := sv_inj hv7
  clear hv7 hcap7 hF7 hs71 hs72
  have hl1 : (k.kids ++ [none]).length = k.kids.length + 1 := by simp
  have hl8 : ((k.kids ++ [none]).take (i + 1) ++ k.kids.drop i ++ (k.kids ++ [none]).drop (i + 1 + (k.kids.drop i).length)).length = k.kids.length + 1 := by simp; omega
  have N7 := Sto.nd_same s4 n { r with kids := some { k with kids := k.kids ++ [none], base := some (gb, gq), cap := gc } }
  have h3 : w7.cell? ⟨n, 3, none⟩ = some (.pointer (some ⟨k.hdr, 0, none⟩)) := (ncell R7 N7).2.2.2.2
  have h0 : w7.cell? ⟨k.hdr, 0, none⟩ = some (.slice (some ⟨gb, gq, none⟩) (k.kids.length + 1) gc) := by
    have := (R7.hdr N7 rfl).cell 0 (v := sv (some (gb, gq)) (k.kids ++ [none]).length gc) rfl
    rw [hl1] at this; exact this
  have hgc : k.kids.length + 1 ≤ gc := by have := (R7.wf _ _ N7).2.2.2 _ rfl; rw [← hl1]; exact this
  have d9 := B79.cell 0 rfl
  have HR7 := hidp R7
  have HE7 := hidp hE7
  have HB75 := hidp B75
  have HB79 := hidp B79
  have HBM := hidp BM7
  have hw1 : IntKind.i64.wrap ((i : Int) + 1) = (i : Int) + 1 := by rw [Last.i64_w]; exact IntWalk.wrap64_in _ ⟨by omega, by omega⟩
  have hb0 : (0 : Int) ≤ (i : Int) := by omega
  have hb1 : (0 : Int) ≤ (i : Int) + 1 := by omega
  have hb2 : (i : Int) ≤ ((k.kids.length : Nat) : Int) + 1 := by omega
  have hb3 : (i : Int) + 1 ≤ ((k.kids.length : Nat) : Int) + 1 := by omega
  clear R7 hE7 B75 B79 BM7
  go_wp2_with fail
  go_region_held3 (fun w' => w'.cell? ⟨w.heap.size + 2, 0, none⟩ = some (.pointer (some ⟨n, 0, none⟩)) ∧ w'.cell? ⟨n, 3, none⟩ = some (.pointer (some ⟨k.hdr, 0, none⟩)) ∧ w'.cell? ⟨k.hdr, 0, none⟩ = some (.slice (some ⟨gb, gq, none⟩) (k.kids.length + 1) gc)) (go_keep)
    ((refine step_copy (by rfl) _ _ _ _ (by rfl) 118 j0 1 Try.underlying185 HJ0.out HY1.out gb (gq + (i + 1)) (k.kids.length - i) (gc - (i + 1)) ?hd gb (gq + i) (k.kids.length + 1 - i) (gc - i) ?hx ((k.kids.drop i).map pv) ?hn (fun j v hj => ?hs) ?hc (fun v hv => by obtain ⟨p', _, rfl⟩ := List.mem_map.1 hv; cases p' <;> rfl) ?_
      case hd => (simp [Act.eval]; omega)
      case hx => (simp [Act.eval]; omega)
      case hn =>
        have e : Nat.min (k.kids.length + 1 - i) (k.kids.length - i) = k.kids.length - i := Nat.min_eq_right (by omega)
        rw [List.length_map, List.length_drop, e, Nat.mul_one]
      case hs =>
        rw [Nat.add_assoc]
        refine (HR7.out.drew.arr N7 rfl rfl).val (i + j) v ?_
        rw [List.map_append, List.getElem?_append_left (by have := (List.getElem?_eq_some_iff.1 hj).1; rw [List.length_map, List.length_drop] at this; rw [List.length_map]; omega), ← hj, List.map_drop, List.getElem?_drop]
      case hc =>
        intro j hj
        rw [List.length_map, List.length_drop] at hj
        rw [Nat.add_assoc]
        exact (HR7.out.drew.arr N7 rfl rfl).some (i + 1 + j) (by show i + 1 + j < gc; omega)
      intro w8 hu8
      have R8 := (HR7.out.drew).set_kids N7 rfl rfl (a := i + 1) (k.kids.drop i) (by rw [hl1, List.length_drop]; omega) rfl hu8
      rw [Sto.setNd_again] at R8
      have N8 := Sto.nd_same s4 n { r with kids := some { k with kids := (k.kids ++ [none]).take (i + 1) ++ k.kids.drop i ++ (k.kids ++ [none]).drop (i + 1 + (k.kids.drop i).length), base := some (gb, gq), cap := gc } }
      have k1 := (HB79.out.drew.keep hu8.fr (fun e => hS79 (e ▸ HR7.out.inS_arr N7 rfl rfl))).cell 0 rfl
      have k2 : w8.cell? ⟨n, 3, none⟩ = some (.pointer (some ⟨k.hdr, 0, none⟩)) := (ncell R8 N8).2.2.2.2
      have k3 := (R8.hdr N8 rfl).cell 0 (v := sv (some (gb, gq)) ((k.kids ++ [none]).take (i + 1) ++ k.kids.drop i ++ (k.kids ++ [none]).drop (i + 1 + (k.kids.drop i).length)).length gc) rfl
      rw [hl8] at k3
      have k3' : w8.cell? ⟨k.hdr, 0, none⟩ = some (.slice (some ⟨gb, gq, none⟩) (k.kids.length + 1) gc) := k3
      have HU8 := hidp hu8
      have HR8 := hidp R8
      have HN8 := hidp N8
      clear hu8 R8 N8 k3))
  have hE8 := HE7.out.drew.upd HU8.out (.inl (HR7.out.inS_arr N7 rfl rfl))
  have B85 := HB75.out.drew.keep HU8.out.fr (fun e => hS75 (e ▸ HR7.out.inS_arr N7 rfl rfl))
  have B89 := HB79.out.drew.keep HU8.out.fr (fun e => hS79 (e ▸ HR7.out.inS_arr N7 rfl rfl))
  have BM8 := HBM.out.drew.keep HU8.out.fr (fun e => hS7m (e ▸ HR7.out.inS_arr N7 rfl rfl))
  clear HR7 HE7 HB75 HB79 HBM HU8 d9 h3 h0 N7
  obtain ⟨l8, hg8⟩ : ∃ l8, l8 = (k.kids ++ [none]).take (i + 1) ++ k.kids.drop i ++ (k.kids ++ [none]).drop (i + 1 + (k.kids.drop i).length) := ⟨_, rfl⟩
  have R8 := HR8.out
  have N8 := HN8.out
  rw [← hg8] at R8 N8 hl8
  have HG8 := hidp hg8
  have hS8 := R8.inS_arr N8 rfl rfl
  have hi8 : i + 1 < l8.length := by omega
  obtain ⟨y8, hy8⟩ : ∃ y, l8[i + 1]? = some y := ⟨_, List.getElem?_eq_getElem hi8⟩
  have c8 := R8.kid N8 rfl rfl hy8
  have d8 := M_cell c8
  have f8 := M_froz c8
  have hu := Upd.one w8 (b := gb) (o := gq + (i + 1)) (.pointer (some ⟨q, 0, none⟩)) (by rw [c8]; rfl)
  have d9 := B89.cell 0 rfl
  have hp1 : (i : Int) + 1 < ((k.kids.length : Nat) : Int) + 1 := by omega
  have R9 := R8.set_kid N8 rfl rfl (i := i + 1) (some q) hi8 rfl hu
  rw [Sto.setNd_again] at R9
  have hE9 := hE8.upd hu (.inl hS8)
  have B95 := B85.upd hu (fun e => hS75 (e ▸ hS8))
  have B99 := B89.upd hu (fun e => hS79 (e ▸ hS8))
  have BM9 := BM8.upd hu (fun e => hS7m (e ▸ hS8))
  have HR9 := hidp R9
  have HE9 := hidp hE9
  have HB95 := hidp B95
  have HB99 := hidp B99
  have HBM9 := hidp BM9
  clear hg8 R8 N8 c8 hu R9 hE9 B95 B99 BM9 hE8 B85 B89 BM8 HR8 HN8
  generalize (if gc = i + 1 then (some ⟨gb, gq, none⟩ : Option Addr) else some ⟨gb, gq + (i + 1), none⟩) = zz1
  generalize (if gc = i then (some ⟨gb, gq, none⟩ : Option Addr) else some ⟨gb, gq + i, none⟩) = zz2
  go_wp2_with fail
  have hE9 := HE9.out
  have R3 := HR9.out
  have B95 := HB95.out
  have B93 := HB99.out
  have B53 := HBM9.out
  clear HE9 HR9 HB95 HB99 HBM9 d9 d8 f8 k1 k2 k3'
  obtain ⟨r9, hr9⟩ : ∃ r9 : NodeR It, r9 = { r with kids := some { k with kids := l8.set (i + 1) (some q), base := some (gb, gq), cap := gc } } := ⟨_, rfl⟩
  rw [← hr9] at R3
  obtain ⟨s9, hs9⟩ : ∃ s9, s9 = s4.setNd n r9 := ⟨_, rfl⟩
  rw [← hs9] at R3
  have HN9 : Hid (s9.nd n = some r9) := hidp (by rw [hs9]; exact Sto.nd_same _ _ _)
  have hm9 : s9.m = s.m := by rw [hs9]; exact hm4
  have hri : r9.items = r.items := by rw [hr9]
  have hpl : i ≤ r9.items.length := by rw [hri]; exact hpl
  have hlen9 : r9.items.length ≤ 100000 := by rw [hri]; exact hlen
  have hns5 := hS7m
  have hns9 := hS79
  have HR9e := hidp hr9
  have HS9e := hidp hs9
  clear hr9 hs9 hri
  generalize w8.setCell ⟨gb, gq + (i + 1), none⟩ (.pointer (some ⟨q, 0, none⟩)) = w3 at R3 hE9 B95 B93 B53 ⊢
  have HE9 := hidp hE9
  have HB95 := hidp B95
  have hE3 := Ext.refl S7 w3
  clear hE9 B95
  have hnS := R3.inS_node HN9.out
  have hnm : ¬ n = s.m := fun e => R3.node_ne_map HN9.out (e.trans hm9.symm)
  have hn9 : ¬ n = w.heap.size + 2 := fun e => hns9 (e ▸ hnS)
  obtain ⟨hnlt, _, _, n2, _⟩ := ncell R3 HN9.out
  have m4 : w3.cell? ⟨s.m, 4, none⟩ = some (Value.int .i64 0) := by rw [← hm9]; exact (mcell R3).2.2.2.2.2.1
  have m5 : w3.cell? ⟨s.m, 4, none⟩ = some (Value.int .i64 0) := by rw [← hm9]; exact (mcell R3).2.2.2.2.2.2.1
  have d3 := B93.cell 0 rfl
  have HR3 := hidp R3
  have HB9 := hidp B93
  have HW := hidp (R3.wf n r9 HN9.out)
  clear R3 B93
  go_wp2_with fail
  refine Last.start_ (S := fun w' => w'.cell? ⟨w.heap.size + 2, 0, none⟩ = some (.pointer (some ⟨n, 0, none⟩)) ∧ w'.cell? ⟨n, 2, none⟩ = some (sv r9.ib r9.items.length r9.icap) ∧ w'.cell? ⟨s.m, 4, none⟩ = some (Value.int .i64 0)) (ds := [13]) #[Z,Z,Z,Z,Z,Z,Z,Z,Z,Z,Z,Z,Z,Z] (by rfl) (by rfl) (by rfl) ?_ (fun hHeld => ?_)
  · go_keep
  refine Last.tk 0 191 #[Y,Z,Z,Z,Z,Z,Z,Z,Z,Z,Z,Z,Z,Z] rfl rfl hHeld ?_
  refine Last.tk 1 192 #[Y,Y,Z,Z,Z,Z,Z,Z,Z,Z,Z,Z,Z,Z] rfl rfl hHeld ?_
  refine Last.tk 2 193 #[Y,Y,Y,Z,Z,Z,Z,Z,Z,Z,Z,Z,Z,Z] rfl rfl hHeld ?_
  refine Last.tk 3 194 #[Y,Y,Y,Y,Z,Z,Z,Z,Z,Z,Z,Z,Z,Z] rfl rfl hHeld ?_
  refine Last.tk 4 195 #[Y,Y,Y,Y,Y,Z,Z,Z,Z,Z,Z,Z,Z,Z] rfl rfl hHeld ?_
  refine Last.tk 5 196 #[Y,Y,Y,Y,Y,Y,Z,Z,Z,Z,Z,Z,Z,Z] rfl rfl hHeld ?_
  refine Last.tk 6 197 #[Y,Y,Y,Y,Y,Y,Y,Z,Z,Z,Z,Z,Z,Z] rfl rfl hHeld ?_
  refine Last.tk 7 198 #[Y,Y,Y,Y,Y,Y,Y,Y,Z,Z,Z,Z,Z,Z] rfl rfl hHeld ?_
  refine Last.tk 8 199 #[Y,Y,Y,Y,Y,Y,Y,Y,Y,Z,Z,Z,Z,Z] rfl rfl hHeld ?_
  refine Last.one_ (i := 9) (N := some 200) #[Y,Y,Y,Y,Y,Y,Y,Y,Y,Y,Z,Z,Z,Z] rfl rfl (by kernel_rfl) (by decide) (fun K hK => ?_)
  go_simp
  refine hK.out _ _ ?_ (fun hHeld => ?_)
  · (try dsimp only); go_keep
  clear hK K
  try simp only [Act.put, setIfInBounds_toArray, set_cons_zero, set_cons_succ]
  refine Last.one_ (i := 10) (N := some 201) #[Y,Y,Y,Y,Y,Y,Y,Y,Y,Y,Y,Z,Z,Z] rfl rfl (by kernel_rfl) (by decide) (fun K hK => ?_)
  refine step_app (by rfl) _ _ _ (by rfl) 120 i0 _ 1 8 Try.underlying181 HI0.out HZ0.out HZ1.out HZ2.out rfl (by decide) r9.ib r9.items.length r9.icap (itemCells E r9.items) (by rfl) (fun h => ⟨by rw [(HW.out.1 h).1]; rfl, (HW.out.1 h).2⟩) (itemCells_length _)
          (fun b o hb => ((HR3.out.drew).alloc _).items HN9.out hb) ⟨w3.heap.size, 0, none⟩ 1 1 [Value.int .i64 0] (by rfl) (by decide) (by rfl) (fun j u hj => by rw [Addr.add_lit, Nat.zero_add]; exact (Bx.new (w3.drew) [Value.int .i64 0] 120).cell j hj) (by simp [Value.oneCell']) (by unfold maxLen; omega) (by omega) ?_
  intro v' w4 happ
  obtain ⟨gb, gq, gc, rfl⟩ := happ.form
  obtain ⟨R4, hF4⟩ := ((HR3.out.drew).alloc (.cells #[Value.int .i64 0] 120)).app_keep_items HN9.out (m := 1) (by rfl) happ
  have k1 := (((HB9.out.drew).alloc (.cells #[Value.int .i64 0] 120)).keep hF4 hns9).cell 0 rfl
  have k2 := (R4.node HN9.out).cell 2 (v := sv r9.ib r9.items.length r9.icap) rfl
  have f2 := (R4.node HN9.out).froz 2 (v := sv r9.ib r9.items.length r9.icap) rfl
  have k3 : w4.cell? ⟨s.m, 4, none⟩ = some (Value.int .i64 0) := by rw [← hm9]; exact (mcell R4).2.2.2.2.2.1
  have k4 : w4.cell? ⟨s.m, 4, none⟩ = some (Value.int .i64 0) := by rw [← hm9]; exact (mcell R4).2.2.2.2.2.2.1
  have HA4 := hidp (And.intro happ R4)
  clear happ R4 hF4
  refine hK.out _ _ ?_ (fun hHeld => ?_)
  · (try dsimp only); go_keep
  clear hK K
  try simp only [Act.put, setIfInBounds_toArray, set_cons_zero, set_cons_succ]
  refine Last.tk 11 202 #[Y,Y,Y,Y,Y,Y,Y,Y,Y,Y,Y,Y,Z,Z] rfl rfl hHeld ?_
  refine Last.tk 12 203 #[Y,Y,Y,Y,Y,Y,Y,Y,Y,Y,Y,Y,Y,Z] rfl rfl hHeld ?_
  refine Last.last_ (i := 13) (N := none) #[Y,Y,Y,Y,Y,Y,Y,Y,Y,Y,Y,Y,Y,Y] rfl rfl (by kernel_rfl) (by decide) (fun K hK => ?_)
  go_simp
  refine hK.out _ _ ?_
  clear hK K
  try simp only [Act.put, setIfInBounds_toArray, set_cons_zero, set_cons_succ]
  refine Last.done_ (by kernel_rfl) ?_
  obtain ⟨happ, R4⟩ := HA4.out
  obtain ⟨ib', cap', S5, hv5, hcap5, hF5, hs51, hs52, R5⟩ := (HR3.out.drew.alloc (.cells #[Value.int .i64 0] 120)).app_items HN9.out [((0 : Int), ())] happ (Upd.one w4 _ (by rw [(R4.node HN9.out).2 2 _ rfl]; rfl))
  have hE5 := ((hE3.drew.alloc (.cells #[Value.int .i64 0] 120)).trans ⟨hF5, hs51, hs52⟩)
  have B55 := (B53.drew.alloc (.cells #[Value.int .i64 0] 120)).keep hF5 hns5
  have B59 := (HB9.out.drew.alloc (.cells #[Value.int .i64 0] 120)).keep hF5 hns9
  have HSB : Hid (¬ S5 (w.heap.size + 2) ∧ ¬ S5 mb) := hidp ⟨fun h => (hs51 _ h).elim hns9 (fun h' => by have := HB9.out.1; rw [World.size_alloc] at h'; have e : w3.drew.heap.size = w3.heap.size := rfl; omega), fun h => (hs51 _ h).elim hns5 (fun h' => by have := B53.1; rw [World.size_alloc] at h'; have e : w3.drew.heap.size = w3.heap.size := rfl; omega)⟩
  clear happ R4 HA4 HB9 HR3 hE3 B53 k1 k2 k3 k4 f2 HW
  generalize w4.setCell ⟨n, 2, none⟩ (.slice (some ⟨gb, gq, none⟩) (r9.items.length + 1) gc) = w5 at R5 hE5 B55 B59 ⊢
  obtain ⟨rfl, rfl⟩ : ib' = some (gb, gq) ∧ gc = cap' := sv_inj hv5
  clear hv5 hcap5 hF5 hs51 hs52
  have hl1 : (r9.items ++ [((0 : Int), ())]).length = r9.items.length + 1 := by simp
  have hl6 : ((r9.items ++ [((0 : Int), ())]).take (i + 1) ++ r9.items.drop i ++ (r9.items ++ [((0 : Int), ())]).drop (i + 1 + (r9.items.drop i).length)).length = r9.items.length + 1 := by simp; omega
  have N5 := Sto.nd_same s9 n { r9 with items := r9.items ++ [((0 : Int), ())], ib := some (gb, gq), icap := gc }
  obtain ⟨_, _, _, n2, _⟩ := ncell R5 N5
  rw [hl1] at n2
  have n2' : w5.cell? ⟨n, 2, none⟩ = some (.slice (some ⟨gb, gq, none⟩) (r9.items.length + 1) gc) := n2
  have hgc : r9.items.length + 1 ≤ gc := by have := (R5.wf _ _ N5).2.2.1; rw [hl1] at this; exact this
  have d9 := B59.cell 0 rfl
  have HR5 := hidp R5
  have HE5 := hidp hE5
  have HB55 := hidp B55
  have HB59 := hidp B59
  have hw1 : IntKind.i64.wrap ((i : Int) + 1) = (i : Int) + 1 := by rw [Last.i64_w]; exact IntWalk.wrap64_in _ ⟨by omega, by omega⟩
  have hb0 : (0 : Int) ≤ (i : Int) := by omega
  have hb1 : (0 : Int) ≤ (i : Int) + 1 := by omega
  have hb2 : (i : Int) ≤ ((r9.items.length : Nat) : Int) + 1 := by omega
  have hb3 : (i : Int) + 1 ≤ ((r9.items.length : Nat) : Int) + 1 := by omega
  clear R5 hE5 B55 B59 n2
  go_wp2_with fail
  go_region_held3 (fun w' => w'.cell? ⟨w.heap.size + 2, 0, none⟩ = some (.pointer (some ⟨n, 0, none⟩)) ∧ w'.cell? ⟨n, 2, none⟩ = some (.slice (some ⟨gb, gq, none⟩) (r9.items.length + 1) gc)) (go_keep)
    ((refine step_copy (by rfl) _ _ _ _ (by rfl) 120 i0 1 Try.underlying181 HI0.out HZ1.out gb (gq + (i + 1)) (r9.items.length - i) (gc - (i + 1)) ?hd gb (gq + i) (r9.items.length + 1 - i) (gc - i) ?hx (itemCells E (r9.items.drop i)) ?hn (fun j v hj => (by have h9 := HR5.out.src_items (a := i) (m := [((0 : Int), ())]) N5 rfl (List.drop_append_of_le_length hpl) (by rw [hl1]; omega) hj; rw [show i * E.sz = i from Nat.mul_one i] at h9; exact h9)) ?hc (itemCells_one _) ?_
      case hd => (simp [Act.eval]; omega)
      case hx => (simp [Act.eval]; omega)
      case hn =>
        have e : Nat.min (r9.items.length + 1 - i) (r9.items.length - i) = r9.items.length - i := Nat.min_eq_right (by omega)
        rw [itemCells_length, List.length_drop, e]; rfl
      case hc =>
        intro j hj
        rw [itemCells_length, List.length_drop] at hj
        rw [Nat.add_assoc]
        exact HR5.out.dst_items N5 rfl (by show (i + 1) + j < gc * 1; have h2 : E.sz = 1 := rfl; rw [h2] at hj; omega)
      intro w6 hu6
      have k1 := (HB59.out.drew.keep hu6.fr (fun e => HSB.out.1 (e ▸ HR5.out.inS_items N5 rfl))).cell 0 rfl
      have k2 := (((HR5.out.drew).set_items N5 rfl (a := i + 1) (r9.items.drop i) (by rw [hl1, List.length_drop]; omega) (by show _ = _ + _ * 1; rw [Nat.mul_one]) hu6).node (Sto.nd_same _ _ _)).cell 2 (v := sv (some (gb, gq)) ((r9.items ++ [((0 : Int), ())]).take (i + 1) ++ r9.items.drop i ++ (r9.items ++ [((0 : Int), ())]).drop (i + 1 + (r9.items.drop i).length)).length gc) rfl
      rw [hl6] at k2
      have k2' : w6.cell? ⟨n, 2, none⟩ = some (.slice (some ⟨gb, gq, none⟩) (r9.items.length + 1) gc) := k2
      clear k2
      have HU6 := hidp hu6
      clear hu6))
  have R6 := (HR5.out.drew).set_items N5 rfl (a := i + 1) (r9.items.drop i) (by rw [hl1, List.length_drop]; omega) (by show _ = _ + _ * 1; rw [Nat.mul_one]) HU6.out
  rw [Sto.setNd_again] at R6
  have hE6 := HE5.out.drew.upd HU6.out (.inl (HR5.out.inS_items N5 rfl))
  have B65 := HB55.out.drew.keep HU6.out.fr (fun e => HSB.out.2 (e ▸ HR5.out.inS_items N5 rfl))
  have B69 := HB59.out.drew.keep HU6.out.fr (fun e => HSB.out.1 (e ▸ HR5.out.inS_items N5 rfl))
  clear HR5 HE5 HB55 HB59 HU6 d9 n2' N5
  have N6 := Sto.nd_same s9 n { r9 with items := (r9.items ++ [((0 : Int), ())]).take (i + 1) ++ r9.items.drop i ++ (r9.items ++ [((0 : Int), ())]).drop (i + 1 + (r9.items.drop i).length), ib := some (gb, gq), icap := gc }
  have hg6 : ∃ l6, l6 = (r9.items ++ [((0 : Int), ())]).take (i + 1) ++ r9.items.drop i ++ (r9.items ++ [((0 : Int), ())]).drop (i + 1 + (r9.items.drop i).length) := ⟨_, rfl⟩
  obtain ⟨l6, hg6⟩ := hg6
  rw [← hg6] at R6 N6 hl6
  have HG6 := hidp hg6
  clear hg6
  have hi6 : i < l6.length := by omega
  obtain ⟨y6, hy6⟩ : ∃ y, l6[i]? = some y := ⟨_, List.getElem?_eq_getElem hi6⟩
  obtain ⟨_, _, _, n2, _⟩ := ncell R6 N6
  rw [hl6] at n2
  have n2' : w6.cell? ⟨n, 2, none⟩ = some (.slice (some ⟨gb, gq, none⟩) (r9.items.length + 1) gc) := n2
  obtain ⟨i1, i2⟩ := imem R6 N6 rfl hy6
  have hu := Upd.one w6  (Value.int .i64 md.1) (by rw [i2]; rfl)
  have c1 := M_cell i1
  have c2 := M_cell i2
  have f1 := M_froz i1
  have f2 := M_froz i2
  have d1 := B65.cell 0 rfl
  have d2 := B65.cell 0 rfl
  have d3 := B69.cell 0 rfl
  have hblt : gb < w6.heap.size := R6.rep.lt gb (R6.inS_items N6 rfl)
  have hp1 : (i : Int) < ((r9.items.length : Nat) : Int) + 1 := by omega
  have hgS := R6.inS_items N6 rfl
  have R7 := R6.set_item N6 rfl (i := i) md hi6 (by show _ = _ + _ * 1; rw [Nat.mul_one]) hu
  rw [Sto.setNd_again] at R7
  have hE7 := hE6.upd hu (.inl hgS)
  have B79 := B69.upd hu (fun e => HSB.out.1 (e ▸ hgS))
  have HR7 := hidp R7
  have HE7 := hidp hE7
  have HB79 := hidp B79
  clear n2 i1 i2 hu R6 hE6 B65 B69 R7 hE7 B79 N6
  generalize (if gc = i + 1 then (some ⟨gb, gq, none⟩ : Option Addr) else some ⟨gb, gq + (i + 1), none⟩) = zz1
  generalize (if gc = i then (some ⟨gb, gq, none⟩ : Option Addr) else some ⟨gb, gq + i, none⟩) = zz2
  go_wp2_with fail
  go_region
  have R7 := HR7.out.drew
  have hE7 := HE7.out.drew
  have B79 := HB79.out.drew
  clear HR7 HE7 HB79 c1 c2 f1 f2 d1 d2 d3 n2' k1 k2'
  generalize (w6.setCell ⟨gb, gq + i, none⟩ (Value.int .i64 md.1)).drew = w7 at R7 hE7 B79 ⊢
  have hEE := HE9.out.trans hE7
  have BX := HB95.out.keep hE7.fr hS75
  have d1 := BX.cell 0 rfl
  have d2 := BX.cell 0 rfl
  have d3 := B79.cell 0 rfl
  rw [HS9e.out, Sto.setNd_again, HG6.out, shift_set hpl] at R7
  have hr9 := HR9e.out
  subst hr9
  rw [HG8.out, shift_set2 hkl] at R7
  have HF := hidp (HFIN.out q s4 S5 w7 _ _ _ _ HD4.out hm4 hmp4 HN4.out hEE d3 R7)
  clear R7 hE7 B79 hEE BX
  go_wp2_with fail
  refine HF.out.mono ?_
  rintro e w9 ⟨v2, v3, rfl, hpost⟩
  have HPO := hidp hpost
  clear hpost
  go_wp2
  refine bodyPost_ret (v := .tuple #[Value.agg #[], v2, v3]) (by simp [results, Try.results133, go_sem]) rfl ?_
  exact HPO.out

end Go.Proofs.Ytbjhnefienjncaa.Bt.IU
