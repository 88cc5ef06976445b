/- Maps of numbers (sets): an item is set below a node. -/
import Derived.Test.YtbjhnefienjncaaBtIUf
import Derived.Deep.RegionHeld3
namespace Go.Proofs.Ytbjhnefienjncaa.Bt.IU
set_option linter.unusedVariables false
set_option linter.unusedSimpArgs false
open Go Go.RowKit Go.Proofs.Ytbjhnefienjncaa.Bt

variable {S : Nat → Prop} {w : World} {s : Sto It}

set_option maxHeartbeats 1000000 in
set_option maxRecDepth 100000 in
/-- 'nodeSet' where the node below needs no split. -/
theorem nodeSet_down (R : RepS E S w s) {A : Addr} {n : Nat} {r : NodeR It} (hA : w.cell? A = some (pv (some n))) (hn : s.nd n = some r) (hi : r.iso = s.mp.iso) (hs : Srt lt r.items) (hlen : r.items.length ≤ 100000) {k : KidR} (hk : r.kids = some k) {kb ko p : Nat} (hkb : k.base = some (kb, ko)) {x : It} (hkp : k.kids[pos lt r.items x]? = some (some p)) (hl : look lt r.items x = none) (hc0 : 0 ≤ r.count) (hc1 : r.count ≤ 100000000000) {v : Unit} {rep : Bool} {D : Sto It → Prop}
    (hca : ∀ w1, RepS E S w1 s → Ext S w S w1 → w1.cell? ⟨kb, ko + pos lt r.items x, none⟩ = some (pv (some p)) → Calls Try.prog 133 #[.pointer (some ⟨s.m, 0, none⟩), .pointer (some ⟨kb, ko + pos lt r.items x, none⟩), .agg #[Value.int .i64 x.1]] w1
      (fun e w' => ∃ S' s', e = .returned (.tuple #[.agg #[], .bool rep, .bool false]) ∧ Ext S w1 S' w' ∧ RepS E S' w' s' ∧ s'.m = s.m ∧ s'.nd n = some r ∧ D s')) :
    Calls Try.prog 133 #[.pointer (some ⟨s.m, 0, none⟩), .pointer (some A), .agg #[Value.int .i64 x.1]] w (fun e w' => e = .returned (.tuple #[.agg #[], .bool rep, .bool false]) ∧ ∃ S', Ext S w S' w' ∧ ∃ s', RepS E S' w' (if rep then s' else s'.setNd n { r with count := r.count + 1 }) ∧ s'.m = s.m ∧ s'.nd n = some r ∧ D s') := by
  have hAlt := World.block_lt_of_cell? w _ hA
  have ef : fnd lt r.items x = false := fnd_none hl
  have HK := hidp hk
  have HL := hidp hl
  have HKB := hidp hkb
  have HKP := hidp hkp
  have HCA := hidp hca
  clear hk hl hkb hkp hca
  have HR := hidp R
  have HA := hidp hA
  have HN := hidp hn
  have HI := hidp hi
  have HS := hidp hs
  have HF := hidp ef
  clear R hA hn hi hs ef
  go_enter Try.func133, Try.ntmps133
  go_wp2_with fail
  have R1 := ((HR.out.alloc (.cells #[Value.int .i64 x.1] 120)).alloc (.cells #[] 82))
  refine (isoLoad_own R1 (A := A) ((World.cell?_alloc_lt _ _ _ (by simp; omega)).trans ((World.cell?_alloc_lt _ _ _ hAlt).trans HA.out)) HN.out HI.out true).mono ?_
  rintro e w' ⟨rfl, a1, rfl⟩
  go_wp2_with fail
  refine (search_is ((R1.drewN a1).alloc (.cells #[Value.pointer (some ⟨n, 0, none⟩)] 118)) HN.out HS.out (by omega) x).mono ?_
  rintro e w' ⟨rfl, a2, rfl⟩
  rw [HF.out]
  have R2 := ((R1.drewN a1).alloc (.cells #[Value.pointer (some ⟨n, 0, none⟩)] 118)).drewN a2
  have hE2 := (((((Ext.refl S w).alloc (.cells #[Value.int .i64 x.1] 120)).alloc (.cells #[] 82)).drewN a1).alloc (.cells #[Value.pointer (some ⟨n, 0, none⟩)] 118)).drewN a2
  have B5 := ((((Bx.new w [Value.int .i64 x.1] 120).alloc (.cells #[] 82)).drewN a1).alloc (.cells #[Value.pointer (some ⟨n, 0, none⟩)] 118)).drewN a2
  have B9 := (Bx.new (((w.alloc (.cells #[Value.int .i64 x.1] 120)).alloc (.cells #[] 82)).drewN a1) [Value.pointer (some ⟨n, 0, none⟩)] 118).drewN a2
  have hsz : (((w.alloc (.cells #[Value.int .i64 x.1] 120)).alloc (.cells #[] 82)).drewN a1).heap.size = w.heap.size + 2 := by simp [World.drewN]
  rw [hsz] at B9
  have hns5 : ¬ S w.heap.size := fun h => by have := HR.out.rep.lt _ h; omega
  have hns9 : ¬ S (w.heap.size + 2) := fun h => by have := HR.out.rep.lt _ h; omega
  clear R1 hsz
  generalize hgp : pos lt r.items x = i at *
  have HGP := hidp hgp
  clear hgp
  generalize hgw : ((((w.alloc (.cells #[Value.int .i64 x.1] 120)).alloc (.cells #[] 82)).drewN a1).alloc (.cells #[Value.pointer (some ⟨n, 0, none⟩)] 118)).drewN a2 = w2 at R2 hE2 B5 B9 ⊢
  clear hgw
  obtain ⟨hnlt, _, _, _, n3⟩ := ncell R2 HN.out
  have n3' : w2.cell? ⟨n, 3, none⟩ = some (pv (some k.hdr)) := by rw [n3, HK.out]; rfl
  have d9 := B9.cell 0 rfl
  go_wp2_with fail
  refine (leaf_raw n3').mono ?_
  rintro e w' ⟨rfl, rfl⟩
  clear n3 n3'
  have n3 : w2.cell? ⟨n, 3, none⟩ = some (.pointer (some ⟨k.hdr, 0, none⟩)) := by rw [(ncell R2 HN.out).2.2.2.2, HK.out]; rfl
  have h0 : w2.cell? ⟨k.hdr, 0, none⟩ = some (.slice (some ⟨kb, ko, none⟩) k.kids.length k.cap) := by
    have := (R2.hdr HN.out HK.out).cell 0 rfl
    rw [HKB.out] at this; exact this
  have c0 : w2.cell? ⟨kb, ko + i, none⟩ = some (pv (some p)) := M_cell (R2.kid HN.out HK.out HKB.out HKP.out)
  have hkl : i < k.kids.length := (List.getElem?_eq_some_iff.1 HKP.out).1
  have hkI : (i : Int) < (k.kids.length : Int) := by omega
  have d5 := B5.cell 0 rfl
  have d6 := B5.cell 0 rfl
  have HR2 := hidp R2
  have HE2 := hidp hE2
  have HB5 := hidp B5
  have HB9 := hidp B9
  have HC0 := hidp c0
  clear R2 hE2 B5 B9 c0
  go_wp2_with fail
  go_region_held3 (fun w' => w'.cell? ⟨w.heap.size + 2, 0, none⟩ = some (.pointer (some ⟨n, 0, none⟩)) ∧ w'.cell? ⟨n, 3, none⟩ = some (.pointer (some ⟨k.hdr, 0, none⟩)) ∧ w'.cell? ⟨k.hdr, 0, none⟩ = some (.slice (some ⟨kb, ko, none⟩) k.kids.length k.cap) ∧ w'.cell? ⟨w.heap.size, 0, none⟩ = some (Value.int .i64 x.1)) (go_keep)
    ((go_at_call 133
      refine (HCA.out w2.drew HR2.out.drew HE2.out.drew HC0.out).mono ?_
      rintro e w' ⟨S3, s3, rfl, hE3, R3, hm3, hn3, hD3⟩
      have k1 := (HB9.out.drew.keep hE3.fr hns9).cell 0 rfl
      have k2 := (HB5.out.drew.keep hE3.fr hns5).cell 0 rfl
      have k3 := (HB5.out.drew.keep hE3.fr hns5).cell 0 rfl
      have k4 : w'.cell? ⟨n, 3, none⟩ = some (.pointer (some ⟨k.hdr, 0, none⟩)) := by rw [(ncell R3 hn3).2.2.2.2, HK.out]; rfl
      have k5 : w'.cell? ⟨k.hdr, 0, none⟩ = some (.slice (some ⟨kb, ko, none⟩) k.kids.length k.cap) := by
        have := (R3.hdr hn3 HK.out).cell 0 rfl
        rw [HKB.out] at this; exact this
      have hB93 := hidp (HB9.out.drew.keep hE3.fr hns9)
      have hB53 := hidp (HB5.out.drew.keep hE3.fr hns5)
      have HE3 := hidp hE3
      have HR3 := hidp R3
      have HN3 := hidp hn3
      clear hE3 R3 hn3))
  have HD3 := hidp hD3
  clear hD3
  cases rep with
  | true =>
    go_wp2
    refine bodyPost_ret (v := .tuple #[Value.agg #[], .bool true, .bool false]) (by simp [results, Try.results133, go_sem]) rfl ?_
    exact ⟨rfl, S3, HE2.out.drew.trans HE3.out, s3, HR3.out, hm3, HN3.out, HD3.out⟩
  | false =>
    have n1 := (ncell HR3.out HN3.out).2.2.1
    have f1 := (HR3.out.node HN3.out).froz 1 rfl
    have hw2 : IntKind.i64.wrap (r.count + 1) = r.count + 1 := by rw [Last.i64_w]; exact IntWalk.wrap64_in _ ⟨by omega, by omega⟩
    have HU := hidp (Upd.one w' (b := n) (o := 1) (.int .i64 (r.count + 1)) (by rw [(HR3.out.node HN3.out).2 1 _ rfl]; rfl))
    go_wp2
    refine bodyPost_ret (v := .tuple #[Value.agg #[], .bool false, .bool false]) (by simp [results, Try.results133, go_sem]) rfl ?_
    exact ⟨rfl, S3, (HE2.out.drew.trans HE3.out).upd HU.out (.inl (HR3.out.inS_node HN3.out)), s3, HR3.out.set_count HN3.out _ HU.out, hm3, HN3.out, HD3.out⟩

set_option maxHeartbeats 1000000 in
set_option maxRecDepth 100000 in
/-- 'nodeSet' where the node below needs a split, and this one is full. -/
theorem nodeSet_downfull (R : RepS E S w s) {A : Addr} {n : Nat} {r : NodeR It} (hA : w.cell? A = some (pv (some n))) (hn : s.nd n = some r) (hi : r.iso = s.mp.iso) (hs : Srt lt r.items) (hlen : r.items.length ≤ 100000) {k : KidR} (hk : r.kids = some k) {kb ko p : Nat} (hkb : k.base = some (kb, ko)) {x : It} (hkp : k.kids[pos lt r.items x]? = some (some p)) (hl : look lt r.items x = none) (hmx : (r.items.length : Int) = s.mp.mx)
    (hca : ∀ w1, RepS E S w1 s → Ext S w S w1 → w1.cell? ⟨kb, ko + pos lt r.items x, none⟩ = some (pv (some p)) → Calls Try.prog 133 #[.pointer (some ⟨s.m, 0, none⟩), .pointer (some ⟨kb, ko + pos lt r.items x, none⟩), .agg #[Value.int .i64 x.1]] w1
      (fun e w' => ∃ S', e = .returned (.tuple #[Value.agg #[], .bool false, .bool true]) ∧ Ext S w1 S' w' ∧ RepS E S' w' s)) :
    Calls Try.prog 133 #[.pointer (some ⟨s.m, 0, none⟩), .pointer (some A), .agg #[Value.int .i64 x.1]] w (fun e w' => e = .returned (.tuple #[Value.agg #[], .bool false, .bool true]) ∧ ∃ S', Ext S w S' w' ∧ RepS E S' w' s) := by
  have hAlt := World.block_lt_of_cell? w _ hA
  have ef : fnd lt r.items x = false := fnd_none hl
  have HK := hidp hk
  have HL := hidp hl
  have HKB := hidp hkb
  have HKP := hidp hkp
  have HCA := hidp hca
  clear hk hl hkb hkp hca
  have HX := hidp hmx
  clear hmx
  have HR := hidp R
  have HA := hidp hA
  have HN := hidp hn
  have HI := hidp hi
  have HS := hidp hs
  have HF := hidp ef
  clear R hA hn hi hs ef
  go_enter Try.func133, Try.ntmps133
  go_wp2_with fail
  have R1 := ((HR.out.alloc (.cells #[Value.int .i64 x.1] 120)).alloc (.cells #[] 82))
  refine (isoLoad_own R1 (A := A) ((World.cell?_alloc_lt _ _ _ (by simp; omega)).trans ((World.cell?_alloc_lt _ _ _ hAlt).trans HA.out)) HN.out HI.out true).mono ?_
  rintro e w' ⟨rfl, a1, rfl⟩
  go_wp2_with fail
  refine (search_is ((R1.drewN a1).alloc (.cells #[Value.pointer (some ⟨n, 0, none⟩)] 118)) HN.out HS.out (by omega) x).mono ?_
  rintro e w' ⟨rfl, a2, rfl⟩
  rw [HF.out]
  have R2 := ((R1.drewN a1).alloc (.cells #[Value.pointer (some ⟨n, 0, none⟩)] 118)).drewN a2
  have hE2 := (((((Ext.refl S w).alloc (.cells #[Value.int .i64 x.1] 120)).alloc (.cells #[] 82)).drewN a1).alloc (.cells #[Value.pointer (some ⟨n, 0, none⟩)] 118)).drewN a2
  have B5 := ((((Bx.new w [Value.int .i64 x.1] 120).alloc (.cells #[] 82)).drewN a1).alloc (.cells #[Value.pointer (some ⟨n, 0, none⟩)] 118)).drewN a2
  have B9 := (Bx.new (((w.alloc (.cells #[Value.int .i64 x.1] 120)).alloc (.cells #[] 82)).drewN a1) [Value.pointer (some ⟨n, 0, none⟩)] 118).drewN a2
  have hsz : (((w.alloc (.cells #[Value.int .i64 x.1] 120)).alloc (.cells #[] 82)).drewN a1).heap.size = w.heap.size + 2 := by simp [World.drewN]
  rw [hsz] at B9
  have hns5 : ¬ S w.heap.size := fun h => by have := HR.out.rep.lt _ h; omega
  have hns9 : ¬ S (w.heap.size + 2) := fun h => by have := HR.out.rep.lt _ h; omega
  clear R1 hsz
  generalize hgp : pos lt r.items x = i at *
  have HGP := hidp hgp
  clear hgp
  generalize hgw : ((((w.alloc (.cells #[Value.int .i64 x.1] 120)).alloc (.cells #[] 82)).drewN a1).alloc (.cells #[Value.pointer (some ⟨n, 0, none⟩)] 118)).drewN a2 = w2 at R2 hE2 B5 B9 ⊢
  clear hgw
  obtain ⟨hnlt, _, _, _, n3⟩ := ncell R2 HN.out
  have n3' : w2.cell? ⟨n, 3, none⟩ = some (pv (some k.hdr)) := by rw [n3, HK.out]; rfl
  have d9 := B9.cell 0 rfl
  go_wp2_with fail
  refine (leaf_raw n3').mono ?_
  rintro e w' ⟨rfl, rfl⟩
  clear n3 n3'
  have n3 : w2.cell? ⟨n, 3, none⟩ = some (.pointer (some ⟨k.hdr, 0, none⟩)) := by rw [(ncell R2 HN.out).2.2.2.2, HK.out]; rfl
  have h0 : w2.cell? ⟨k.hdr, 0, none⟩ = some (.slice (some ⟨kb, ko, none⟩) k.kids.length k.cap) := by
    have := (R2.hdr HN.out HK.out).cell 0 rfl
    rw [HKB.out] at this; exact this
  have c0 : w2.cell? ⟨kb, ko + i, none⟩ = some (pv (some p)) := M_cell (R2.kid HN.out HK.out HKB.out HKP.out)
  have hkl : i < k.kids.length := (List.getElem?_eq_some_iff.1 HKP.out).1
  have hkI : (i : Int) < (k.kids.length : Int) := by omega
  have d5 := B5.cell 0 rfl
  have d6 := B5.cell 0 rfl
  have HR2 := hidp R2
  have HE2 := hidp hE2
  have HB5 := hidp B5
  have HB9 := hidp B9
  have HC0 := hidp c0
  clear R2 hE2 B5 B9 c0
  go_wp2_with fail
  go_region_held3 (fun w' => w'.cell? ⟨w.heap.size + 2, 0, none⟩ = some (.pointer (some ⟨n, 0, none⟩)) ∧ w'.cell? ⟨n, 3, none⟩ = some (.pointer (some ⟨k.hdr, 0, none⟩)) ∧ w'.cell? ⟨k.hdr, 0, none⟩ = some (.slice (some ⟨kb, ko, none⟩) k.kids.length k.cap) ∧ w'.cell? ⟨w.heap.size, 0, none⟩ = some (Value.int .i64 x.1)) (go_keep)
    ((go_at_call 133
      refine (HCA.out w2.drew HR2.out.drew HE2.out.drew HC0.out).mono ?_
      rintro e w' ⟨S3, rfl, hE3, R3⟩
      have hn3 := HN.out
      have k1 := (HB9.out.drew.keep hE3.fr hns9).cell 0 rfl
      have k2 := (HB5.out.drew.keep hE3.fr hns5).cell 0 rfl
      have k3 := (HB5.out.drew.keep hE3.fr hns5).cell 0 rfl
      have k4 : w'.cell? ⟨n, 3, none⟩ = some (.pointer (some ⟨k.hdr, 0, none⟩)) := by rw [(ncell R3 hn3).2.2.2.2, HK.out]; rfl
      have k5 : w'.cell? ⟨k.hdr, 0, none⟩ = some (.slice (some ⟨kb, ko, none⟩) k.kids.length k.cap) := by
        have := (R3.hdr hn3 HK.out).cell 0 rfl
        rw [HKB.out] at this; exact this
      have hB93 := hidp (HB9.out.drew.keep hE3.fr hns9)
      have hB53 := hidp (HB5.out.drew.keep hE3.fr hns5)
      have HE3 := hidp hE3
      have HR3 := hidp R3
      have HN3 := hidp hn3
      clear hE3 R3 hn3))
  obtain ⟨hmlt, _, _, _, _, m4, _, _, m7, _, _⟩ := mcell HR3.out
  rw [← HX.out] at m7
  have n2 := (ncell HR3.out HN3.out).2.2.2.1
  obtain ⟨ba, n2'⟩ : ∃ ba, w'.cell? ⟨n, 2, none⟩ = some (.slice ba r.items.length r.icap) := ⟨_, n2⟩
  clear n2
  go_wp2_with fail
  go_quiet (fail)
  have hpe := part_empty (HR3.out.drewN nq)
  go_wp2
  refine bodyPost_ret (v := .tuple #[Value.agg #[], .bool false, .bool true]) (by simp [results, Try.results133, go_sem]) rfl ?_
  exact ⟨rfl, S3, (HE2.out.drew.trans HE3.out).drewN _, HR3.out.drewN _⟩

end Go.Proofs.Ytbjhnefienjncaa.Bt.IU
