/- Maps of numbers (sets): two leaves become one. -/
import Derived.Test.YtbjhnefienjncaaBtIUr
namespace Go.Proofs.Ytbjhnefienjncaa.Bt.IU
set_option linter.unusedVariables false
set_option linter.unusedSimpArgs false
open Go Go.RowKit Go.Proofs.Ytbjhnefienjncaa.Bt
open Go.Proofs.Ytbjhnefienjncaa.Bt.Last (Y Z)
open _root_.List (setIfInBounds_toArray set_cons_zero set_cons_succ)

variable {S : Nat → Prop} {w : World} {s : Sto It}

set_option maxHeartbeats 40000000 in
set_option maxRecDepth 100000 in
/-- Two leaves become one. -/
theorem reb_merge_leaf (R : RepS E S w s) {n l q j ln lk ll lq : Nat} {rn rl rq : NodeR It} {kn : KidR} {nb no kb ko : Nat} {md : It} {i mx : Nat} (H : Pair w s n l q j ln lk ll lq rn rl rq kn nb no kb ko md i mx) (hlt : ll + lq < mx) (h1 : rl.kids = none) (h2 : rq.kids = none) :
    Calls Try.prog 138 #[.pointer (some ⟨s.m, 0, none⟩), .pointer (some ⟨n, 0, none⟩), .int .i64 i] w (fun e w' => e = .returned (.tuple #[]) ∧ ∃ ib ic, KS E S w s [(n, ⟨rn.iso, rn.count, List.take j rn.items ++ List.drop (j + 1) rn.items, some (nb, no), rn.icap, some ⟨kn.hdr, some (kb, ko), kn.cap, List.take (j + 1) kn.kids ++ List.drop (j + 2) kn.kids⟩⟩), (l, ⟨rl.iso, rl.count + (rq.count + 1), rl.items ++ [md] ++ rq.items, ib, ic, rl.kids⟩), (q, rq)] w') := by
  have HH := hidp H
  have hj : j < ln := by rw [← H.len]; exact (List.getElem?_eq_some_iff.1 H.hmd).1
  obtain ⟨hnlt, _, _, n2, n3⟩ := ncell R H.hn
  obtain ⟨ba, n2'⟩ : ∃ ba, w.cell? ⟨n, 2, none⟩ = some (.slice ba ln rn.icap) := ⟨_, by rw [n2, H.len]; rfl⟩
  have n3' : w.cell? ⟨n, 3, none⟩ = some (.pointer (some ⟨kn.hdr, 0, none⟩)) := by rw [n3, H.hk]; rfl
  have kh : w.cell? ⟨kn.hdr, 0, none⟩ = some (.slice (some ⟨kb, ko, none⟩) lk kn.cap) := by
    have h := (R.hdr H.hn H.hk).cell 0 rfl
    rw [H.kib, H.kl] at h; exact h
  have k0 : w.cell? ⟨kb, ko + j, none⟩ = some (pv (some l)) := M_cell (R.kid H.hn H.hk H.kib H.kj)
  have k1 : w.cell? ⟨kb, ko + (j + 1), none⟩ = some (pv (some q)) := M_cell (R.kid H.hn H.hk H.kib H.kj1)
  have HI := hidp H.hi
  have hb1 := H.bn
  have hb2 := H.bl
  have hb3 := H.bq
  have hb4 := H.bm
  have hk1 := H.lk1
  have hk2 := H.lk2
  have hc1 := H.cl
  have hc2 := H.cq
  have jlt : (j : Int) < (lk : Int) := by omega
  have jlt2 : (j : Int) + 1 < (lk : Int) := by omega
  have jlt3 : (j : Int) < (ln : Int) := by omega
  obtain ⟨p, hp⟩ : ∃ p, ln = p + 1 := ⟨ln - 1, by omega⟩
  have HP := hidp hp
  have hp1 : p + 1 ≤ ln := by omega
  have hp2 : ln ≤ p + 1 := by omega
  have HR := hidp R
  have ern := node_eq H.nib H.hk H.kib
  have HS0 : Hid (KS E S w s [(n, ⟨rn.iso, rn.count, rn.items, some (nb, no), rn.icap, some ⟨kn.hdr, some (kb, ko), kn.cap, kn.kids⟩⟩), (l, rl), (q, rq)] w) := hidp (KS.start R (fun a r h => by
    simp only [List.mem_cons, List.not_mem_nil, or_false, Prod.mk.injEq] at h
    rcases h with ⟨rfl, rfl⟩ | ⟨rfl, rfl⟩ | ⟨rfl, rfl⟩
    · rw [← ern]; exact HH.out.hn
    · exact HH.out.hl
    · exact HH.out.hq) (by simpa using H.nd))
  have HMD := hidp H.hmd
  have HLn := hidp H.len
  have HLl := hidp H.lel
  have HLq := hidp H.leq
  have HLk := hidp H.kl
  have HMX := hidp H.hmx
  obtain ⟨i0, hi0, hz0, hz1, hz2⟩ := info_parts infoP
  obtain ⟨j0, hj0, hy0, hy1, hy2⟩ := info_parts infoK
  have HI0 := hidp hi0
  have HZ0 := hidp hz0
  have HZ1 := hidp hz1
  have HZ2 := hidp hz2
  have HJ0 := hidp hj0
  have HY0 := hidp hy0
  have HY1 := hidp hy1
  have HY2 := hidp hy2
  have H1 := hidp h1
  clear h1 h2
  clear H R n2 n3 hp ern hi0 hz0 hz1 hz2 hj0 hy0 hy1 hy2
  go_enter Try.func138, Try.ntmps138
  go_upto_if 14 with (fail)
  go_cut [2] from 14 to 16 (fun u wx => u = .int .i64 j ∧ wx = w)
  case first =>
    rcases HI.out with ⟨hi1, hi⟩ | ⟨hi1, hi⟩
    · have hi' : ((i : Int) == (ln : Int)) = false := beq_eq_false_iff_ne.2 (by omega)
      have hi2 : (i : Int) = (j : Int) := by omega
      have HI2 := hidp hi2
      clear hi1 hi hi2
      go_wp2
      go_meet
      exact ⟨by rw [HI2.out], rfl⟩
    · have hi' : ((i : Int) == (ln : Int)) = true := beq_iff_eq.2 (by omega)
      have hi2 : (i : Int) - 1 = (j : Int) := by omega
      have HI2 := hidp hi2
      have hi3 : 1 ≤ (i : Int) := by omega
      have hi4 : (i : Int) ≤ 100000 := by omega
      clear hi1 hi hi2
      go_wp2
      go_meet
      exact ⟨by first | rw [HI2.out] | rw [HI2.out, IntWalk.wrap64_in _ ⟨by omega, by omega⟩], rfl⟩
  case rest =>
    obtain ⟨rfl, rfl⟩ := hcut
    clear HI
    go_wp2_with fail
    refine (isoLoad_own HR.out (A := ⟨kb, ko + j, none⟩) k0 HH.out.hl HH.out.isol true).mono ?_
    rintro e w' ⟨rfl, a1, rfl⟩
    go_wp2_with fail
    refine (isoLoad_own (HR.out.drewN a1) (A := ⟨kb, ko + (j + 1), none⟩) k1 HH.out.hq HH.out.isoq true).mono ?_
    rintro e w' ⟨rfl, a2, rfl⟩
    have K1 := (HS0.out.drewN a1).drewN a2
    generalize (wc.drewN a1).drewN a2 = w1 at K1 ⊢
    have HK1 := hidp K1
    clear K1 n2' n3' kh k0 k1 jlt2 HS0 HR
    obtain ⟨l2A, l2⟩ : ∃ A, w1.cell? ⟨l, 2, none⟩ = some (.slice A (ll) rl.icap) := by
      have h : w1.cell? ⟨l, 2, none⟩ = some (sv rl.ib (List.length rl.items) rl.icap) := HK1.out.n1.cell.2.2.2.1
      rw [HLl.out] at h; exact ⟨_, h⟩
    obtain ⟨q2A, q2⟩ : ∃ A, w1.cell? ⟨q, 2, none⟩ = some (.slice A (lq) rq.icap) := by
      have h : w1.cell? ⟨q, 2, none⟩ = some (sv rq.ib (List.length rq.items) rq.icap) := HK1.out.n2.cell.2.2.2.1
      rw [HLq.out] at h; exact ⟨_, h⟩
    have m7 : w1.cell? ⟨s.m, 6, none⟩ = some (.int .i64 mx) := by have h := HK1.out.map.1.cell 6 (v := .int .i64 s.mp.mx) rfl; rw [HMX.out] at h; exact h
    have hsm : IntKind.i64.wrap ((ll : Int) + (lq : Int)) = (ll : Int) + (lq : Int) := by rw [Last.i64_w]; exact IntWalk.wrap64_in _ ⟨by omega, by omega⟩
    have hmm : s.m < w1.heap.size := HK1.out.map.1.1
    have hlm : (ll : Int) + (lq : Int) < (mx : Int) := by omega
    go_wp2_with fail
    go_quiet (fail)
    have K2 := HK1.out.drewN nq
    generalize w1.drewN nq = w2 at K2 ⊢
    clear l2 q2 m7 hsm HK1
    have HK11 : Hid (KS E S wc s [(n, ⟨rn.iso, rn.count, rn.items, (some (nb, no)), rn.icap, some ⟨kn.hdr, (some (kb, ko)), kn.cap, kn.kids⟩⟩), (l, rl), (q, rq)] w2) := hidp K2
    clear K2
    have x12_2 : w2.cell? ⟨l, 2, none⟩ = some (sv rl.ib (ll) rl.icap) := by
      have h : w2.cell? ⟨l, 2, none⟩ = some (sv rl.ib (List.length rl.items) rl.icap) := HK11.out.n1.cell.2.2.2.1
      rw [HLl.out] at h; exact h
    have x12_3 : w2.cell? ⟨n, 2, none⟩ = some (.slice (some ⟨nb, no, none⟩) (ln) rn.icap) := by
      have h : w2.cell? ⟨n, 2, none⟩ = some (sv (some (nb, no)) (List.length rn.items) rn.icap) := HK11.out.n0.cell.2.2.2.1
      rw [HLn.out] at h; exact h
    have x12_4 : w2.cell? ⟨nb, no + j, none⟩ = some (Value.int .i64 md.1) := M_cell (kitem HK11.out.n0 (b := nb) (o := no) rfl (i := j) HMD.out).1
    have x12_5 : w2.cell? ⟨nb, no + j, none⟩ = some (Value.int .i64 md.1) := M_cell (kitem HK11.out.n0 (b := nb) (o := no) rfl (i := j) HMD.out).2
    have HW12 := hidp HK11.out.n1.wf
    go_wp2_with fail
    refine Last.start_ (S := fun w' => w'.cell? ⟨l, 2, none⟩ = some (sv rl.ib (ll) rl.icap) ∧ w'.cell? ⟨n, 2, none⟩ = some (.slice (some ⟨nb, no, none⟩) (ln) rn.icap) ∧ w'.cell? ⟨nb, no + j, none⟩ = some (Value.int .i64 md.1)) (ds := [16]) #[Z,Z,Z,Z,Z,Z,Z,Z,Z,Z,Z,Z,Z,Z,Z,Z,Z] (by rfl) (by rfl) (by rfl) ?_ (fun hHeld => ?_)
    · go_keep
    refine Last.tk 0 54 #[Y,Z,Z,Z,Z,Z,Z,Z,Z,Z,Z,Z,Z,Z,Z,Z,Z] rfl rfl hHeld ?_
    refine Last.tk 1 55 #[Y,Y,Z,Z,Z,Z,Z,Z,Z,Z,Z,Z,Z,Z,Z,Z,Z] rfl rfl hHeld ?_
    refine Last.tk 2 56 #[Y,Y,Y,Z,Z,Z,Z,Z,Z,Z,Z,Z,Z,Z,Z,Z,Z] rfl rfl hHeld ?_
    refine Last.tk 3 57 #[Y,Y,Y,Y,Z,Z,Z,Z,Z,Z,Z,Z,Z,Z,Z,Z,Z] rfl rfl hHeld ?_
    refine Last.tk 4 58 #[Y,Y,Y,Y,Y,Z,Z,Z,Z,Z,Z,Z,Z,Z,Z,Z,Z] rfl rfl hHeld ?_
    refine Last.tk 5 59 #[Y,Y,Y,Y,Y,Y,Z,Z,Z,Z,Z,Z,Z,Z,Z,Z,Z] rfl rfl hHeld ?_
    refine Last.tk 6 60 #[Y,Y,Y,Y,Y,Y,Y,Z,Z,Z,Z,Z,Z,Z,Z,Z,Z] rfl rfl hHeld ?_
    refine Last.tk 7 61 #[Y,Y,Y,Y,Y,Y,Y,Y,Z,Z,Z,Z,Z,Z,Z,Z,Z] rfl rfl hHeld ?_
    refine Last.tk 8 62 #[Y,Y,Y,Y,Y,Y,Y,Y,Y,Z,Z,Z,Z,Z,Z,Z,Z] rfl rfl hHeld ?_
    refine Last.tk 9 63 #[Y,Y,Y,Y,Y,Y,Y,Y,Y,Y,Z,Z,Z,Z,Z,Z,Z] rfl rfl hHeld ?_
    refine Last.tk 10 64 #[Y,Y,Y,Y,Y,Y,Y,Y,Y,Y,Y,Z,Z,Z,Z,Z,Z] rfl rfl hHeld ?_
    refine Last.tk 11 65 #[Y,Y,Y,Y,Y,Y,Y,Y,Y,Y,Y,Y,Z,Z,Z,Z,Z] rfl rfl hHeld ?_
    refine Last.one_ (i := 12) (N := some 66) #[Y,Y,Y,Y,Y,Y,Y,Y,Y,Y,Y,Y,Y,Z,Z,Z,Z] rfl rfl (by kernel_rfl) (by decide) (fun K hK => ?_)
    go_simp
    refine hK.out _ _ ?_ (fun hHeld => ?_)
    · (try dsimp only); go_keep
    clear hK K
    try simp only [Act.put, setIfInBounds_toArray, set_cons_zero, set_cons_succ]
    refine Last.one_ (i := 13) (N := some 67) #[Y,Y,Y,Y,Y,Y,Y,Y,Y,Y,Y,Y,Y,Y,Z,Z,Z] rfl rfl (by kernel_rfl) (by decide) (fun K hK => ?_)
    refine step_app (by rfl) _ _ _ (by rfl) 120 i0 _ 1 8 Try.underlying181 HI0.out HZ0.out HZ1.out HZ2.out rfl (by decide) rl.ib (ll) rl.icap (itemCells E rl.items) (by rfl) (fun h => ⟨by have e := (HW12.out.1 h).1; have e2 := congrArg List.length e; exact HLl.out.symm.trans e2, (HW12.out.1 h).2⟩) (by rw [itemCells_length, HLl.out]; rfl)
      (fun b o hb => (show KS E S wc s ([(n, ⟨rn.iso, rn.count, rn.items, (some (nb, no)), rn.icap, some ⟨kn.hdr, (some (kb, ko)), kn.cap, kn.kids⟩⟩)] ++ (l, rl) :: [(q, rq)]) _ from (HK11.out.drew.alloc (.cells #[Value.int .i64 md.1] 120))).items hb) ⟨w2.heap.size, 0, none⟩ 1 1 [Value.int .i64 md.1] (by rfl) (by decide) (by rfl) (fun j u hj => by rw [Addr.add_lit, Nat.zero_add]; exact (Bx.new (w2.drew) [Value.int .i64 md.1] 120).cell j hj) (by simp [Value.oneCell']) (by unfold maxLen; omega) (by omega) ?_
    intro v' w12a happ
    obtain ⟨gb12, gq12, gc12, rfl⟩ := happ.form
    have K4 : KS E S wc s [(n, ⟨rn.iso, rn.count, rn.items, (some (nb, no)), rn.icap, some ⟨kn.hdr, (some (kb, ko)), kn.cap, kn.kids⟩⟩), (l, rl), (q, rq)] w12a := (show KS E S wc s ([(n, ⟨rn.iso, rn.count, rn.items, (some (nb, no)), rn.icap, some ⟨kn.hdr, (some (kb, ko)), kn.cap, kn.kids⟩⟩)] ++ (l, rl) :: [(q, rq)]) _ from (HK11.out.drew.alloc (.cells #[Value.int .i64 md.1] 120))).app_keep (m := 1) HLl.out (by rfl) (.inr ⟨by decide, happ⟩)
    have y12_2 : w12a.cell? ⟨l, 2, none⟩ = some (sv rl.ib (ll) rl.icap) := by
      have h : w12a.cell? ⟨l, 2, none⟩ = some (sv rl.ib (List.length rl.items) rl.icap) := K4.n1.cell.2.2.2.1
      rw [HLl.out] at h; exact h
    have y12_3 : w12a.cell? ⟨n, 2, none⟩ = some (.slice (some ⟨nb, no, none⟩) (ln) rn.icap) := by
      have h : w12a.cell? ⟨n, 2, none⟩ = some (sv (some (nb, no)) (List.length rn.items) rn.icap) := K4.n0.cell.2.2.2.1
      rw [HLn.out] at h; exact h
    have y12_4 : w12a.cell? ⟨nb, no + j, none⟩ = some (Value.int .i64 md.1) := M_cell (kitem K4.n0 (b := nb) (o := no) rfl (i := j) HMD.out).1
    have y12_5 : w12a.cell? ⟨nb, no + j, none⟩ = some (Value.int .i64 md.1) := M_cell (kitem K4.n0 (b := nb) (o := no) rfl (i := j) HMD.out).2
    have f2 := M_froz K4.n1.mem.2
    have HA4 := hidp (And.intro happ K4)
    clear happ K4
    refine hK.out _ _ ?_ (fun hHeld => ?_)
    · (try dsimp only); go_keep
    clear hK K
    try simp only [Act.put, setIfInBounds_toArray, set_cons_zero, set_cons_succ]
    refine Last.tk 14 68 #[Y,Y,Y,Y,Y,Y,Y,Y,Y,Y,Y,Y,Y,Y,Y,Z,Z] rfl rfl hHeld ?_
    refine Last.tk 15 69 #[Y,Y,Y,Y,Y,Y,Y,Y,Y,Y,Y,Y,Y,Y,Y,Y,Z] rfl rfl hHeld ?_
    refine Last.last_ (i := 16) (N := none) #[Y,Y,Y,Y,Y,Y,Y,Y,Y,Y,Y,Y,Y,Y,Y,Y,Y] rfl rfl (by kernel_rfl) (by decide) (fun K hK => ?_)
    go_simp
    refine hK.out _ _ ?_
    clear hK K
    try simp only [Act.put, setIfInBounds_toArray, set_cons_zero, set_cons_succ]
    refine Last.done_ (by kernel_rfl) ?_
    obtain ⟨happ, K4⟩ := HA4.out
    obtain ⟨ib', cap', hv5, K5⟩ := (show KS E S wc s ([(n, ⟨rn.iso, rn.count, rn.items, (some (nb, no)), rn.icap, some ⟨kn.hdr, (some (kb, ko)), kn.cap, kn.kids⟩⟩)] ++ (l, rl) :: [(q, rq)]) _ from (HK11.out.drew.alloc (.cells #[Value.int .i64 md.1] 120))).app_items [md] HLl.out rfl (.inr ⟨Nat.one_pos, happ⟩) (Upd.one w12a (b := l) (o := 2) _ (by rw [K4.n1.mem.2]; rfl))
    obtain ⟨rfl, rfl⟩ : ib' = some (gb12, gq12) ∧ gc12 = cap' := sv_inj hv5
    clear happ hv5 K4 HA4 HW12 y12_2 y12_3 y12_4 y12_5 f2 x12_2 x12_3 x12_4 x12_5
    have HL12 : Hid (List.length (rl.items ++ [md]) = ll + 1) := hidp (by rw [List.length_append, HLl.out]; rfl)
    generalize w12a.setCell ⟨l, 2, none⟩ (.slice (some ⟨gb12, gq12, none⟩) (ll + 1) gc12) = w12 at K5 ⊢
    have HK13 : Hid (KS E S wc s [(n, ⟨rn.iso, rn.count, rn.items, (some (nb, no)), rn.icap, some ⟨kn.hdr, (some (kb, ko)), kn.cap, kn.kids⟩⟩), (l, ⟨rl.iso, rl.count, (rl.items ++ [md]), (some (gb12, gq12)), gc12, rl.kids⟩), (q, rq)] w12) := hidp K5
    clear K5 HK11
    have x14_2 : w12.cell? ⟨l, 2, none⟩ = some (.slice (some ⟨gb12, gq12, none⟩) (ll + 1) gc12) := by
      have h : w12.cell? ⟨l, 2, none⟩ = some (sv (some (gb12, gq12)) (List.length (rl.items ++ [md])) gc12) := HK13.out.n1.cell.2.2.2.1
      rw [HL12.out] at h; exact h
    have x14_3 : w12.cell? ⟨q, 2, none⟩ = some (sv rq.ib (lq) rq.icap) := by
      have h : w12.cell? ⟨q, 2, none⟩ = some (sv rq.ib (List.length rq.items) rq.icap) := HK13.out.n2.cell.2.2.2.1
      rw [HLq.out] at h; exact h
    have HW14 := hidp HK13.out.n1.wf
    have hqb14 : ∃ b o, 0 < lq → rq.ib = some (b, o) := by
      rcases Nat.eq_zero_or_pos (lq) with h | h
      · exact ⟨0, 0, fun h' => by omega⟩
      · have hw := HK13.out.n2.wf.1
        cases hib : rq.ib with
        | none => exact absurd (hw hib).1 (fun e => by have := HLq.out; rw [e] at this; simp at this; omega)
        | some p => exact ⟨p.1, p.2, fun _ => rfl⟩
    obtain ⟨qb14, qo14, hqb14⟩ := hqb14
    have HQB14 := hidp hqb14
    have hcap14 : ll + 1 ≤ gc12 := by have h := HW14.out.2.2.1; rw [HL12.out] at h; exact h
    clear hqb14
    go_wp2_with fail
    refine Last.start_ (S := fun w' => w'.cell? ⟨l, 2, none⟩ = some (.slice (some ⟨gb12, gq12, none⟩) (ll + 1) gc12) ∧ w'.cell? ⟨q, 2, none⟩ = some (sv rq.ib (lq) rq.icap)) (ds := [12]) #[Z,Z,Z,Z,Z,Z,Z,Z,Z,Z,Z,Z,Z] (by rfl) (by rfl) (by rfl) ?_ (fun hHeld => ?_)
    · go_keep
    refine Last.tk 0 70 #[Y,Z,Z,Z,Z,Z,Z,Z,Z,Z,Z,Z,Z] rfl rfl hHeld ?_
    refine Last.tk 1 71 #[Y,Y,Z,Z,Z,Z,Z,Z,Z,Z,Z,Z,Z] rfl rfl hHeld ?_
    refine Last.tk 2 72 #[Y,Y,Y,Z,Z,Z,Z,Z,Z,Z,Z,Z,Z] rfl rfl hHeld ?_
    refine Last.tk 3 73 #[Y,Y,Y,Y,Z,Z,Z,Z,Z,Z,Z,Z,Z] rfl rfl hHeld ?_
    refine Last.tk 4 74 #[Y,Y,Y,Y,Y,Z,Z,Z,Z,Z,Z,Z,Z] rfl rfl hHeld ?_
    refine Last.tk 5 75 #[Y,Y,Y,Y,Y,Y,Z,Z,Z,Z,Z,Z,Z] rfl rfl hHeld ?_
    refine Last.tk 6 76 #[Y,Y,Y,Y,Y,Y,Y,Z,Z,Z,Z,Z,Z] rfl rfl hHeld ?_
    refine Last.tk 7 77 #[Y,Y,Y,Y,Y,Y,Y,Y,Z,Z,Z,Z,Z] rfl rfl hHeld ?_
    refine Last.tk 8 78 #[Y,Y,Y,Y,Y,Y,Y,Y,Y,Z,Z,Z,Z] rfl rfl hHeld ?_
    refine Last.one_ (i := 9) (N := some 79) #[Y,Y,Y,Y,Y,Y,Y,Y,Y,Y,Z,Z,Z] rfl rfl (by kernel_rfl) (by decide) (fun K hK => ?_)
    refine step_appX (by rfl) _ _ _ (by rfl) 120 i0 _ 1 8 Try.underlying181 HI0.out HZ0.out HZ1.out HZ2.out rfl (by decide) (some (gb12, gq12)) (ll + 1) gc12 (itemCells E (rl.items ++ [md])) (by rfl) (fun h => ⟨by have e := (HW14.out.1 h).1; have e2 := congrArg List.length e; exact HL12.out.symm.trans e2, (HW14.out.1 h).2⟩) hcap14 (by rw [itemCells_length, HL12.out]; rfl)
      (fun b o hb => HK13.out.drew.n1.items hb) ⟨qb14, qo14, none⟩ (lq) rq.icap (itemCells E rq.items) ⟨_, by rfl, fun h => by rw [HQB14.out h]; rfl⟩ (by rw [itemCells_length, HLq.out]; rfl) (fun j u hj => by
        rw [Addr.add_lit]
        have h0 : 0 < lq := by
          rcases Nat.eq_zero_or_pos (lq) with h | h
          · have h2 := (List.getElem?_eq_some_iff.1 hj).1
            rw [itemCells_length, HLq.out, h, Nat.zero_mul] at h2; omega
          · exact h
        exact M_cell ((HK13.out.drew.n2.items (HQB14.out h0)).val j u hj)) (itemCells_one _) (by unfold maxLen; omega) (by omega) ?_
    intro v' w14a happ
    obtain ⟨ga14, gc14, rfl⟩ := happ.form
    have K4 : KS E S wc s [(n, ⟨rn.iso, rn.count, rn.items, (some (nb, no)), rn.icap, some ⟨kn.hdr, (some (kb, ko)), kn.cap, kn.kids⟩⟩), (l, ⟨rl.iso, rl.count, (rl.items ++ [md]), (some (gb12, gq12)), gc12, rl.kids⟩), (q, rq)] w14a := HK13.out.drew.n1.app_keep HL12.out (by rw [itemCells_length, HLq.out]) happ
    have y14_2 : w14a.cell? ⟨l, 2, none⟩ = some (.slice (some ⟨gb12, gq12, none⟩) (ll + 1) gc12) := by
      have h : w14a.cell? ⟨l, 2, none⟩ = some (sv (some (gb12, gq12)) (List.length (rl.items ++ [md])) gc12) := K4.n1.cell.2.2.2.1
      rw [HL12.out] at h; exact h
    have y14_3 : w14a.cell? ⟨q, 2, none⟩ = some (sv rq.ib (lq) rq.icap) := by
      have h : w14a.cell? ⟨q, 2, none⟩ = some (sv rq.ib (List.length rq.items) rq.icap) := K4.n2.cell.2.2.2.1
      rw [HLq.out] at h; exact h
    have f2 := M_froz K4.n1.mem.2
    have HA4 := hidp (And.intro happ K4)
    clear happ K4
    refine hK.out _ _ ?_ (fun hHeld => ?_)
    · (try dsimp only); go_keep
    clear hK K
    try simp only [Act.put, setIfInBounds_toArray, set_cons_zero, set_cons_succ]
    refine Last.tk 10 80 #[Y,Y,Y,Y,Y,Y,Y,Y,Y,Y,Y,Z,Z] rfl rfl hHeld ?_
    refine Last.tk 11 81 #[Y,Y,Y,Y,Y,Y,Y,Y,Y,Y,Y,Y,Z] rfl rfl hHeld ?_
    refine Last.last_ (i := 12) (N := none) #[Y,Y,Y,Y,Y,Y,Y,Y,Y,Y,Y,Y,Y] rfl rfl (by kernel_rfl) (by decide) (fun K hK => ?_)
    go_simp
    refine hK.out _ _ ?_
    clear hK K
    try simp only [Act.put, setIfInBounds_toArray, set_cons_zero, set_cons_succ]
    refine Last.done_ (by kernel_rfl) ?_
    obtain ⟨happ, K4⟩ := HA4.out
    obtain ⟨ib14, cap', hv5, K5⟩ := HK13.out.drew.n1.app_items rq.items HL12.out HLq.out happ (Upd.one w14a (b := l) (o := 2) _ (by rw [K4.n1.mem.2]; rfl))
    obtain rfl : gc14 = cap' := sv_cap hv5
    clear happ hv5 K4 HA4 HW14 y14_2 y14_3 f2 x14_2 x14_3
    have HL14 : Hid (List.length ((rl.items ++ [md]) ++ rq.items) = ll + 1 + lq) := hidp (by rw [List.length_append, HL12.out, HLq.out])
    generalize w14a.setCell ⟨l, 2, none⟩ (.slice ga14 (ll + 1 + lq) gc14) = w14 at K5 ⊢
    have HK15 : Hid (KS E S wc s [(n, ⟨rn.iso, rn.count, rn.items, (some (nb, no)), rn.icap, some ⟨kn.hdr, (some (kb, ko)), kn.cap, kn.kids⟩⟩), (l, ⟨rl.iso, rl.count, ((rl.items ++ [md]) ++ rq.items), ib14, gc14, rl.kids⟩), (q, rq)] w14) := hidp K5
    clear K5 HK13
    have c3 : w14.cell? ⟨l, 3, none⟩ = some (pv none) := by have h := HK15.out.n1.cell.2.2.2.2; dsimp only at h; rw [H1.out] at h; exact h
    go_wp2_with fail
    refine (leaf_raw c3).mono ?_
    rintro e w' ⟨rfl, rfl⟩
    clear c3
    have x16_1 : w14.cell? ⟨l, 1, none⟩ = some (.int .i64 rl.count) := HK15.out.n1.cell.2.2.1
    have q1 : w14.cell? ⟨q, 1, none⟩ = some (.int .i64 rq.count) := HK15.out.n2.cell.2.2.1
    have f1 := M_froz HK15.out.n1.mem.1
    have hlt : l < w14.heap.size := HK15.out.n1.cell.1
    have hs1 : IntKind.i64.wrap (rq.count + 1) = rq.count + 1 := by rw [Last.i64_w]; exact IntWalk.wrap64_in _ ⟨by omega, by omega⟩
    have hs2 : IntKind.i64.wrap (rl.count + (rq.count + 1)) = rl.count + (rq.count + 1) := by rw [Last.i64_w]; exact IntWalk.wrap64_in _ ⟨by omega, by omega⟩
    have K6 := HK15.out.n1.count (rl.count + (rq.count + 1)) (Upd.one w14 (b := l) (o := 1) _ (by rw [HK15.out.n1.mem.1]; rfl))
    have HC16 : Hid (KS E S wc s [(n, ⟨rn.iso, rn.count, rn.items, (some (nb, no)), rn.icap, some ⟨kn.hdr, (some (kb, ko)), kn.cap, kn.kids⟩⟩), (l, ⟨rl.iso, (rl.count + (rq.count + 1)), ((rl.items ++ [md]) ++ rq.items), ib14, gc14, rl.kids⟩), (q, rq)] (w14.setCell ⟨l, 1, none⟩ (.int .i64 (rl.count + (rq.count + 1))))) := hidp K6
    clear K6 HK15
    go_wp2_with fail
    refine Last.start_ (S := fun w' => w'.cell? ⟨l, 1, none⟩ = some (.int .i64 rl.count) ∧ w'.cell? ⟨q, 1, none⟩ = some (.int .i64 rq.count)) (ds := [12]) #[Z,Z,Z,Z,Z,Z,Z,Z,Z,Z,Z,Z,Z] (by rfl) (by rfl) (by rfl) ?_ (fun hHeld => ?_)
    · go_keep
    refine Last.tk 0 103 #[Y,Z,Z,Z,Z,Z,Z,Z,Z,Z,Z,Z,Z] rfl rfl hHeld ?_
    refine Last.tk 1 104 #[Y,Y,Z,Z,Z,Z,Z,Z,Z,Z,Z,Z,Z] rfl rfl hHeld ?_
    refine Last.tk 2 105 #[Y,Y,Y,Z,Z,Z,Z,Z,Z,Z,Z,Z,Z] rfl rfl hHeld ?_
    refine Last.tk 3 106 #[Y,Y,Y,Y,Z,Z,Z,Z,Z,Z,Z,Z,Z] rfl rfl hHeld ?_
    refine Last.tk 4 107 #[Y,Y,Y,Y,Y,Z,Z,Z,Z,Z,Z,Z,Z] rfl rfl hHeld ?_
    refine Last.tk 5 108 #[Y,Y,Y,Y,Y,Y,Z,Z,Z,Z,Z,Z,Z] rfl rfl hHeld ?_
    refine Last.tk 6 109 #[Y,Y,Y,Y,Y,Y,Y,Z,Z,Z,Z,Z,Z] rfl rfl hHeld ?_
    refine Last.tk 7 110 #[Y,Y,Y,Y,Y,Y,Y,Y,Z,Z,Z,Z,Z] rfl rfl hHeld ?_
    refine Last.tk 8 111 #[Y,Y,Y,Y,Y,Y,Y,Y,Y,Z,Z,Z,Z] rfl rfl hHeld ?_
    refine Last.tk 9 112 #[Y,Y,Y,Y,Y,Y,Y,Y,Y,Y,Z,Z,Z] rfl rfl hHeld ?_
    refine Last.tk 10 113 #[Y,Y,Y,Y,Y,Y,Y,Y,Y,Y,Y,Z,Z] rfl rfl hHeld ?_
    refine Last.tk 11 114 #[Y,Y,Y,Y,Y,Y,Y,Y,Y,Y,Y,Y,Z] rfl rfl hHeld ?_
    refine Last.last_ (i := 12) (N := none) #[Y,Y,Y,Y,Y,Y,Y,Y,Y,Y,Y,Y,Y] rfl rfl (by kernel_rfl) (by decide) (fun K hK => ?_)
    go_simp
    refine hK.out _ _ ?_
    clear hK K
    try simp only [Act.put, setIfInBounds_toArray, set_cons_zero, set_cons_succ]
    refine Last.done_ (by kernel_rfl) ?_
    have K7 := HC16.out.drew
    generalize (w14.setCell ⟨l, 1, none⟩ (.int .i64 (rl.count + (rq.count + 1)))).drew = w16 at K7 ⊢
    clear HC16 x16_1 f1 hlt
    have HK17 : Hid (KS E S wc s [(n, ⟨rn.iso, rn.count, rn.items, (some (nb, no)), rn.icap, some ⟨kn.hdr, (some (kb, ko)), kn.cap, kn.kids⟩⟩), (l, ⟨rl.iso, (rl.count + (rq.count + 1)), ((rl.items ++ [md]) ++ rq.items), ib14, gc14, rl.kids⟩), (q, rq)] w16) := hidp K7
    clear K7
    clear q1 hs1 hs2
    have x18_2 : w16.cell? ⟨n, 2, none⟩ = some (.slice (some ⟨nb, no, none⟩) (ln) rn.icap) := by
      have h : w16.cell? ⟨n, 2, none⟩ = some (sv (some (nb, no)) (List.length rn.items) rn.icap) := HK17.out.n0.cell.2.2.2.1
      rw [HLn.out] at h; exact h
    have hcap18 : ln ≤ rn.icap := by have h := HK17.out.n0.wf.2.2.1; rw [HLn.out] at h; exact h
    have hw1 : IntKind.i64.wrap ((j : Int) + 1) = (j : Int) + 1 := by rw [Last.i64_w]; exact IntWalk.wrap64_in _ ⟨by omega, by omega⟩
    have hb0 : (0 : Int) ≤ (j : Int) := by omega
    have hb1 : (0 : Int) ≤ (j : Int) + 1 := by omega
    have hb2 : (j : Int) ≤ ((ln : Nat) : Int) := by omega
    have hb3 : (j : Int) + 1 ≤ ((ln : Nat) : Int) := by omega
    have hnc : ¬ rn.icap = j := by omega
    go_wp2_with fail
    go_region_held3 (fun w' => w'.cell? ⟨n, 2, none⟩ = some (.slice (some ⟨nb, no, none⟩) (ln) rn.icap)) (go_keep)
      ((refine step_copy (by rfl) _ _ _ _ (by rfl) 120 i0 1 Try.underlying181 HI0.out HZ1.out nb (no + j) (ln - j) (rn.icap - j) ?hd nb (no + (j + 1)) (ln - (j + 1)) (rn.icap - (j + 1)) ?hx (itemCells E (List.drop (j + 1) rn.items)) ?hn (fun j' v hj => (by have h9 := HK17.out.drew.n0.src (b := nb) (o := no) (i := j + 1) (m := []) rfl (List.append_nil _).symm (by rw [HLn.out]; omega) hj; rw [show (j + 1) * E.sz = j + 1 from Nat.mul_one _] at h9; exact h9)) ?hc (itemCells_one _) ?_
        case hd => (simp [Act.eval]; try omega)
        case hx => (simp [Act.eval]; try omega)
        case hn =>
          have e : Nat.min (ln - (j + 1)) (ln - j) = ln - (j + 1) := Nat.min_eq_left (by omega)
          rw [itemCells_length, List.length_drop, HLn.out, e]; rfl
        case hc =>
          intro j' hj
          rw [itemCells_length, List.length_drop, HLn.out] at hj
          have h := (HK17.out.drew.n0.items (b := nb) (o := no) rfl).some (j + j') (by show j + j' < rn.icap * E.sz; have h2 : E.sz = 1 := rfl; rw [h2] at hj ⊢; omega)
          rw [Nat.add_assoc]; exact h
        intro w18a hu6
        have K6 := HK17.out.drew.n0.set_items (b := nb) (o := no) rfl (i := j) (List.drop (j + 1) rn.items) (by show _ ≤ List.length rn.items; rw [List.length_drop, HLn.out]; omega) (by show _ = _ + _ * 1; rw [Nat.mul_one]) hu6
        have HL18 : Hid (List.length (List.take j rn.items ++ List.drop (j + 1) rn.items ++ List.drop (j + (List.drop (j + 1) rn.items).length) rn.items) = ln) := hidp (by simp only [List.length_append, List.length_take, List.length_drop, HLn.out]; omega)
        have HC18 : Hid (KS E S wc s [(n, ⟨rn.iso, rn.count, (List.take j rn.items ++ List.drop (j + 1) rn.items ++ List.drop (j + (List.drop (j + 1) rn.items).length) rn.items), (some (nb, no)), rn.icap, some ⟨kn.hdr, (some (kb, ko)), kn.cap, kn.kids⟩⟩), (l, ⟨rl.iso, (rl.count + (rq.count + 1)), ((rl.items ++ [md]) ++ rq.items), ib14, gc14, rl.kids⟩), (q, rq)] w18a) := hidp K6
        clear K6 hu6
        have y18_2 : w18a.cell? ⟨n, 2, none⟩ = some (.slice (some ⟨nb, no, none⟩) (ln) rn.icap) := by
          have h : w18a.cell? ⟨n, 2, none⟩ = some (sv (some (nb, no)) (List.length (List.take j rn.items ++ List.drop (j + 1) rn.items ++ List.drop (j + (List.drop (j + 1) rn.items).length) rn.items)) rn.icap) := HC18.out.n0.cell.2.2.2.1
          rw [HL18.out] at h; exact h))
    generalize (if rn.icap = j + 1 then (some ⟨nb, no, none⟩ : Option Addr) else some ⟨nb, no + (j + 1), none⟩) = zz18
    clear HK17 x18_2 hw1 hb0 hb1 hb2 hb3 hnc
    clear y18_2
    have x19_2 : w18a.cell? ⟨n, 2, none⟩ = some (.slice (some ⟨nb, no, none⟩) (ln) rn.icap) := by
      have h : w18a.cell? ⟨n, 2, none⟩ = some (sv (some (nb, no)) (List.length (List.take j rn.items ++ List.drop (j + 1) rn.items ++ List.drop (j + (List.drop (j + 1) rn.items).length) rn.items)) rn.icap) := HC18.out.n0.cell.2.2.2.1
      rw [HL18.out] at h; exact h
    have x19_4 : w18a.cell? ⟨s.m, 4, none⟩ = some (Value.int .i64 0) := HC18.out.map.1.cell 4 rfl
    have x19_5 : w18a.cell? ⟨s.m, 4, none⟩ = some (Value.int .i64 0) := HC18.out.map.1.cell 4 rfl
    have hcap19 : ln ≤ rn.icap := by have h := HC18.out.n0.wf.2.2.1; rw [HL18.out] at h; exact h
    have ci := (HC18.out.n0.items (b := nb) (o := no) rfl).some (p) (by show p < rn.icap * E.sz; have h2 : E.sz = 1 := rfl; rw [h2]; omega)
    have ci2 := (HC18.out.n0.items (b := nb) (o := no) rfl).some (p) (by show p < rn.icap * E.sz; have h2 : E.sz = 1 := rfl; rw [h2]; omega)
    obtain ⟨z1, hz1'⟩ := Option.isSome_iff_exists.1 ci
    obtain ⟨z2, hz2'⟩ := Option.isSome_iff_exists.1 ci2
    have e1 : w18a.cell? ⟨nb, no + p, none⟩ = some z1 := M_cell hz1'
    have e2 : w18a.cell? ⟨nb, no + p, none⟩ = some z2 := M_cell hz2'
    have f1 : w18a.frozen? ⟨nb, no + p, none⟩ = false := M_froz hz1'
    have f2 : w18a.frozen? ⟨nb, no + p, none⟩ = false := M_froz hz2'
    have hu := Upd.one w18a (b := nb) (o := no + p) (Value.int .i64 0) (by exact ci2)
    have K6 := HC18.out.n0.set_item (b := nb) (o := no) rfl (i := p) ((0 : Int), ()) (by show _ < List.length (List.take j rn.items ++ List.drop (j + 1) rn.items ++ List.drop (j + (List.drop (j + 1) rn.items).length) rn.items); rw [HL18.out]; omega) (by show _ = _ + _ * 1; rw [Nat.mul_one]) hu
    have HL19 : Hid (List.length (List.set (List.take j rn.items ++ List.drop (j + 1) rn.items ++ List.drop (j + (List.drop (j + 1) rn.items).length) rn.items) p ((0 : Int), ())) = ln) := hidp (by rw [List.length_set]; exact HL18.out)
    have hblt : nb < w18a.heap.size := HC18.out.n0.blt (b := nb) (o := no) rfl
    have hw1 : IntKind.i64.wrap (((ln : Nat) : Int) - 1) = (p : Int) := by rw [Last.i64_w, IntWalk.wrap64_in _ ⟨by omega, by omega⟩]; omega
    have hb1 : (p : Int) < ((ln : Nat) : Int) := by omega
    have hb2 : (p : Int) ≤ ((ln : Nat) : Int) := by omega
    have HC19 : Hid (KS E S wc s [(n, ⟨rn.iso, rn.count, (List.set (List.take j rn.items ++ List.drop (j + 1) rn.items ++ List.drop (j + (List.drop (j + 1) rn.items).length) rn.items) p ((0 : Int), ())), (some (nb, no)), rn.icap, some ⟨kn.hdr, (some (kb, ko)), kn.cap, kn.kids⟩⟩), (l, ⟨rl.iso, (rl.count + (rq.count + 1)), ((rl.items ++ [md]) ++ rq.items), ib14, gc14, rl.kids⟩), (q, rq)] (w18a.setCell ⟨nb, no + p, none⟩ (Value.int .i64 0))) := hidp K6
    clear ci ci2 hz1' hz2' hu K6 HC18
    go_wp2_with fail
    refine Last.start_ (S := fun w' => w'.cell? ⟨n, 2, none⟩ = some (.slice (some ⟨nb, no, none⟩) (ln) rn.icap) ∧ w'.cell? ⟨s.m, 4, none⟩ = some (Value.int .i64 0)) (ds := [15]) #[Z,Z,Z,Z,Z,Z,Z,Z,Z,Z,Z,Z,Z,Z,Z,Z] (by rfl) (by rfl) (by rfl) ?_ (fun hHeld => ?_)
    · go_keep
    refine Last.tk 0 129 #[Y,Z,Z,Z,Z,Z,Z,Z,Z,Z,Z,Z,Z,Z,Z,Z] rfl rfl hHeld ?_
    refine Last.tk 1 130 #[Y,Y,Z,Z,Z,Z,Z,Z,Z,Z,Z,Z,Z,Z,Z,Z] rfl rfl hHeld ?_
    refine Last.tk 2 131 #[Y,Y,Y,Z,Z,Z,Z,Z,Z,Z,Z,Z,Z,Z,Z,Z] rfl rfl hHeld ?_
    refine Last.tk 3 132 #[Y,Y,Y,Y,Z,Z,Z,Z,Z,Z,Z,Z,Z,Z,Z,Z] rfl rfl hHeld ?_
    refine Last.tk 4 133 #[Y,Y,Y,Y,Y,Z,Z,Z,Z,Z,Z,Z,Z,Z,Z,Z] rfl rfl hHeld ?_
    refine Last.tk 5 134 #[Y,Y,Y,Y,Y,Y,Z,Z,Z,Z,Z,Z,Z,Z,Z,Z] rfl rfl hHeld ?_
    refine Last.tk 6 135 #[Y,Y,Y,Y,Y,Y,Y,Z,Z,Z,Z,Z,Z,Z,Z,Z] rfl rfl hHeld ?_
    refine Last.tk 7 136 #[Y,Y,Y,Y,Y,Y,Y,Y,Z,Z,Z,Z,Z,Z,Z,Z] rfl rfl hHeld ?_
    refine Last.tk 8 137 #[Y,Y,Y,Y,Y,Y,Y,Y,Y,Z,Z,Z,Z,Z,Z,Z] rfl rfl hHeld ?_
    refine Last.tk 9 138 #[Y,Y,Y,Y,Y,Y,Y,Y,Y,Y,Z,Z,Z,Z,Z,Z] rfl rfl hHeld ?_
    refine Last.tk 10 139 #[Y,Y,Y,Y,Y,Y,Y,Y,Y,Y,Y,Z,Z,Z,Z,Z] rfl rfl hHeld ?_
    refine Last.tk 11 140 #[Y,Y,Y,Y,Y,Y,Y,Y,Y,Y,Y,Y,Z,Z,Z,Z] rfl rfl hHeld ?_
    refine Last.tk 12 141 #[Y,Y,Y,Y,Y,Y,Y,Y,Y,Y,Y,Y,Y,Z,Z,Z] rfl rfl hHeld ?_
    refine Last.tk 13 142 #[Y,Y,Y,Y,Y,Y,Y,Y,Y,Y,Y,Y,Y,Y,Z,Z] rfl rfl hHeld ?_
    refine Last.tk 14 143 #[Y,Y,Y,Y,Y,Y,Y,Y,Y,Y,Y,Y,Y,Y,Y,Z] rfl rfl hHeld ?_
    refine Last.last_ (i := 15) (N := none) #[Y,Y,Y,Y,Y,Y,Y,Y,Y,Y,Y,Y,Y,Y,Y,Y] rfl rfl (by kernel_rfl) (by decide) (fun K hK => ?_)
    go_simp
    refine hK.out _ _ ?_
    clear hK K
    try simp only [Act.put, setIfInBounds_toArray, set_cons_zero, set_cons_succ]
    refine Last.done_ (by kernel_rfl) ?_
    have K7 := HC19.out.drew
    generalize (w18a.setCell ⟨nb, no + p, none⟩ (Value.int .i64 0)).drew = w19 at K7 ⊢
    clear HC19 x19_2 x19_4 x19_5 e1 e2 f1 f2 hblt
    have HK20 : Hid (KS E S wc s [(n, ⟨rn.iso, rn.count, (List.set (List.take j rn.items ++ List.drop (j + 1) rn.items ++ List.drop (j + (List.drop (j + 1) rn.items).length) rn.items) p ((0 : Int), ())), (some (nb, no)), rn.icap, some ⟨kn.hdr, (some (kb, ko)), kn.cap, kn.kids⟩⟩), (l, ⟨rl.iso, (rl.count + (rq.count + 1)), ((rl.items ++ [md]) ++ rq.items), ib14, gc14, rl.kids⟩), (q, rq)] w19) := hidp K7
    clear K7
    have x21_2 : w19.cell? ⟨n, 2, none⟩ = some (.slice (some ⟨nb, no, none⟩) (ln) rn.icap) := by
      have h : w19.cell? ⟨n, 2, none⟩ = some (sv (some (nb, no)) (List.length (List.set (List.take j rn.items ++ List.drop (j + 1) rn.items ++ List.drop (j + (List.drop (j + 1) rn.items).length) rn.items) p ((0 : Int), ()))) rn.icap) := HK20.out.n0.cell.2.2.2.1
      rw [HL19.out] at h; exact h
    have f2 := M_froz HK20.out.n0.mem.2
    have hlt : n < w19.heap.size := HK20.out.n0.cell.1
    have hcp : ln ≤ rn.icap := by have h := HK20.out.n0.wf.2.2.1; rw [HL19.out] at h; exact h
    have hcc : ¬ rn.icap < p := by omega
    have hcd : (p : Int) ≤ (rn.icap : Int) := by omega
    have K6 := HK20.out.n0.take_items (k := p) (by show _ ≤ List.length (List.set (List.take j rn.items ++ List.drop (j + 1) rn.items ++ List.drop (j + (List.drop (j + 1) rn.items).length) rn.items) p ((0 : Int), ())); rw [HL19.out]; omega) (Upd.one w19 (b := n) (o := 2) (.slice (some ⟨nb, no, none⟩) p rn.icap) (by rw [HK20.out.n0.mem.2]; rfl))
    have HL21 : Hid (List.length (List.take p (List.set (List.take j rn.items ++ List.drop (j + 1) rn.items ++ List.drop (j + (List.drop (j + 1) rn.items).length) rn.items) p ((0 : Int), ()))) = p) := hidp (by rw [List.length_take, HL19.out]; omega)
    have HC21 : Hid (KS E S wc s [(n, ⟨rn.iso, rn.count, (List.take p (List.set (List.take j rn.items ++ List.drop (j + 1) rn.items ++ List.drop (j + (List.drop (j + 1) rn.items).length) rn.items) p ((0 : Int), ()))), (some (nb, no)), rn.icap, some ⟨kn.hdr, (some (kb, ko)), kn.cap, kn.kids⟩⟩), (l, ⟨rl.iso, (rl.count + (rq.count + 1)), ((rl.items ++ [md]) ++ rq.items), ib14, gc14, rl.kids⟩), (q, rq)] (w19.setCell ⟨n, 2, none⟩ (.slice (some ⟨nb, no, none⟩) p rn.icap))) := hidp K6
    clear K6 HK20
    go_wp2_with fail
    refine Last.start_ (S := fun w' => w'.cell? ⟨n, 2, none⟩ = some (.slice (some ⟨nb, no, none⟩) (ln) rn.icap)) (ds := [14]) #[Z,Z,Z,Z,Z,Z,Z,Z,Z,Z,Z,Z,Z,Z,Z] (by rfl) (by rfl) (by rfl) ?_ (fun hHeld => ?_)
    · go_keep
    refine Last.tk 0 144 #[Y,Z,Z,Z,Z,Z,Z,Z,Z,Z,Z,Z,Z,Z,Z] rfl rfl hHeld ?_
    refine Last.tk 1 145 #[Y,Y,Z,Z,Z,Z,Z,Z,Z,Z,Z,Z,Z,Z,Z] rfl rfl hHeld ?_
    refine Last.tk 2 146 #[Y,Y,Y,Z,Z,Z,Z,Z,Z,Z,Z,Z,Z,Z,Z] rfl rfl hHeld ?_
    refine Last.tk 3 147 #[Y,Y,Y,Y,Z,Z,Z,Z,Z,Z,Z,Z,Z,Z,Z] rfl rfl hHeld ?_
    refine Last.tk 4 148 #[Y,Y,Y,Y,Y,Z,Z,Z,Z,Z,Z,Z,Z,Z,Z] rfl rfl hHeld ?_
    refine Last.tk 5 149 #[Y,Y,Y,Y,Y,Y,Z,Z,Z,Z,Z,Z,Z,Z,Z] rfl rfl hHeld ?_
    refine Last.tk 6 150 #[Y,Y,Y,Y,Y,Y,Y,Z,Z,Z,Z,Z,Z,Z,Z] rfl rfl hHeld ?_
    refine Last.tk 7 151 #[Y,Y,Y,Y,Y,Y,Y,Y,Z,Z,Z,Z,Z,Z,Z] rfl rfl hHeld ?_
    refine Last.tk 8 152 #[Y,Y,Y,Y,Y,Y,Y,Y,Y,Z,Z,Z,Z,Z,Z] rfl rfl hHeld ?_
    refine Last.tk 9 153 #[Y,Y,Y,Y,Y,Y,Y,Y,Y,Y,Z,Z,Z,Z,Z] rfl rfl hHeld ?_
    refine Last.tk 10 154 #[Y,Y,Y,Y,Y,Y,Y,Y,Y,Y,Y,Z,Z,Z,Z] rfl rfl hHeld ?_
    refine Last.tk 11 155 #[Y,Y,Y,Y,Y,Y,Y,Y,Y,Y,Y,Y,Z,Z,Z] rfl rfl hHeld ?_
    refine Last.tk 12 156 #[Y,Y,Y,Y,Y,Y,Y,Y,Y,Y,Y,Y,Y,Z,Z] rfl rfl hHeld ?_
    refine Last.tk 13 157 #[Y,Y,Y,Y,Y,Y,Y,Y,Y,Y,Y,Y,Y,Y,Z] rfl rfl hHeld ?_
    refine Last.last_ (i := 14) (N := none) #[Y,Y,Y,Y,Y,Y,Y,Y,Y,Y,Y,Y,Y,Y,Y] rfl rfl (by kernel_rfl) (by decide) (fun K hK => ?_)
    go_simp
    refine hK.out _ _ ?_
    clear hK K
    try simp only [Act.put, setIfInBounds_toArray, set_cons_zero, set_cons_succ]
    refine Last.done_ (by kernel_rfl) ?_
    have K7 := HC21.out.drew
    generalize (w19.setCell ⟨n, 2, none⟩ (.slice (some ⟨nb, no, none⟩) p rn.icap)).drew = w21 at K7 ⊢
    clear HC21 x21_2 f2 hlt hcc hcd hcp
    have hsh : (List.take p (List.set (List.take j rn.items ++ List.drop (j + 1) rn.items ++ List.drop (j + (List.drop (j + 1) rn.items).length) rn.items) p ((0 : Int), ()))) = (List.take j rn.items ++ List.drop (j + 1) rn.items) := cut_shift (HLn.out.trans HP.out) (by omega)
    have HLs21 : Hid (List.length (List.take j rn.items ++ List.drop (j + 1) rn.items) = p) := hidp (by rw [← hsh]; exact HL21.out)
    rw [hsh] at K7
    have HK22 : Hid (KS E S wc s [(n, ⟨rn.iso, rn.count, (List.take j rn.items ++ List.drop (j + 1) rn.items), (some (nb, no)), rn.icap, some ⟨kn.hdr, (some (kb, ko)), kn.cap, kn.kids⟩⟩), (l, ⟨rl.iso, (rl.count + (rq.count + 1)), ((rl.items ++ [md]) ++ rq.items), ib14, gc14, rl.kids⟩), (q, rq)] w21) := hidp K7
    clear K7 hsh
    clear hw1 hb1 hb2
    have x233 : w21.cell? ⟨n, 3, none⟩ = some (.pointer (some ⟨kn.hdr, 0, none⟩)) := HK22.out.n0.cell.2.2.2.2
    have x23h : w21.cell? ⟨kn.hdr, 0, none⟩ = some (.slice (some ⟨kb, ko, none⟩) (lk) kn.cap) := by
      have h : w21.cell? ⟨kn.hdr, 0, none⟩ = some (sv (some (kb, ko)) (List.length kn.kids) kn.cap) := M_cell (HK22.out.n0.hdr (k := ⟨kn.hdr, (some (kb, ko)), kn.cap, kn.kids⟩) rfl).2
      rw [HLk.out] at h; exact h
    have hcap23 : lk ≤ kn.cap := by have h := HK22.out.n0.wf.2.2.2 _ rfl; rw [HLk.out] at h; exact h
    have hw1 : IntKind.i64.wrap ((j : Int) + 1) = (j : Int) + 1 := by rw [Last.i64_w]; exact IntWalk.wrap64_in _ ⟨by omega, by omega⟩
    have hw2 : IntKind.i64.wrap ((j : Int) + 2) = (j : Int) + 2 := by rw [Last.i64_w]; exact IntWalk.wrap64_in _ ⟨by omega, by omega⟩
    have hb0 : (0 : Int) ≤ (j : Int) + 1 := by omega
    have hb1 : (0 : Int) ≤ (j : Int) + 2 := by omega
    have hb2 : (j : Int) + 1 ≤ (lk : Int) := by omega
    have hb3 : (j : Int) + 2 ≤ (lk : Int) := by omega
    go_wp2_with fail
    go_region_held3 (fun w' => w'.cell? ⟨n, 3, none⟩ = some (.pointer (some ⟨kn.hdr, 0, none⟩)) ∧ w'.cell? ⟨kn.hdr, 0, none⟩ = some (.slice (some ⟨kb, ko, none⟩) (lk) kn.cap)) (go_keep)
      ((refine step_copy (by rfl) _ _ _ _ (by rfl) 118 j0 1 Try.underlying185 HJ0.out HY1.out kb (ko + (j + 1)) (lk - (j + 1)) (kn.cap - (j + 1)) ?hd kb (ko + (j + 2)) (lk - (j + 2)) (kn.cap - (j + 2)) ?hx (((List.drop (j + 2) kn.kids)).map pv) ?hn (fun j' v hj => ?hs) ?hc (fun v hv => by obtain ⟨p', _, rfl⟩ := List.mem_map.1 hv; cases p' <;> rfl) ?_
        case hd => (simp [Act.eval, show ((j : Int) + 2).toNat = j + 2 by omega]; try omega)
        case hx => (simp [Act.eval, show ((j : Int) + 2).toNat = j + 2 by omega]; try omega)
        case hn =>
          have e : Nat.min (lk - (j + 2)) (lk - (j + 1)) = lk - (j + 2) := Nat.min_eq_left (by omega)
          rw [List.length_map, e, Nat.mul_one]; exact (show List.length (List.drop (j + 2) kn.kids) = lk - (j + 2) by rw [List.length_drop, HLk.out])
        case hs =>
          have h := (HK22.out.drew.n0.arr (k := ⟨kn.hdr, (some (kb, ko)), kn.cap, kn.kids⟩) (b := kb) (o := ko) rfl rfl).val (j + 2 + j') v (by
            rw [← List.getElem?_drop, ← List.map_drop, (show List.drop (j + 2) kn.kids = List.drop (j + 2) kn.kids ++ [] from (List.append_nil _).symm), List.map_append, List.getElem?_append_left (List.getElem?_eq_some_iff.1 hj).1]; exact hj)
          have h2 : M _ kb (ko + (j + 2 + j')) = some v := h
          rw [← Nat.add_assoc] at h2; exact h2
        case hc =>
          intro j' hj
          have hj' : j' < lk - (j + 2) := by rw [List.length_map] at hj; have h := (show List.length (List.drop (j + 2) kn.kids) = lk - (j + 2) by rw [List.length_drop, HLk.out]); omega
          have h := (HK22.out.drew.n0.arr (k := ⟨kn.hdr, (some (kb, ko)), kn.cap, kn.kids⟩) (b := kb) (o := ko) rfl rfl).some (j + 1 + j') (by show j + 1 + j' < kn.cap; omega)
          have h2 : (M _ kb (ko + (j + 1 + j'))).isSome = true := h
          rw [← Nat.add_assoc] at h2; exact h2
        intro w23a hu6
        have K6 := HK22.out.drew.n0.set_kids (k := ⟨kn.hdr, (some (kb, ko)), kn.cap, kn.kids⟩) (b := kb) (o := ko) rfl rfl (i := j + 1) ((List.drop (j + 2) kn.kids)) (by show _ ≤ List.length kn.kids; rw [HLk.out]; have h := (show List.length (List.drop (j + 2) kn.kids) = lk - (j + 2) by rw [List.length_drop, HLk.out]); omega) (by first | rfl | simp) hu6
        have HL23 : Hid (List.length (List.take (j + 1) kn.kids ++ (List.drop (j + 2) kn.kids) ++ List.drop (j + 1 + List.length (List.drop (j + 2) kn.kids)) kn.kids) = lk) := hidp (by have h := (show List.length (List.drop (j + 2) kn.kids) = lk - (j + 2) by rw [List.length_drop, HLk.out]); simp only [List.length_append, List.length_take, List.length_drop, HLk.out] at h ⊢; omega)
        have HC23 : Hid (KS E S wc s [(n, ⟨rn.iso, rn.count, (List.take j rn.items ++ List.drop (j + 1) rn.items), (some (nb, no)), rn.icap, some ⟨kn.hdr, (some (kb, ko)), kn.cap, (List.take (j + 1) kn.kids ++ (List.drop (j + 2) kn.kids) ++ List.drop (j + 1 + List.length (List.drop (j + 2) kn.kids)) kn.kids)⟩⟩), (l, ⟨rl.iso, (rl.count + (rq.count + 1)), ((rl.items ++ [md]) ++ rq.items), ib14, gc14, rl.kids⟩), (q, rq)] w23a) := hidp K6
        clear K6 hu6
        have y233 : w23a.cell? ⟨n, 3, none⟩ = some (.pointer (some ⟨kn.hdr, 0, none⟩)) := HC23.out.n0.cell.2.2.2.2
        have y23h : w23a.cell? ⟨kn.hdr, 0, none⟩ = some (.slice (some ⟨kb, ko, none⟩) (lk) kn.cap) := by
          have h : w23a.cell? ⟨kn.hdr, 0, none⟩ = some (sv (some (kb, ko)) (List.length (List.take (j + 1) kn.kids ++ (List.drop (j + 2) kn.kids) ++ List.drop (j + 1 + List.length (List.drop (j + 2) kn.kids)) kn.kids)) kn.cap) := M_cell (HC23.out.n0.hdr (k := ⟨kn.hdr, (some (kb, ko)), kn.cap, (List.take (j + 1) kn.kids ++ (List.drop (j + 2) kn.kids) ++ List.drop (j + 1 + List.length (List.drop (j + 2) kn.kids)) kn.kids)⟩) rfl).2
          rw [HL23.out] at h; exact h))
    generalize (if kn.cap = j + 1 then (some ⟨kb, ko, none⟩ : Option Addr) else some ⟨kb, ko + (j + 1), none⟩) = zz24
    generalize (if kn.cap = ((j : Int) + 2).toNat then (some ⟨kb, ko, none⟩ : Option Addr) else some ⟨kb, ko + (((j : Int) + 2).toNat), none⟩) = zz25
    clear HK22 x233 x23h y233 y23h
    clear hw1 hw2 hb0 hb1 hb2 hb3
    have x263 : w23a.cell? ⟨n, 3, none⟩ = some (.pointer (some ⟨kn.hdr, 0, none⟩)) := HC23.out.n0.cell.2.2.2.2
    have x26h : w23a.cell? ⟨kn.hdr, 0, none⟩ = some (.slice (some ⟨kb, ko, none⟩) (lk) kn.cap) := by
      have h : w23a.cell? ⟨kn.hdr, 0, none⟩ = some (sv (some (kb, ko)) (List.length (List.take (j + 1) kn.kids ++ (List.drop (j + 2) kn.kids) ++ List.drop (j + 1 + List.length (List.drop (j + 2) kn.kids)) kn.kids)) kn.cap) := M_cell (HC23.out.n0.hdr (k := ⟨kn.hdr, (some (kb, ko)), kn.cap, (List.take (j + 1) kn.kids ++ (List.drop (j + 2) kn.kids) ++ List.drop (j + 1 + List.length (List.drop (j + 2) kn.kids)) kn.kids)⟩) rfl).2
      rw [HL23.out] at h; exact h
    have hw1 : IntKind.i64.wrap ((lk : Int) - 1) = (ln : Int) := by rw [Last.i64_w, IntWalk.wrap64_in _ ⟨by omega, by omega⟩]; omega
    have hb5 : (ln : Int) < (lk : Int) := by omega
    have hb6 : (ln : Int) ≤ (lk : Int) := by omega
    have hb7 : (0 : Int) ≤ (ln : Int) := by omega
    have hck : lk ≤ kn.cap := by have h := HC23.out.n0.wf.2.2.2 _ rfl; rw [HL23.out] at h; exact h
    have ci := (HC23.out.n0.arr (k := ⟨kn.hdr, (some (kb, ko)), kn.cap, (List.take (j + 1) kn.kids ++ (List.drop (j + 2) kn.kids) ++ List.drop (j + 1 + List.length (List.drop (j + 2) kn.kids)) kn.kids)⟩) (b := kb) (o := ko) rfl rfl).some (ln) (by show ln < kn.cap; omega)
    obtain ⟨z1, hz1'⟩ := Option.isSome_iff_exists.1 ci
    have e1 : w23a.cell? ⟨kb, ko + ln, none⟩ = some z1 := M_cell hz1'
    have f1 : w23a.frozen? ⟨kb, ko + ln, none⟩ = false := M_froz hz1'
    have K6 := HC23.out.n0.set_kid (k := ⟨kn.hdr, (some (kb, ko)), kn.cap, (List.take (j + 1) kn.kids ++ (List.drop (j + 2) kn.kids) ++ List.drop (j + 1 + List.length (List.drop (j + 2) kn.kids)) kn.kids)⟩) (b := kb) (o := ko) rfl rfl (i := ln) (none) (by show _ < List.length (List.take (j + 1) kn.kids ++ (List.drop (j + 2) kn.kids) ++ List.drop (j + 1 + List.length (List.drop (j + 2) kn.kids)) kn.kids); rw [HL23.out]; omega) (by rfl) (Upd.one w23a (b := kb) (o := ko + ln) (.pointer none) (by exact ci))
    have HL26 : Hid (List.length (List.set (List.take (j + 1) kn.kids ++ (List.drop (j + 2) kn.kids) ++ List.drop (j + 1 + List.length (List.drop (j + 2) kn.kids)) kn.kids) (ln) (none)) = lk) := hidp (by rw [List.length_set]; exact HL23.out)
    have hblt : kb < w23a.heap.size := World.block_lt_of_cell? w23a _ e1
    have HC26 : Hid (KS E S wc s [(n, ⟨rn.iso, rn.count, (List.take j rn.items ++ List.drop (j + 1) rn.items), (some (nb, no)), rn.icap, some ⟨kn.hdr, (some (kb, ko)), kn.cap, (List.set (List.take (j + 1) kn.kids ++ (List.drop (j + 2) kn.kids) ++ List.drop (j + 1 + List.length (List.drop (j + 2) kn.kids)) kn.kids) (ln) (none))⟩⟩), (l, ⟨rl.iso, (rl.count + (rq.count + 1)), ((rl.items ++ [md]) ++ rq.items), ib14, gc14, rl.kids⟩), (q, rq)] (w23a.setCell ⟨kb, ko + ln, none⟩ (.pointer none))) := hidp K6
    clear ci hz1' K6 HC23
    go_wp2_with fail
    refine Last.start_ (S := fun w' => w'.cell? ⟨n, 3, none⟩ = some (.pointer (some ⟨kn.hdr, 0, none⟩)) ∧ w'.cell? ⟨kn.hdr, 0, none⟩ = some (.slice (some ⟨kb, ko, none⟩) (lk) kn.cap)) (ds := [15]) #[Z,Z,Z,Z,Z,Z,Z,Z,Z,Z,Z,Z,Z,Z,Z,Z] (by rfl) (by rfl) (by rfl) ?_ (fun hHeld => ?_)
    · go_keep
    refine Last.tk 0 177 #[Y,Z,Z,Z,Z,Z,Z,Z,Z,Z,Z,Z,Z,Z,Z,Z] rfl rfl hHeld ?_
    refine Last.tk 1 178 #[Y,Y,Z,Z,Z,Z,Z,Z,Z,Z,Z,Z,Z,Z,Z,Z] rfl rfl hHeld ?_
    refine Last.tk 2 179 #[Y,Y,Y,Z,Z,Z,Z,Z,Z,Z,Z,Z,Z,Z,Z,Z] rfl rfl hHeld ?_
    refine Last.tk 3 180 #[Y,Y,Y,Y,Z,Z,Z,Z,Z,Z,Z,Z,Z,Z,Z,Z] rfl rfl hHeld ?_
    refine Last.tk 4 181 #[Y,Y,Y,Y,Y,Z,Z,Z,Z,Z,Z,Z,Z,Z,Z,Z] rfl rfl hHeld ?_
    refine Last.tk 5 182 #[Y,Y,Y,Y,Y,Y,Z,Z,Z,Z,Z,Z,Z,Z,Z,Z] rfl rfl hHeld ?_
    refine Last.tk 6 183 #[Y,Y,Y,Y,Y,Y,Y,Z,Z,Z,Z,Z,Z,Z,Z,Z] rfl rfl hHeld ?_
    refine Last.tk 7 184 #[Y,Y,Y,Y,Y,Y,Y,Y,Z,Z,Z,Z,Z,Z,Z,Z] rfl rfl hHeld ?_
    refine Last.tk 8 185 #[Y,Y,Y,Y,Y,Y,Y,Y,Y,Z,Z,Z,Z,Z,Z,Z] rfl rfl hHeld ?_
    refine Last.tk 9 186 #[Y,Y,Y,Y,Y,Y,Y,Y,Y,Y,Z,Z,Z,Z,Z,Z] rfl rfl hHeld ?_
    refine Last.tk 10 187 #[Y,Y,Y,Y,Y,Y,Y,Y,Y,Y,Y,Z,Z,Z,Z,Z] rfl rfl hHeld ?_
    refine Last.tk 11 188 #[Y,Y,Y,Y,Y,Y,Y,Y,Y,Y,Y,Y,Z,Z,Z,Z] rfl rfl hHeld ?_
    refine Last.tk 12 189 #[Y,Y,Y,Y,Y,Y,Y,Y,Y,Y,Y,Y,Y,Z,Z,Z] rfl rfl hHeld ?_
    refine Last.tk 13 190 #[Y,Y,Y,Y,Y,Y,Y,Y,Y,Y,Y,Y,Y,Y,Z,Z] rfl rfl hHeld ?_
    refine Last.tk 14 191 #[Y,Y,Y,Y,Y,Y,Y,Y,Y,Y,Y,Y,Y,Y,Y,Z] rfl rfl hHeld ?_
    refine Last.last_ (i := 15) (N := none) #[Y,Y,Y,Y,Y,Y,Y,Y,Y,Y,Y,Y,Y,Y,Y,Y] rfl rfl (by kernel_rfl) (by decide) (fun K hK => ?_)
    go_simp
    refine hK.out _ _ ?_
    clear hK K
    try simp only [Act.put, setIfInBounds_toArray, set_cons_zero, set_cons_succ]
    refine Last.done_ (by kernel_rfl) ?_
    have K7 := HC26.out.drew
    generalize (w23a.setCell ⟨kb, ko + ln, none⟩ (.pointer none)).drew = w26 at K7 ⊢
    clear HC26 x263 x26h e1 f1 hblt hck 
    have HK27 : Hid (KS E S wc s [(n, ⟨rn.iso, rn.count, (List.take j rn.items ++ List.drop (j + 1) rn.items), (some (nb, no)), rn.icap, some ⟨kn.hdr, (some (kb, ko)), kn.cap, (List.set (List.take (j + 1) kn.kids ++ (List.drop (j + 2) kn.kids) ++ List.drop (j + 1 + List.length (List.drop (j + 2) kn.kids)) kn.kids) (ln) (none))⟩⟩), (l, ⟨rl.iso, (rl.count + (rq.count + 1)), ((rl.items ++ [md]) ++ rq.items), ib14, gc14, rl.kids⟩), (q, rq)] w26) := hidp K7
    clear K7
    have x283 : w26.cell? ⟨n, 3, none⟩ = some (.pointer (some ⟨kn.hdr, 0, none⟩)) := HK27.out.n0.cell.2.2.2.2
    have x28h : w26.cell? ⟨kn.hdr, 0, none⟩ = some (.slice (some ⟨kb, ko, none⟩) (lk) kn.cap) := by
      have h : w26.cell? ⟨kn.hdr, 0, none⟩ = some (sv (some (kb, ko)) (List.length (List.set (List.take (j + 1) kn.kids ++ (List.drop (j + 2) kn.kids) ++ List.drop (j + 1 + List.length (List.drop (j + 2) kn.kids)) kn.kids) (ln) (none))) kn.cap) := M_cell (HK27.out.n0.hdr (k := ⟨kn.hdr, (some (kb, ko)), kn.cap, (List.set (List.take (j + 1) kn.kids ++ (List.drop (j + 2) kn.kids) ++ List.drop (j + 1 + List.length (List.drop (j + 2) kn.kids)) kn.kids) (ln) (none))⟩) rfl).2
      rw [HL26.out] at h; exact h
    
    have f2 := M_froz (HK27.out.n0.hdr (k := ⟨kn.hdr, (some (kb, ko)), kn.cap, (List.set (List.take (j + 1) kn.kids ++ (List.drop (j + 2) kn.kids) ++ List.drop (j + 1 + List.length (List.drop (j + 2) kn.kids)) kn.kids) (ln) (none))⟩) rfl).2
    have hlt : kn.hdr < w26.heap.size := (HK27.out.n0.hdr (k := ⟨kn.hdr, (some (kb, ko)), kn.cap, (List.set (List.take (j + 1) kn.kids ++ (List.drop (j + 2) kn.kids) ++ List.drop (j + 1 + List.length (List.drop (j + 2) kn.kids)) kn.kids) (ln) (none))⟩) rfl).1
    have hcp : lk ≤ kn.cap := by have h := HK27.out.n0.wf.2.2.2 _ rfl; rw [HL26.out] at h; exact h
    have hcc : ¬ kn.cap < ln := by omega
    have hcd : (ln : Int) ≤ (kn.cap : Int) := by omega
    have K6 := HK27.out.n0.take_kids (k := ⟨kn.hdr, (some (kb, ko)), kn.cap, (List.set (List.take (j + 1) kn.kids ++ (List.drop (j + 2) kn.kids) ++ List.drop (j + 1 + List.length (List.drop (j + 2) kn.kids)) kn.kids) (ln) (none))⟩) (b := kb) (o := ko) rfl rfl (j := ln) (by show _ ≤ List.length (List.set (List.take (j + 1) kn.kids ++ (List.drop (j + 2) kn.kids) ++ List.drop (j + 1 + List.length (List.drop (j + 2) kn.kids)) kn.kids) (ln) (none)); rw [HL26.out]; omega) (Upd.one w26 (b := kn.hdr) (o := 0) (.slice (some ⟨kb, ko, none⟩) ln kn.cap) (by rw [(HK27.out.n0.hdr (k := ⟨kn.hdr, (some (kb, ko)), kn.cap, (List.set (List.take (j + 1) kn.kids ++ (List.drop (j + 2) kn.kids) ++ List.drop (j + 1 + List.length (List.drop (j + 2) kn.kids)) kn.kids) (ln) (none))⟩) rfl).2]; rfl))
    have HL28 : Hid (List.length (List.take ln (List.set (List.take (j + 1) kn.kids ++ (List.drop (j + 2) kn.kids) ++ List.drop (j + 1 + List.length (List.drop (j + 2) kn.kids)) kn.kids) (ln) (none))) = ln) := hidp (by rw [List.length_take, HL26.out]; omega)
    have HC28 : Hid (KS E S wc s [(n, ⟨rn.iso, rn.count, (List.take j rn.items ++ List.drop (j + 1) rn.items), (some (nb, no)), rn.icap, some ⟨kn.hdr, (some (kb, ko)), kn.cap, (List.take ln (List.set (List.take (j + 1) kn.kids ++ (List.drop (j + 2) kn.kids) ++ List.drop (j + 1 + List.length (List.drop (j + 2) kn.kids)) kn.kids) (ln) (none)))⟩⟩), (l, ⟨rl.iso, (rl.count + (rq.count + 1)), ((rl.items ++ [md]) ++ rq.items), ib14, gc14, rl.kids⟩), (q, rq)] (w26.setCell ⟨kn.hdr, 0, none⟩ (.slice (some ⟨kb, ko, none⟩) ln kn.cap))) := hidp K6
    clear K6 HK27
    go_wp2_with fail
    refine Last.start_ (S := fun w' => w'.cell? ⟨n, 3, none⟩ = some (.pointer (some ⟨kn.hdr, 0, none⟩)) ∧ w'.cell? ⟨kn.hdr, 0, none⟩ = some (.slice (some ⟨kb, ko, none⟩) (lk) kn.cap)) (ds := [20]) #[Z,Z,Z,Z,Z,Z,Z,Z,Z,Z,Z,Z,Z,Z,Z,Z,Z,Z,Z,Z,Z] (by rfl) (by rfl) (by rfl) ?_ (fun hHeld => ?_)
    · go_keep
    refine Last.tk 0 192 #[Y,Z,Z,Z,Z,Z,Z,Z,Z,Z,Z,Z,Z,Z,Z,Z,Z,Z,Z,Z,Z] rfl rfl hHeld ?_
    refine Last.tk 1 193 #[Y,Y,Z,Z,Z,Z,Z,Z,Z,Z,Z,Z,Z,Z,Z,Z,Z,Z,Z,Z,Z] rfl rfl hHeld ?_
    refine Last.tk 2 194 #[Y,Y,Y,Z,Z,Z,Z,Z,Z,Z,Z,Z,Z,Z,Z,Z,Z,Z,Z,Z,Z] rfl rfl hHeld ?_
    refine Last.tk 3 195 #[Y,Y,Y,Y,Z,Z,Z,Z,Z,Z,Z,Z,Z,Z,Z,Z,Z,Z,Z,Z,Z] rfl rfl hHeld ?_
    refine Last.tk 4 196 #[Y,Y,Y,Y,Y,Z,Z,Z,Z,Z,Z,Z,Z,Z,Z,Z,Z,Z,Z,Z,Z] rfl rfl hHeld ?_
    refine Last.tk 5 197 #[Y,Y,Y,Y,Y,Y,Z,Z,Z,Z,Z,Z,Z,Z,Z,Z,Z,Z,Z,Z,Z] rfl rfl hHeld ?_
    refine Last.tk 6 198 #[Y,Y,Y,Y,Y,Y,Y,Z,Z,Z,Z,Z,Z,Z,Z,Z,Z,Z,Z,Z,Z] rfl rfl hHeld ?_
    refine Last.tk 7 199 #[Y,Y,Y,Y,Y,Y,Y,Y,Z,Z,Z,Z,Z,Z,Z,Z,Z,Z,Z,Z,Z] rfl rfl hHeld ?_
    refine Last.tk 8 200 #[Y,Y,Y,Y,Y,Y,Y,Y,Y,Z,Z,Z,Z,Z,Z,Z,Z,Z,Z,Z,Z] rfl rfl hHeld ?_
    refine Last.tk 9 201 #[Y,Y,Y,Y,Y,Y,Y,Y,Y,Y,Z,Z,Z,Z,Z,Z,Z,Z,Z,Z,Z] rfl rfl hHeld ?_
    refine Last.tk 10 202 #[Y,Y,Y,Y,Y,Y,Y,Y,Y,Y,Y,Z,Z,Z,Z,Z,Z,Z,Z,Z,Z] rfl rfl hHeld ?_
    refine Last.tk 11 203 #[Y,Y,Y,Y,Y,Y,Y,Y,Y,Y,Y,Y,Z,Z,Z,Z,Z,Z,Z,Z,Z] rfl rfl hHeld ?_
    refine Last.tk 12 204 #[Y,Y,Y,Y,Y,Y,Y,Y,Y,Y,Y,Y,Y,Z,Z,Z,Z,Z,Z,Z,Z] rfl rfl hHeld ?_
    refine Last.tk 13 205 #[Y,Y,Y,Y,Y,Y,Y,Y,Y,Y,Y,Y,Y,Y,Z,Z,Z,Z,Z,Z,Z] rfl rfl hHeld ?_
    refine Last.tk 14 206 #[Y,Y,Y,Y,Y,Y,Y,Y,Y,Y,Y,Y,Y,Y,Y,Z,Z,Z,Z,Z,Z] rfl rfl hHeld ?_
    refine Last.tk 15 207 #[Y,Y,Y,Y,Y,Y,Y,Y,Y,Y,Y,Y,Y,Y,Y,Y,Z,Z,Z,Z,Z] rfl rfl hHeld ?_
    refine Last.tk 16 208 #[Y,Y,Y,Y,Y,Y,Y,Y,Y,Y,Y,Y,Y,Y,Y,Y,Y,Z,Z,Z,Z] rfl rfl hHeld ?_
    refine Last.tk 17 209 #[Y,Y,Y,Y,Y,Y,Y,Y,Y,Y,Y,Y,Y,Y,Y,Y,Y,Y,Z,Z,Z] rfl rfl hHeld ?_
    refine Last.tk 18 210 #[Y,Y,Y,Y,Y,Y,Y,Y,Y,Y,Y,Y,Y,Y,Y,Y,Y,Y,Y,Z,Z] rfl rfl hHeld ?_
    refine Last.tk 19 211 #[Y,Y,Y,Y,Y,Y,Y,Y,Y,Y,Y,Y,Y,Y,Y,Y,Y,Y,Y,Y,Z] rfl rfl hHeld ?_
    refine Last.last_ (i := 20) (N := none) #[Y,Y,Y,Y,Y,Y,Y,Y,Y,Y,Y,Y,Y,Y,Y,Y,Y,Y,Y,Y,Y] rfl rfl (by kernel_rfl) (by decide) (fun K hK => ?_)
    go_simp
    refine hK.out _ _ ?_
    clear hK K
    try simp only [Act.put, setIfInBounds_toArray, set_cons_zero, set_cons_succ]
    refine Last.done_ (by kernel_rfl) ?_
    have K7 := HC28.out.drew
    generalize (w26.setCell ⟨kn.hdr, 0, none⟩ (.slice (some ⟨kb, ko, none⟩) ln kn.cap)).drew = w28 at K7 ⊢
    clear HC28 x283 x28h f2 hlt hcc hcd hcp hw1 hb5 hb6 hb7
    have hsh : (List.take ln (List.set (List.take (j + 1) kn.kids ++ (List.drop (j + 2) kn.kids) ++ List.drop (j + 1 + List.length (List.drop (j + 2) kn.kids)) kn.kids) (ln) (none))) = (List.take (j + 1) kn.kids ++ List.drop (j + 2) kn.kids) := cut_shift (j := j + 1) (z := (none : Option Nat)) (by rw [HLk.out]; omega) (by omega)
    have HLs28 : Hid (List.length (List.take (j + 1) kn.kids ++ List.drop (j + 2) kn.kids) = ln) := hidp (by rw [← hsh]; exact HL28.out)
    rw [hsh] at K7
    have HK29 : Hid (KS E S wc s [(n, ⟨rn.iso, rn.count, (List.take j rn.items ++ List.drop (j + 1) rn.items), (some (nb, no)), rn.icap, some ⟨kn.hdr, (some (kb, ko)), kn.cap, (List.take (j + 1) kn.kids ++ List.drop (j + 2) kn.kids)⟩⟩), (l, ⟨rl.iso, (rl.count + (rq.count + 1)), ((rl.items ++ [md]) ++ rq.items), ib14, gc14, rl.kids⟩), (q, rq)] w28) := hidp K7
    clear K7 hsh
    go_wp2
    go_end0
    exact ⟨rfl, _, _, HK29.out⟩
end Go.Proofs.Ytbjhnefienjncaa.Bt.IU
