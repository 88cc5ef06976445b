/- Maps of numbers (sets): a leaf gives an item to the left. -/
import Derived.Test.YtbjhnefienjncaaBtIUr
namespace Go.Proofs.Ytbjhnefienjncaa.Bt.IU
set_option linter.unusedVariables false
set_option linter.unusedSimpArgs false
open Go Go.RowKit Go.Proofs.Ytbjhnefienjncaa.Bt
open Go.Proofs.Ytbjhnefienjncaa.Bt.Last (Y Z)
open _root_.List (setIfInBounds_toArray set_cons_zero set_cons_succ)

variable {S : Nat → Prop} {w : World} {s : Sto It}

set_option maxHeartbeats 40000000 in
set_option maxRecDepth 100000 in
/-- A leaf gives its first item to the left. -/
theorem reb_left_leaf (R : RepS E S w s) {n l q j ln lk ll lq : Nat} {rn rl rq : NodeR It} {kn : KidR} {nb no kb ko : Nat} {md : It} {i mx : Nat} {xb xo : Nat} {y : It} (H : Pair w s n l q j ln lk ll lq rn rl rq kn nb no kb ko md i mx) (hge : mx ≤ ll + lq) (hgt : ll ≤ lq) (hq0 : 0 < lq) (h1 : rl.kids = none) (h2 : rq.kids = none) (h0 : rq.ib = some (xb, xo)) (hy : rq.items[0]? = some y) :
    Calls Try.prog 138 #[.pointer (some ⟨s.m, 0, none⟩), .pointer (some ⟨n, 0, none⟩), .int .i64 i] w (fun e w' => e = .returned (.tuple #[]) ∧ ∃ ib2 ic2, KS E S w s [(n, ⟨rn.iso, rn.count, List.set rn.items j y, some (nb, no), rn.icap, some ⟨kn.hdr, some (kb, ko), kn.cap, kn.kids⟩⟩), (l, ⟨rl.iso, rl.count + 1, rl.items ++ [md], ib2, ic2, rl.kids⟩), (q, ⟨rq.iso, rq.count - 1, List.drop 1 rq.items, some (xb, xo), rq.icap, rq.kids⟩)] w') := by
  have HH := hidp H
  have hj : j < ln := by rw [← H.len]; exact (List.getElem?_eq_some_iff.1 H.hmd).1
  obtain ⟨hnlt, _, _, n2, n3⟩ := ncell R H.hn
  obtain ⟨ba, n2'⟩ : ∃ ba, w.cell? ⟨n, 2, none⟩ = some (.slice ba ln rn.icap) := ⟨_, by rw [n2, H.len]; rfl⟩
  have n3' : w.cell? ⟨n, 3, none⟩ = some (.pointer (some ⟨kn.hdr, 0, none⟩)) := by rw [n3, H.hk]; rfl
  have kh : w.cell? ⟨kn.hdr, 0, none⟩ = some (.slice (some ⟨kb, ko, none⟩) lk kn.cap) := by
    have h := (R.hdr H.hn H.hk).cell 0 rfl
    rw [H.kib, H.kl] at h; exact h
  have k0 : w.cell? ⟨kb, ko + j, none⟩ = some (pv (some l)) := M_cell (R.kid H.hn H.hk H.kib H.kj)
  have k1 : w.cell? ⟨kb, ko + (j + 1), none⟩ = some (pv (some q)) := M_cell (R.kid H.hn H.hk H.kib H.kj1)
  have HI := hidp H.hi
  have hb1 := H.bn
  have hb2 := H.bl
  have hb3 := H.bq
  have hb4 := H.bm
  have hk1 := H.lk1
  have hk2 := H.lk2
  have hc1 := H.cl
  have hc2 := H.cq
  have jlt : (j : Int) < (lk : Int) := by omega
  have jlt2 : (j : Int) + 1 < (lk : Int) := by omega
  have jlt3 : (j : Int) < (ln : Int) := by omega
  obtain ⟨p, hp⟩ : ∃ p, ln = p + 1 := ⟨ln - 1, by omega⟩
  have HP := hidp hp
  have hp1 : p + 1 ≤ ln := by omega
  have hp2 : ln ≤ p + 1 := by omega
  have HR := hidp R
  have ern := node_eq H.nib H.hk H.kib
  have erq := node_eq3 h0
  have HS0 : Hid (KS E S w s [(n, ⟨rn.iso, rn.count, rn.items, some (nb, no), rn.icap, some ⟨kn.hdr, some (kb, ko), kn.cap, kn.kids⟩⟩), (l, rl), (q, ⟨rq.iso, rq.count, rq.items, some (xb, xo), rq.icap, rq.kids⟩)] w) := hidp (KS.start R (fun a r h => by
    simp only [List.mem_cons, List.not_mem_nil, or_false, Prod.mk.injEq] at h
    rcases h with ⟨rfl, rfl⟩ | ⟨rfl, rfl⟩ | ⟨rfl, rfl⟩
    · rw [← ern]; exact HH.out.hn
    · exact HH.out.hl
    · rw [← erq]; exact HH.out.hq) (by simpa using H.nd))
  have HMD := hidp H.hmd
  have HLn := hidp H.len
  have HLl := hidp H.lel
  have HLq := hidp H.leq
  have HLk := hidp H.kl
  have HMX := hidp H.hmx
  obtain ⟨i0, hi0, hz0, hz1, hz2⟩ := info_parts infoP
  obtain ⟨j0, hj0, hy0, hy1, hy2⟩ := info_parts infoK
  have HI0 := hidp hi0
  have HZ0 := hidp hz0
  have HZ1 := hidp hz1
  have HZ2 := hidp hz2
  have HJ0 := hidp hj0
  have HY0 := hidp hy0
  have HY1 := hidp hy1
  have HY2 := hidp hy2
  have H1 := hidp h1
  clear h1 h2
  obtain ⟨pq, hpq⟩ : ∃ p, lq = p + 1 := ⟨lq - 1, by omega⟩
  have HPQ := hidp hpq
  have HY := hidp hy
  have hpq1 : pq + 1 ≤ lq := by omega
  have hpq2 : lq ≤ pq + 1 := by omega
  clear hpq hy h0 erq
  clear H R n2 n3 hp ern hi0 hz0 hz1 hz2 hj0 hy0 hy1 hy2
  go_enter Try.func138, Try.ntmps138
  go_upto_if 14 with (fail)
  go_cut [2] from 14 to 16 (fun u wx => u = .int .i64 j ∧ wx = w)
  case first =>
    rcases HI.out with ⟨hi1, hi⟩ | ⟨hi1, hi⟩
    · have hi' : ((i : Int) == (ln : Int)) = false := beq_eq_false_iff_ne.2 (by omega)
      have hi2 : (i : Int) = (j : Int) := by omega
      have HI2 := hidp hi2
      clear hi1 hi hi2
      go_wp2
      go_meet
      exact ⟨by rw [HI2.out], rfl⟩
    · have hi' : ((i : Int) == (ln : Int)) = true := beq_iff_eq.2 (by omega)
      have hi2 : (i : Int) - 1 = (j : Int) := by omega
      have HI2 := hidp hi2
      have hi3 : 1 ≤ (i : Int) := by omega
      have hi4 : (i : Int) ≤ 100000 := by omega
      clear hi1 hi hi2
      go_wp2
      go_meet
      exact ⟨by first | rw [HI2.out] | rw [HI2.out, IntWalk.wrap64_in _ ⟨by omega, by omega⟩], rfl⟩
  case rest =>
    obtain ⟨rfl, rfl⟩ := hcut
    clear HI
    go_wp2_with fail
    refine (isoLoad_own HR.out (A := ⟨kb, ko + j, none⟩) k0 HH.out.hl HH.out.isol true).mono ?_
    rintro e w' ⟨rfl, a1, rfl⟩
    go_wp2_with fail
    refine (isoLoad_own (HR.out.drewN a1) (A := ⟨kb, ko + (j + 1), none⟩) k1 HH.out.hq HH.out.isoq true).mono ?_
    rintro e w' ⟨rfl, a2, rfl⟩
    have K1 := (HS0.out.drewN a1).drewN a2
    generalize (wc.drewN a1).drewN a2 = w1 at K1 ⊢
    have HK1 := hidp K1
    clear K1 n2' n3' kh k0 k1 jlt2 HS0 HR
    obtain ⟨l2A, l2⟩ : ∃ A, w1.cell? ⟨l, 2, none⟩ = some (.slice A (ll) rl.icap) := by
      have h : w1.cell? ⟨l, 2, none⟩ = some (sv rl.ib (List.length rl.items) rl.icap) := HK1.out.n1.cell.2.2.2.1
      rw [HLl.out] at h; exact ⟨_, h⟩
    obtain ⟨q2A, q2⟩ : ∃ A, w1.cell? ⟨q, 2, none⟩ = some (.slice A (lq) rq.icap) := by
      have h : w1.cell? ⟨q, 2, none⟩ = some (sv (some (xb, xo)) (List.length rq.items) rq.icap) := HK1.out.n2.cell.2.2.2.1
      rw [HLq.out] at h; exact ⟨_, h⟩
    have m7 : w1.cell? ⟨s.m, 6, none⟩ = some (.int .i64 mx) := by have h := HK1.out.map.1.cell 6 (v := .int .i64 s.mp.mx) rfl; rw [HMX.out] at h; exact h
    have hsm : IntKind.i64.wrap ((ll : Int) + (lq : Int)) = (ll : Int) + (lq : Int) := by rw [Last.i64_w]; exact IntWalk.wrap64_in _ ⟨by omega, by omega⟩
    have hmm : s.m < w1.heap.size := HK1.out.map.1.1
    have hlm : ¬ (ll : Int) + (lq : Int) < (mx : Int) := by omega
    go_wp2_with fail
    go_quiet (fail)
    have K2 := HK1.out.drewN nq
    generalize w1.drewN nq = w2 at K2 ⊢
    clear l2 q2 m7 hsm HK1
    have HK11 : Hid (KS E S wc s [(n, ⟨rn.iso, rn.count, rn.items, (some (nb, no)), rn.icap, some ⟨kn.hdr, (some (kb, ko)), kn.cap, kn.kids⟩⟩), (l, rl), (q, ⟨rq.iso, rq.count, rq.items, (some (xb, xo)), rq.icap, rq.kids⟩)] w2) := hidp K2
    clear K2
    obtain ⟨l3A, l3⟩ : ∃ A, w2.cell? ⟨l, 2, none⟩ = some (.slice A (ll) rl.icap) := by
      have h : w2.cell? ⟨l, 2, none⟩ = some (sv rl.ib (List.length rl.items) rl.icap) := HK11.out.n1.cell.2.2.2.1
      rw [HLl.out] at h; exact ⟨_, h⟩
    obtain ⟨q3A, q3⟩ : ∃ A, w2.cell? ⟨q, 2, none⟩ = some (.slice A (lq) rq.icap) := by
      have h : w2.cell? ⟨q, 2, none⟩ = some (sv (some (xb, xo)) (List.length rq.items) rq.icap) := HK11.out.n2.cell.2.2.2.1
      rw [HLq.out] at h; exact ⟨_, h⟩
    have hgt : ¬ (lq : Int) < (ll : Int) := by omega
    go_wp2_with fail
    go_quiet (fail)
    have K3 := HK11.out.drewN nq
    generalize w2.drewN nq = w3 at K3 ⊢
    clear l3 q3 hgt HK11
    have HK12 : Hid (KS E S wc s [(n, ⟨rn.iso, rn.count, rn.items, (some (nb, no)), rn.icap, some ⟨kn.hdr, (some (kb, ko)), kn.cap, kn.kids⟩⟩), (l, rl), (q, ⟨rq.iso, rq.count, rq.items, (some (xb, xo)), rq.icap, rq.kids⟩)] w3) := hidp K3
    clear K3
    have x13_2 : w3.cell? ⟨l, 2, none⟩ = some (sv rl.ib (ll) rl.icap) := by
      have h : w3.cell? ⟨l, 2, none⟩ = some (sv rl.ib (List.length rl.items) rl.icap) := HK12.out.n1.cell.2.2.2.1
      rw [HLl.out] at h; exact h
    have x13_3 : w3.cell? ⟨n, 2, none⟩ = some (.slice (some ⟨nb, no, none⟩) (ln) rn.icap) := by
      have h : w3.cell? ⟨n, 2, none⟩ = some (sv (some (nb, no)) (List.length rn.items) rn.icap) := HK12.out.n0.cell.2.2.2.1
      rw [HLn.out] at h; exact h
    have x13_4 : w3.cell? ⟨nb, no + j, none⟩ = some (Value.int .i64 md.1) := M_cell (kitem HK12.out.n0 (b := nb) (o := no) rfl (i := j) HMD.out).1
    have x13_5 : w3.cell? ⟨nb, no + j, none⟩ = some (Value.int .i64 md.1) := M_cell (kitem HK12.out.n0 (b := nb) (o := no) rfl (i := j) HMD.out).2
    have HW13 := hidp HK12.out.n1.wf
    go_wp2_with fail
    refine Last.start_ (S := fun w' => w'.cell? ⟨l, 2, none⟩ = some (sv rl.ib (ll) rl.icap) ∧ w'.cell? ⟨n, 2, none⟩ = some (.slice (some ⟨nb, no, none⟩) (ln) rn.icap) ∧ w'.cell? ⟨nb, no + j, none⟩ = some (Value.int .i64 md.1)) (ds := [16]) #[Z,Z,Z,Z,Z,Z,Z,Z,Z,Z,Z,Z,Z,Z,Z,Z,Z] (by rfl) (by rfl) (by rfl) ?_ (fun hHeld => ?_)
    · go_keep
    refine Last.tk 0 443 #[Y,Z,Z,Z,Z,Z,Z,Z,Z,Z,Z,Z,Z,Z,Z,Z,Z] rfl rfl hHeld ?_
    refine Last.tk 1 444 #[Y,Y,Z,Z,Z,Z,Z,Z,Z,Z,Z,Z,Z,Z,Z,Z,Z] rfl rfl hHeld ?_
    refine Last.tk 2 445 #[Y,Y,Y,Z,Z,Z,Z,Z,Z,Z,Z,Z,Z,Z,Z,Z,Z] rfl rfl hHeld ?_
    refine Last.tk 3 446 #[Y,Y,Y,Y,Z,Z,Z,Z,Z,Z,Z,Z,Z,Z,Z,Z,Z] rfl rfl hHeld ?_
    refine Last.tk 4 447 #[Y,Y,Y,Y,Y,Z,Z,Z,Z,Z,Z,Z,Z,Z,Z,Z,Z] rfl rfl hHeld ?_
    refine Last.tk 5 448 #[Y,Y,Y,Y,Y,Y,Z,Z,Z,Z,Z,Z,Z,Z,Z,Z,Z] rfl rfl hHeld ?_
    refine Last.tk 6 449 #[Y,Y,Y,Y,Y,Y,Y,Z,Z,Z,Z,Z,Z,Z,Z,Z,Z] rfl rfl hHeld ?_
    refine Last.tk 7 450 #[Y,Y,Y,Y,Y,Y,Y,Y,Z,Z,Z,Z,Z,Z,Z,Z,Z] rfl rfl hHeld ?_
    refine Last.tk 8 451 #[Y,Y,Y,Y,Y,Y,Y,Y,Y,Z,Z,Z,Z,Z,Z,Z,Z] rfl rfl hHeld ?_
    refine Last.tk 9 452 #[Y,Y,Y,Y,Y,Y,Y,Y,Y,Y,Z,Z,Z,Z,Z,Z,Z] rfl rfl hHeld ?_
    refine Last.tk 10 453 #[Y,Y,Y,Y,Y,Y,Y,Y,Y,Y,Y,Z,Z,Z,Z,Z,Z] rfl rfl hHeld ?_
    refine Last.tk 11 454 #[Y,Y,Y,Y,Y,Y,Y,Y,Y,Y,Y,Y,Z,Z,Z,Z,Z] rfl rfl hHeld ?_
    refine Last.one_ (i := 12) (N := some 455) #[Y,Y,Y,Y,Y,Y,Y,Y,Y,Y,Y,Y,Y,Z,Z,Z,Z] rfl rfl (by kernel_rfl) (by decide) (fun K hK => ?_)
    go_simp
    refine hK.out _ _ ?_ (fun hHeld => ?_)
    · (try dsimp only); go_keep
    clear hK K
    try simp only [Act.put, setIfInBounds_toArray, set_cons_zero, set_cons_succ]
    refine Last.one_ (i := 13) (N := some 456) #[Y,Y,Y,Y,Y,Y,Y,Y,Y,Y,Y,Y,Y,Y,Z,Z,Z] rfl rfl (by kernel_rfl) (by decide) (fun K hK => ?_)
    refine step_app (by rfl) _ _ _ (by rfl) 120 i0 _ 1 8 Try.underlying181 HI0.out HZ0.out HZ1.out HZ2.out rfl (by decide) rl.ib (ll) rl.icap (itemCells E rl.items) (by rfl) (fun h => ⟨by have e := (HW13.out.1 h).1; have e2 := congrArg List.length e; exact HLl.out.symm.trans e2, (HW13.out.1 h).2⟩) (by rw [itemCells_length, HLl.out]; rfl)
      (fun b o hb => (show KS E S wc s ([(n, ⟨rn.iso, rn.count, rn.items, (some (nb, no)), rn.icap, some ⟨kn.hdr, (some (kb, ko)), kn.cap, kn.kids⟩⟩)] ++ (l, rl) :: [(q, ⟨rq.iso, rq.count, rq.items, (some (xb, xo)), rq.icap, rq.kids⟩)]) _ from (HK12.out.drew.alloc (.cells #[Value.int .i64 md.1] 120))).items hb) ⟨w3.heap.size, 0, none⟩ 1 1 [Value.int .i64 md.1] (by rfl) (by decide) (by rfl) (fun j u hj => by rw [Addr.add_lit, Nat.zero_add]; exact (Bx.new (w3.drew) [Value.int .i64 md.1] 120).cell j hj) (by simp [Value.oneCell']) (by unfold maxLen; omega) (by omega) ?_
    intro v' w13a happ
    obtain ⟨gb13, gq13, gc13, rfl⟩ := happ.form
    have K4 : KS E S wc s [(n, ⟨rn.iso, rn.count, rn.items, (some (nb, no)), rn.icap, some ⟨kn.hdr, (some (kb, ko)), kn.cap, kn.kids⟩⟩), (l, rl), (q, ⟨rq.iso, rq.count, rq.items, (some (xb, xo)), rq.icap, rq.kids⟩)] w13a := (show KS E S wc s ([(n, ⟨rn.iso, rn.count, rn.items, (some (nb, no)), rn.icap, some ⟨kn.hdr, (some (kb, ko)), kn.cap, kn.kids⟩⟩)] ++ (l, rl) :: [(q, ⟨rq.iso, rq.count, rq.items, (some (xb, xo)), rq.icap, rq.kids⟩)]) _ from (HK12.out.drew.alloc (.cells #[Value.int .i64 md.1] 120))).app_keep (m := 1) HLl.out (by rfl) (.inr ⟨by decide, happ⟩)
    have y13_2 : w13a.cell? ⟨l, 2, none⟩ = some (sv rl.ib (ll) rl.icap) := by
      have h : w13a.cell? ⟨l, 2, none⟩ = some (sv rl.ib (List.length rl.items) rl.icap) := K4.n1.cell.2.2.2.1
      rw [HLl.out] at h; exact h
    have y13_3 : w13a.cell? ⟨n, 2, none⟩ = some (.slice (some ⟨nb, no, none⟩) (ln) rn.icap) := by
      have h : w13a.cell? ⟨n, 2, none⟩ = some (sv (some (nb, no)) (List.length rn.items) rn.icap) := K4.n0.cell.2.2.2.1
      rw [HLn.out] at h; exact h
    have y13_4 : w13a.cell? ⟨nb, no + j, none⟩ = some (Value.int .i64 md.1) := M_cell (kitem K4.n0 (b := nb) (o := no) rfl (i := j) HMD.out).1
    have y13_5 : w13a.cell? ⟨nb, no + j, none⟩ = some (Value.int .i64 md.1) := M_cell (kitem K4.n0 (b := nb) (o := no) rfl (i := j) HMD.out).2
    have f2 := M_froz K4.n1.mem.2
    have HA4 := hidp (And.intro happ K4)
    clear happ K4
    refine hK.out _ _ ?_ (fun hHeld => ?_)
    · (try dsimp only); go_keep
    clear hK K
    try simp only [Act.put, setIfInBounds_toArray, set_cons_zero, set_cons_succ]
    refine Last.tk 14 457 #[Y,Y,Y,Y,Y,Y,Y,Y,Y,Y,Y,Y,Y,Y,Y,Z,Z] rfl rfl hHeld ?_
    refine Last.tk 15 458 #[Y,Y,Y,Y,Y,Y,Y,Y,Y,Y,Y,Y,Y,Y,Y,Y,Z] rfl rfl hHeld ?_
    refine Last.last_ (i := 16) (N := none) #[Y,Y,Y,Y,Y,Y,Y,Y,Y,Y,Y,Y,Y,Y,Y,Y,Y] rfl rfl (by kernel_rfl) (by decide) (fun K hK => ?_)
    go_simp
    refine hK.out _ _ ?_
    clear hK K
    try simp only [Act.put, setIfInBounds_toArray, set_cons_zero, set_cons_succ]
    refine Last.done_ (by kernel_rfl) ?_
    obtain ⟨happ, K4⟩ := HA4.out
    obtain ⟨ib', cap', hv5, K5⟩ := (show KS E S wc s ([(n, ⟨rn.iso, rn.count, rn.items, (some (nb, no)), rn.icap, some ⟨kn.hdr, (some (kb, ko)), kn.cap, kn.kids⟩⟩)] ++ (l, rl) :: [(q, ⟨rq.iso, rq.count, rq.items, (some (xb, xo)), rq.icap, rq.kids⟩)]) _ from (HK12.out.drew.alloc (.cells #[Value.int .i64 md.1] 120))).app_items [md] HLl.out rfl (.inr ⟨Nat.one_pos, happ⟩) (Upd.one w13a (b := l) (o := 2) _ (by rw [K4.n1.mem.2]; rfl))
    obtain ⟨rfl, rfl⟩ : ib' = some (gb13, gq13) ∧ gc13 = cap' := sv_inj hv5
    clear happ hv5 K4 HA4 HW13 y13_2 y13_3 y13_4 y13_5 f2 x13_2 x13_3 x13_4 x13_5
    have HL13 : Hid (List.length (rl.items ++ [md]) = ll + 1) := hidp (by rw [List.length_append, HLl.out]; rfl)
    generalize w13a.setCell ⟨l, 2, none⟩ (.slice (some ⟨gb13, gq13, none⟩) (ll + 1) gc13) = w13 at K5 ⊢
    have HK14 : Hid (KS E S wc s [(n, ⟨rn.iso, rn.count, rn.items, (some (nb, no)), rn.icap, some ⟨kn.hdr, (some (kb, ko)), kn.cap, kn.kids⟩⟩), (l, ⟨rl.iso, rl.count, (rl.items ++ [md]), (some (gb13, gq13)), gc13, rl.kids⟩), (q, ⟨rq.iso, rq.count, rq.items, (some (xb, xo)), rq.icap, rq.kids⟩)] w13) := hidp K5
    clear K5 HK12
    have x15_1 : w13.cell? ⟨l, 1, none⟩ = some (.int .i64 rl.count) := HK14.out.n1.cell.2.2.1
    have f1 := M_froz HK14.out.n1.mem.1
    have hlt : l < w13.heap.size := HK14.out.n1.cell.1
    have K6 := HK14.out.n1.count (rl.count + 1) (Upd.one w13 (b := l) (o := 1) (.int .i64 (rl.count + 1)) (by rw [HK14.out.n1.mem.1]; rfl))
    have HC15 : Hid (KS E S wc s [(n, ⟨rn.iso, rn.count, rn.items, (some (nb, no)), rn.icap, some ⟨kn.hdr, (some (kb, ko)), kn.cap, kn.kids⟩⟩), (l, ⟨rl.iso, (rl.count + 1), (rl.items ++ [md]), (some (gb13, gq13)), gc13, rl.kids⟩), (q, ⟨rq.iso, rq.count, rq.items, (some (xb, xo)), rq.icap, rq.kids⟩)] (w13.setCell ⟨l, 1, none⟩ (.int .i64 (rl.count + 1)))) := hidp K6
    clear K6 HK14
    go_wp2_with fail
    have K7 := HC15.out
    generalize (w13.setCell ⟨l, 1, none⟩ (.int .i64 (rl.count + 1))) = w15 at K7 ⊢
    clear HC15 x15_1 f1 hlt
    have HK16 : Hid (KS E S wc s [(n, ⟨rn.iso, rn.count, rn.items, (some (nb, no)), rn.icap, some ⟨kn.hdr, (some (kb, ko)), kn.cap, kn.kids⟩⟩), (l, ⟨rl.iso, (rl.count + 1), (rl.items ++ [md]), (some (gb13, gq13)), gc13, rl.kids⟩), (q, ⟨rq.iso, rq.count, rq.items, (some (xb, xo)), rq.icap, rq.kids⟩)] w15) := hidp K7
    clear K7
    have x17_2 : w15.cell? ⟨n, 2, none⟩ = some (.slice (some ⟨nb, no, none⟩) (ln) rn.icap) := by
      have h : w15.cell? ⟨n, 2, none⟩ = some (sv (some (nb, no)) (List.length rn.items) rn.icap) := HK16.out.n0.cell.2.2.2.1
      rw [HLn.out] at h; exact h
    have x17_3 : w15.cell? ⟨q, 2, none⟩ = some (.slice (some ⟨xb, xo, none⟩) (lq) rq.icap) := by
      have h : w15.cell? ⟨q, 2, none⟩ = some (sv (some (xb, xo)) (List.length rq.items) rq.icap) := HK16.out.n2.cell.2.2.2.1
      rw [HLq.out] at h; exact h
    have x17_4 : w15.cell? ⟨xb, xo, none⟩ = some (Value.int .i64 y.1) := M_cell (kitem HK16.out.n2 (b := xb) (o := xo) rfl (i := 0) HY.out).1
    have x17_5 : w15.cell? ⟨xb, xo, none⟩ = some (Value.int .i64 y.1) := M_cell (kitem HK16.out.n2 (b := xb) (o := xo) rfl (i := 0) HY.out).2
    have hb1 : (0 : Int) < (lq : Int) := by omega
    have hcap17 : ln ≤ rn.icap := by have h := HK16.out.n0.wf.2.2.1; rw [HLn.out] at h; exact h
    have ci := (HK16.out.n0.items (b := nb) (o := no) rfl).some (j) (by show j < rn.icap * E.sz; have h2 : E.sz = 1 := rfl; rw [h2]; omega)
    have ci2 := (HK16.out.n0.items (b := nb) (o := no) rfl).some (j) (by show j < rn.icap * E.sz; have h2 : E.sz = 1 := rfl; rw [h2]; omega)
    obtain ⟨z1, hz1'⟩ := Option.isSome_iff_exists.1 ci
    obtain ⟨z2, hz2'⟩ := Option.isSome_iff_exists.1 ci2
    have e1 : w15.cell? ⟨nb, no + j, none⟩ = some z1 := M_cell hz1'
    have e2 : w15.cell? ⟨nb, no + j, none⟩ = some z2 := M_cell hz2'
    have f1 : w15.frozen? ⟨nb, no + j, none⟩ = false := M_froz hz1'
    have f2 : w15.frozen? ⟨nb, no + j, none⟩ = false := M_froz hz2'
    have hu := Upd.one w15 (b := nb) (o := no + j) (Value.int .i64 y.1) (by exact ci2)
    have K6 := HK16.out.n0.set_item (b := nb) (o := no) rfl (i := j) y (by show _ < List.length rn.items; rw [HLn.out]; omega) (by show _ = _ + _ * 1; rw [Nat.mul_one]) hu
    have HL17 : Hid (List.length (List.set rn.items j y) = ln) := hidp (by rw [List.length_set]; exact HLn.out)
    have hblt : nb < w15.heap.size := HK16.out.n0.blt (b := nb) (o := no) rfl
    have HC17 : Hid (KS E S wc s [(n, ⟨rn.iso, rn.count, (List.set rn.items j y), (some (nb, no)), rn.icap, some ⟨kn.hdr, (some (kb, ko)), kn.cap, kn.kids⟩⟩), (l, ⟨rl.iso, (rl.count + 1), (rl.items ++ [md]), (some (gb13, gq13)), gc13, rl.kids⟩), (q, ⟨rq.iso, rq.count, rq.items, (some (xb, xo)), rq.icap, rq.kids⟩)] (w15.setCell ⟨nb, no + j, none⟩ (Value.int .i64 y.1))) := hidp K6
    clear ci ci2 hz1' hz2' hu K6 HK16 
    go_wp2_with fail
    refine Last.start_ (S := fun w' => w'.cell? ⟨n, 2, none⟩ = some (.slice (some ⟨nb, no, none⟩) (ln) rn.icap) ∧ w'.cell? ⟨q, 2, none⟩ = some (.slice (some ⟨xb, xo, none⟩) (lq) rq.icap) ∧ w'.cell? ⟨xb, xo, none⟩ = some (Value.int .i64 y.1)) (ds := [12]) #[Z,Z,Z,Z,Z,Z,Z,Z,Z,Z,Z,Z,Z] (by rfl) (by rfl) (by rfl) ?_ (fun hHeld => ?_)
    · go_keep
    refine Last.tk 0 466 #[Y,Z,Z,Z,Z,Z,Z,Z,Z,Z,Z,Z,Z] rfl rfl hHeld ?_
    refine Last.tk 1 467 #[Y,Y,Z,Z,Z,Z,Z,Z,Z,Z,Z,Z,Z] rfl rfl hHeld ?_
    refine Last.tk 2 468 #[Y,Y,Y,Z,Z,Z,Z,Z,Z,Z,Z,Z,Z] rfl rfl hHeld ?_
    refine Last.tk 3 469 #[Y,Y,Y,Y,Z,Z,Z,Z,Z,Z,Z,Z,Z] rfl rfl hHeld ?_
    refine Last.tk 4 470 #[Y,Y,Y,Y,Y,Z,Z,Z,Z,Z,Z,Z,Z] rfl rfl hHeld ?_
    refine Last.tk 5 471 #[Y,Y,Y,Y,Y,Y,Z,Z,Z,Z,Z,Z,Z] rfl rfl hHeld ?_
    refine Last.tk 6 472 #[Y,Y,Y,Y,Y,Y,Y,Z,Z,Z,Z,Z,Z] rfl rfl hHeld ?_
    refine Last.tk 7 473 #[Y,Y,Y,Y,Y,Y,Y,Y,Z,Z,Z,Z,Z] rfl rfl hHeld ?_
    refine Last.tk 8 474 #[Y,Y,Y,Y,Y,Y,Y,Y,Y,Z,Z,Z,Z] rfl rfl hHeld ?_
    refine Last.tk 9 475 #[Y,Y,Y,Y,Y,Y,Y,Y,Y,Y,Z,Z,Z] rfl rfl hHeld ?_
    refine Last.tk 10 476 #[Y,Y,Y,Y,Y,Y,Y,Y,Y,Y,Y,Z,Z] rfl rfl hHeld ?_
    refine Last.tk 11 477 #[Y,Y,Y,Y,Y,Y,Y,Y,Y,Y,Y,Y,Z] rfl rfl hHeld ?_
    refine Last.last_ (i := 12) (N := none) #[Y,Y,Y,Y,Y,Y,Y,Y,Y,Y,Y,Y,Y] rfl rfl (by kernel_rfl) (by decide) (fun K hK => ?_)
    go_simp
    refine hK.out _ _ ?_
    clear hK K
    try simp only [Act.put, setIfInBounds_toArray, set_cons_zero, set_cons_succ]
    refine Last.done_ (by kernel_rfl) ?_
    have K7 := HC17.out.drew
    generalize (w15.setCell ⟨nb, no + j, none⟩ (Value.int .i64 y.1)).drew = w17 at K7 ⊢
    clear HC17 x17_2 x17_3 x17_4 x17_5 e1 e2 f1 f2 hblt 
    have HK18 : Hid (KS E S wc s [(n, ⟨rn.iso, rn.count, (List.set rn.items j y), (some (nb, no)), rn.icap, some ⟨kn.hdr, (some (kb, ko)), kn.cap, kn.kids⟩⟩), (l, ⟨rl.iso, (rl.count + 1), (rl.items ++ [md]), (some (gb13, gq13)), gc13, rl.kids⟩), (q, ⟨rq.iso, rq.count, rq.items, (some (xb, xo)), rq.icap, rq.kids⟩)] w17) := hidp K7
    clear K7
    clear hb1
    have x19_2 : w17.cell? ⟨q, 2, none⟩ = some (.slice (some ⟨xb, xo, none⟩) (lq) rq.icap) := by
      have h : w17.cell? ⟨q, 2, none⟩ = some (sv (some (xb, xo)) (List.length rq.items) rq.icap) := HK18.out.n2.cell.2.2.2.1
      rw [HLq.out] at h; exact h
    have hcap19 : lq ≤ rq.icap := by have h := HK18.out.n2.wf.2.2.1; rw [HLq.out] at h; exact h
    have hb1 : (1 : Int) ≤ ((lq : Nat) : Int) := by omega
    go_wp2_with fail
    go_region_held3 (fun w' => w'.cell? ⟨q, 2, none⟩ = some (.slice (some ⟨xb, xo, none⟩) (lq) rq.icap)) (go_keep)
      ((refine step_copy (by rfl) _ _ _ _ (by rfl) 120 i0 1 Try.underlying181 HI0.out HZ1.out xb xo (lq) rq.icap ?hd xb (xo + 1) (lq - 1) (rq.icap - 1) ?hx (itemCells E (List.drop (0 + 1) rq.items)) ?hn (fun j' v hj => ?hs) ?hc (itemCells_one _) ?_
        case hd => (simp [Act.eval]; try omega)
        case hx => (simp [Act.eval]; try omega)
        case hn =>
          have e : Nat.min (lq - 1) (lq) = lq - 1 := Nat.min_eq_left (by omega)
          rw [itemCells_length, List.length_drop, HLq.out, e]; rfl
        case hs =>
          have h := HK18.out.drew.n2.src (b := xb) (o := xo) (i := 0 + 1) (m := []) rfl (List.append_nil _).symm (by rw [HLq.out]; omega) hj
          exact h
        case hc =>
          intro j' hj
          rw [itemCells_length, List.length_drop, HLq.out] at hj
          exact (HK18.out.drew.n2.items (b := xb) (o := xo) rfl).some j' (by show j' < rq.icap * E.sz; have h2 : E.sz = 1 := rfl; rw [h2] at hj ⊢; omega)
        intro w19a hu6
        have K6 := HK18.out.drew.n2.set_items (b := xb) (o := xo) rfl (i := 0) (List.drop (0 + 1) rq.items) (by show _ ≤ List.length rq.items; rw [List.length_drop, HLq.out]; omega) (by simp) hu6
        have HL19 : Hid (List.length (List.take 0 rq.items ++ List.drop (0 + 1) rq.items ++ List.drop (0 + (List.drop (0 + 1) rq.items).length) rq.items) = lq) := hidp (by simp only [List.length_append, List.length_take, List.length_drop, HLq.out]; omega)
        have HC19 : Hid (KS E S wc s [(n, ⟨rn.iso, rn.count, (List.set rn.items j y), (some (nb, no)), rn.icap, some ⟨kn.hdr, (some (kb, ko)), kn.cap, kn.kids⟩⟩), (l, ⟨rl.iso, (rl.count + 1), (rl.items ++ [md]), (some (gb13, gq13)), gc13, rl.kids⟩), (q, ⟨rq.iso, rq.count, (List.take 0 rq.items ++ List.drop (0 + 1) rq.items ++ List.drop (0 + (List.drop (0 + 1) rq.items).length) rq.items), (some (xb, xo)), rq.icap, rq.kids⟩)] w19a) := hidp K6
        clear K6 hu6
        have y19_2 : w19a.cell? ⟨q, 2, none⟩ = some (.slice (some ⟨xb, xo, none⟩) (lq) rq.icap) := by
          have h : w19a.cell? ⟨q, 2, none⟩ = some (sv (some (xb, xo)) (List.length (List.take 0 rq.items ++ List.drop (0 + 1) rq.items ++ List.drop (0 + (List.drop (0 + 1) rq.items).length) rq.items)) rq.icap) := HC19.out.n2.cell.2.2.2.1
          rw [HL19.out] at h; exact h))
    generalize (if rq.icap = 1 then (some ⟨xb, xo, none⟩ : Option Addr) else some ⟨xb, xo + 1, none⟩) = zz19
    clear HK18 x19_2 hb1
    clear y19_2
    have x20_2 : w19a.cell? ⟨q, 2, none⟩ = some (.slice (some ⟨xb, xo, none⟩) (lq) rq.icap) := by
      have h : w19a.cell? ⟨q, 2, none⟩ = some (sv (some (xb, xo)) (List.length (List.take 0 rq.items ++ List.drop (0 + 1) rq.items ++ List.drop (0 + (List.drop (0 + 1) rq.items).length) rq.items)) rq.icap) := HC19.out.n2.cell.2.2.2.1
      rw [HL19.out] at h; exact h
    have x20_4 : w19a.cell? ⟨s.m, 4, none⟩ = some (Value.int .i64 0) := HC19.out.map.1.cell 4 rfl
    have x20_5 : w19a.cell? ⟨s.m, 4, none⟩ = some (Value.int .i64 0) := HC19.out.map.1.cell 4 rfl
    have hcap20 : lq ≤ rq.icap := by have h := HC19.out.n2.wf.2.2.1; rw [HL19.out] at h; exact h
    have ci := (HC19.out.n2.items (b := xb) (o := xo) rfl).some (pq) (by show pq < rq.icap * E.sz; have h2 : E.sz = 1 := rfl; rw [h2]; omega)
    have ci2 := (HC19.out.n2.items (b := xb) (o := xo) rfl).some (pq) (by show pq < rq.icap * E.sz; have h2 : E.sz = 1 := rfl; rw [h2]; omega)
    obtain ⟨z1, hz1'⟩ := Option.isSome_iff_exists.1 ci
    obtain ⟨z2, hz2'⟩ := Option.isSome_iff_exists.1 ci2
    have e1 : w19a.cell? ⟨xb, xo + pq, none⟩ = some z1 := M_cell hz1'
    have e2 : w19a.cell? ⟨xb, xo + pq, none⟩ = some z2 := M_cell hz2'
    have f1 : w19a.frozen? ⟨xb, xo + pq, none⟩ = false := M_froz hz1'
    have f2 : w19a.frozen? ⟨xb, xo + pq, none⟩ = false := M_froz hz2'
    have hu := Upd.one w19a (b := xb) (o := xo + pq) (Value.int .i64 0) (by exact ci2)
    have K6 := HC19.out.n2.set_item (b := xb) (o := xo) rfl (i := pq) ((0 : Int), ()) (by show _ < List.length (List.take 0 rq.items ++ List.drop (0 + 1) rq.items ++ List.drop (0 + (List.drop (0 + 1) rq.items).length) rq.items); rw [HL19.out]; omega) (by show _ = _ + _ * 1; rw [Nat.mul_one]) hu
    have HL20 : Hid (List.length (List.set (List.take 0 rq.items ++ List.drop (0 + 1) rq.items ++ List.drop (0 + (List.drop (0 + 1) rq.items).length) rq.items) pq ((0 : Int), ())) = lq) := hidp (by rw [List.length_set]; exact HL19.out)
    have hblt : xb < w19a.heap.size := HC19.out.n2.blt (b := xb) (o := xo) rfl
    have hw1 : IntKind.i64.wrap (((lq : Nat) : Int) - 1) = (pq : Int) := by rw [Last.i64_w, IntWalk.wrap64_in _ ⟨by omega, by omega⟩]; omega
    have hb1 : (pq : Int) < ((lq : Nat) : Int) := by omega
    have hb2 : (pq : Int) ≤ ((lq : Nat) : Int) := by omega
    have HC20 : Hid (KS E S wc s [(n, ⟨rn.iso, rn.count, (List.set rn.items j y), (some (nb, no)), rn.icap, some ⟨kn.hdr, (some (kb, ko)), kn.cap, kn.kids⟩⟩), (l, ⟨rl.iso, (rl.count + 1), (rl.items ++ [md]), (some (gb13, gq13)), gc13, rl.kids⟩), (q, ⟨rq.iso, rq.count, (List.set (List.take 0 rq.items ++ List.drop (0 + 1) rq.items ++ List.drop (0 + (List.drop (0 + 1) rq.items).length) rq.items) pq ((0 : Int), ())), (some (xb, xo)), rq.icap, rq.kids⟩)] (w19a.setCell ⟨xb, xo + pq, none⟩ (Value.int .i64 0))) := hidp K6
    clear ci ci2 hz1' hz2' hu K6 HC19
    go_wp2_with fail
    refine Last.start_ (S := fun w' => w'.cell? ⟨q, 2, none⟩ = some (.slice (some ⟨xb, xo, none⟩) (lq) rq.icap) ∧ w'.cell? ⟨s.m, 4, none⟩ = some (Value.int .i64 0)) (ds := [15]) #[Z,Z,Z,Z,Z,Z,Z,Z,Z,Z,Z,Z,Z,Z,Z,Z] (by rfl) (by rfl) (by rfl) ?_ (fun hHeld => ?_)
    · go_keep
    refine Last.tk 0 488 #[Y,Z,Z,Z,Z,Z,Z,Z,Z,Z,Z,Z,Z,Z,Z,Z] rfl rfl hHeld ?_
    refine Last.tk 1 489 #[Y,Y,Z,Z,Z,Z,Z,Z,Z,Z,Z,Z,Z,Z,Z,Z] rfl rfl hHeld ?_
    refine Last.tk 2 490 #[Y,Y,Y,Z,Z,Z,Z,Z,Z,Z,Z,Z,Z,Z,Z,Z] rfl rfl hHeld ?_
    refine Last.tk 3 491 #[Y,Y,Y,Y,Z,Z,Z,Z,Z,Z,Z,Z,Z,Z,Z,Z] rfl rfl hHeld ?_
    refine Last.tk 4 492 #[Y,Y,Y,Y,Y,Z,Z,Z,Z,Z,Z,Z,Z,Z,Z,Z] rfl rfl hHeld ?_
    refine Last.tk 5 493 #[Y,Y,Y,Y,Y,Y,Z,Z,Z,Z,Z,Z,Z,Z,Z,Z] rfl rfl hHeld ?_
    refine Last.tk 6 494 #[Y,Y,Y,Y,Y,Y,Y,Z,Z,Z,Z,Z,Z,Z,Z,Z] rfl rfl hHeld ?_
    refine Last.tk 7 495 #[Y,Y,Y,Y,Y,Y,Y,Y,Z,Z,Z,Z,Z,Z,Z,Z] rfl rfl hHeld ?_
    refine Last.tk 8 496 #[Y,Y,Y,Y,Y,Y,Y,Y,Y,Z,Z,Z,Z,Z,Z,Z] rfl rfl hHeld ?_
    refine Last.tk 9 497 #[Y,Y,Y,Y,Y,Y,Y,Y,Y,Y,Z,Z,Z,Z,Z,Z] rfl rfl hHeld ?_
    refine Last.tk 10 498 #[Y,Y,Y,Y,Y,Y,Y,Y,Y,Y,Y,Z,Z,Z,Z,Z] rfl rfl hHeld ?_
    refine Last.tk 11 499 #[Y,Y,Y,Y,Y,Y,Y,Y,Y,Y,Y,Y,Z,Z,Z,Z] rfl rfl hHeld ?_
    refine Last.tk 12 500 #[Y,Y,Y,Y,Y,Y,Y,Y,Y,Y,Y,Y,Y,Z,Z,Z] rfl rfl hHeld ?_
    refine Last.tk 13 501 #[Y,Y,Y,Y,Y,Y,Y,Y,Y,Y,Y,Y,Y,Y,Z,Z] rfl rfl hHeld ?_
    refine Last.tk 14 502 #[Y,Y,Y,Y,Y,Y,Y,Y,Y,Y,Y,Y,Y,Y,Y,Z] rfl rfl hHeld ?_
    refine Last.last_ (i := 15) (N := none) #[Y,Y,Y,Y,Y,Y,Y,Y,Y,Y,Y,Y,Y,Y,Y,Y] rfl rfl (by kernel_rfl) (by decide) (fun K hK => ?_)
    go_simp
    refine hK.out _ _ ?_
    clear hK K
    try simp only [Act.put, setIfInBounds_toArray, set_cons_zero, set_cons_succ]
    refine Last.done_ (by kernel_rfl) ?_
    have K7 := HC20.out.drew
    generalize (w19a.setCell ⟨xb, xo + pq, none⟩ (Value.int .i64 0)).drew = w20 at K7 ⊢
    clear HC20 x20_2 x20_4 x20_5 e1 e2 f1 f2 hblt
    have HK21 : Hid (KS E S wc s [(n, ⟨rn.iso, rn.count, (List.set rn.items j y), (some (nb, no)), rn.icap, some ⟨kn.hdr, (some (kb, ko)), kn.cap, kn.kids⟩⟩), (l, ⟨rl.iso, (rl.count + 1), (rl.items ++ [md]), (some (gb13, gq13)), gc13, rl.kids⟩), (q, ⟨rq.iso, rq.count, (List.set (List.take 0 rq.items ++ List.drop (0 + 1) rq.items ++ List.drop (0 + (List.drop (0 + 1) rq.items).length) rq.items) pq ((0 : Int), ())), (some (xb, xo)), rq.icap, rq.kids⟩)] w20) := hidp K7
    clear K7
    have x22_2 : w20.cell? ⟨q, 2, none⟩ = some (.slice (some ⟨xb, xo, none⟩) (lq) rq.icap) := by
      have h : w20.cell? ⟨q, 2, none⟩ = some (sv (some (xb, xo)) (List.length (List.set (List.take 0 rq.items ++ List.drop (0 + 1) rq.items ++ List.drop (0 + (List.drop (0 + 1) rq.items).length) rq.items) pq ((0 : Int), ()))) rq.icap) := HK21.out.n2.cell.2.2.2.1
      rw [HL20.out] at h; exact h
    have f2 := M_froz HK21.out.n2.mem.2
    have hlt : q < w20.heap.size := HK21.out.n2.cell.1
    have hcp : lq ≤ rq.icap := by have h := HK21.out.n2.wf.2.2.1; rw [HL20.out] at h; exact h
    have hcc : ¬ rq.icap < pq := by omega
    have hcd : (pq : Int) ≤ (rq.icap : Int) := by omega
    have K6 := HK21.out.n2.take_items (k := pq) (by show _ ≤ List.length (List.set (List.take 0 rq.items ++ List.drop (0 + 1) rq.items ++ List.drop (0 + (List.drop (0 + 1) rq.items).length) rq.items) pq ((0 : Int), ())); rw [HL20.out]; omega) (Upd.one w20 (b := q) (o := 2) (.slice (some ⟨xb, xo, none⟩) pq rq.icap) (by rw [HK21.out.n2.mem.2]; rfl))
    have HL22 : Hid (List.length (List.take pq (List.set (List.take 0 rq.items ++ List.drop (0 + 1) rq.items ++ List.drop (0 + (List.drop (0 + 1) rq.items).length) rq.items) pq ((0 : Int), ()))) = pq) := hidp (by rw [List.length_take, HL20.out]; omega)
    have HC22 : Hid (KS E S wc s [(n, ⟨rn.iso, rn.count, (List.set rn.items j y), (some (nb, no)), rn.icap, some ⟨kn.hdr, (some (kb, ko)), kn.cap, kn.kids⟩⟩), (l, ⟨rl.iso, (rl.count + 1), (rl.items ++ [md]), (some (gb13, gq13)), gc13, rl.kids⟩), (q, ⟨rq.iso, rq.count, (List.take pq (List.set (List.take 0 rq.items ++ List.drop (0 + 1) rq.items ++ List.drop (0 + (List.drop (0 + 1) rq.items).length) rq.items) pq ((0 : Int), ()))), (some (xb, xo)), rq.icap, rq.kids⟩)] (w20.setCell ⟨q, 2, none⟩ (.slice (some ⟨xb, xo, none⟩) pq rq.icap))) := hidp K6
    clear K6 HK21
    go_wp2_with fail
    refine Last.start_ (S := fun w' => w'.cell? ⟨q, 2, none⟩ = some (.slice (some ⟨xb, xo, none⟩) (lq) rq.icap)) (ds := [14]) #[Z,Z,Z,Z,Z,Z,Z,Z,Z,Z,Z,Z,Z,Z,Z] (by rfl) (by rfl) (by rfl) ?_ (fun hHeld => ?_)
    · go_keep
    refine Last.tk 0 503 #[Y,Z,Z,Z,Z,Z,Z,Z,Z,Z,Z,Z,Z,Z,Z] rfl rfl hHeld ?_
    refine Last.tk 1 504 #[Y,Y,Z,Z,Z,Z,Z,Z,Z,Z,Z,Z,Z,Z,Z] rfl rfl hHeld ?_
    refine Last.tk 2 505 #[Y,Y,Y,Z,Z,Z,Z,Z,Z,Z,Z,Z,Z,Z,Z] rfl rfl hHeld ?_
    refine Last.tk 3 506 #[Y,Y,Y,Y,Z,Z,Z,Z,Z,Z,Z,Z,Z,Z,Z] rfl rfl hHeld ?_
    refine Last.tk 4 507 #[Y,Y,Y,Y,Y,Z,Z,Z,Z,Z,Z,Z,Z,Z,Z] rfl rfl hHeld ?_
    refine Last.tk 5 508 #[Y,Y,Y,Y,Y,Y,Z,Z,Z,Z,Z,Z,Z,Z,Z] rfl rfl hHeld ?_
    refine Last.tk 6 509 #[Y,Y,Y,Y,Y,Y,Y,Z,Z,Z,Z,Z,Z,Z,Z] rfl rfl hHeld ?_
    refine Last.tk 7 510 #[Y,Y,Y,Y,Y,Y,Y,Y,Z,Z,Z,Z,Z,Z,Z] rfl rfl hHeld ?_
    refine Last.tk 8 511 #[Y,Y,Y,Y,Y,Y,Y,Y,Y,Z,Z,Z,Z,Z,Z] rfl rfl hHeld ?_
    refine Last.tk 9 512 #[Y,Y,Y,Y,Y,Y,Y,Y,Y,Y,Z,Z,Z,Z,Z] rfl rfl hHeld ?_
    refine Last.tk 10 513 #[Y,Y,Y,Y,Y,Y,Y,Y,Y,Y,Y,Z,Z,Z,Z] rfl rfl hHeld ?_
    refine Last.tk 11 514 #[Y,Y,Y,Y,Y,Y,Y,Y,Y,Y,Y,Y,Z,Z,Z] rfl rfl hHeld ?_
    refine Last.tk 12 515 #[Y,Y,Y,Y,Y,Y,Y,Y,Y,Y,Y,Y,Y,Z,Z] rfl rfl hHeld ?_
    refine Last.tk 13 516 #[Y,Y,Y,Y,Y,Y,Y,Y,Y,Y,Y,Y,Y,Y,Z] rfl rfl hHeld ?_
    refine Last.last_ (i := 14) (N := none) #[Y,Y,Y,Y,Y,Y,Y,Y,Y,Y,Y,Y,Y,Y,Y] rfl rfl (by kernel_rfl) (by decide) (fun K hK => ?_)
    go_simp
    refine hK.out _ _ ?_
    clear hK K
    try simp only [Act.put, setIfInBounds_toArray, set_cons_zero, set_cons_succ]
    refine Last.done_ (by kernel_rfl) ?_
    have K7 := HC22.out.drew
    generalize (w20.setCell ⟨q, 2, none⟩ (.slice (some ⟨xb, xo, none⟩) pq rq.icap)).drew = w22 at K7 ⊢
    clear HC22 x22_2 f2 hlt hcc hcd hcp
    have hsh : (List.take pq (List.set (List.take 0 rq.items ++ List.drop (0 + 1) rq.items ++ List.drop (0 + (List.drop (0 + 1) rq.items).length) rq.items) pq ((0 : Int), ()))) = (List.drop 1 rq.items) := cut_shift (j := 0) (HLq.out.trans HPQ.out) (Nat.zero_le _)
    have HLs22 : Hid (List.length (List.drop 1 rq.items) = pq) := hidp (by rw [← hsh]; exact HL22.out)
    rw [hsh] at K7
    have HK23 : Hid (KS E S wc s [(n, ⟨rn.iso, rn.count, (List.set rn.items j y), (some (nb, no)), rn.icap, some ⟨kn.hdr, (some (kb, ko)), kn.cap, kn.kids⟩⟩), (l, ⟨rl.iso, (rl.count + 1), (rl.items ++ [md]), (some (gb13, gq13)), gc13, rl.kids⟩), (q, ⟨rq.iso, rq.count, (List.drop 1 rq.items), (some (xb, xo)), rq.icap, rq.kids⟩)] w22) := hidp K7
    clear K7 hsh
    clear hw1 hb1 hb2
    have x24_1 : w22.cell? ⟨q, 1, none⟩ = some (.int .i64 rq.count) := HK23.out.n2.cell.2.2.1
    have f1 := M_froz HK23.out.n2.mem.1
    have hlt : q < w22.heap.size := HK23.out.n2.cell.1
    have K6 := HK23.out.n2.count (rq.count - 1) (Upd.one w22 (b := q) (o := 1) (.int .i64 (rq.count - 1)) (by rw [HK23.out.n2.mem.1]; rfl))
    have HC24 : Hid (KS E S wc s [(n, ⟨rn.iso, rn.count, (List.set rn.items j y), (some (nb, no)), rn.icap, some ⟨kn.hdr, (some (kb, ko)), kn.cap, kn.kids⟩⟩), (l, ⟨rl.iso, (rl.count + 1), (rl.items ++ [md]), (some (gb13, gq13)), gc13, rl.kids⟩), (q, ⟨rq.iso, (rq.count - 1), (List.drop 1 rq.items), (some (xb, xo)), rq.icap, rq.kids⟩)] (w22.setCell ⟨q, 1, none⟩ (.int .i64 (rq.count - 1)))) := hidp K6
    clear K6 HK23
    go_wp2_with fail
    have K7 := HC24.out
    generalize (w22.setCell ⟨q, 1, none⟩ (.int .i64 (rq.count - 1))) = w24 at K7 ⊢
    clear HC24 x24_1 f1 hlt
    have HK25 : Hid (KS E S wc s [(n, ⟨rn.iso, rn.count, (List.set rn.items j y), (some (nb, no)), rn.icap, some ⟨kn.hdr, (some (kb, ko)), kn.cap, kn.kids⟩⟩), (l, ⟨rl.iso, (rl.count + 1), (rl.items ++ [md]), (some (gb13, gq13)), gc13, rl.kids⟩), (q, ⟨rq.iso, (rq.count - 1), (List.drop 1 rq.items), (some (xb, xo)), rq.icap, rq.kids⟩)] w24) := hidp K7
    clear K7
    have c3 : w24.cell? ⟨l, 3, none⟩ = some (pv none) := by have h := HK25.out.n1.cell.2.2.2.2; dsimp only at h; rw [H1.out] at h; exact h
    go_wp2_with fail
    refine (leaf_raw c3).mono ?_
    rintro e w' ⟨rfl, rfl⟩
    clear c3
    go_wp2
    go_end0
    exact ⟨rfl, _, _, HK25.out⟩
end Go.Proofs.Ytbjhnefienjncaa.Bt.IU
