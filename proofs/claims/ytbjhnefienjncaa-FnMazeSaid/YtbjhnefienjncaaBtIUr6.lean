/- Maps of numbers (sets): an inner node gives an item to the left. -/
import Derived.Test.YtbjhnefienjncaaBtIUr
namespace Go.Proofs.Ytbjhnefienjncaa.Bt.IU
set_option linter.unusedVariables false
set_option linter.unusedSimpArgs false
open Go Go.RowKit Go.Proofs.Ytbjhnefienjncaa.Bt
open Go.Proofs.Ytbjhnefienjncaa.Bt.Last (Y Z)
open _root_.List (setIfInBounds_toArray set_cons_zero set_cons_succ)

variable {S : Nat → Prop} {w : World} {s : Sto It}

set_option maxHeartbeats 40000000 in
set_option maxRecDepth 100000 in
/-- An inner node gives its first item and its first child to the left. -/
theorem reb_left_inner (R : RepS E S w s) {n l q j ln lk ll lq : Nat} {rn rl rq : NodeR It} {kn : KidR} {nb no kb ko : Nat} {md : It} {i mx : Nat} {kl kq : KidR} {lb lo qb qo jl jq : Nat} {xb xo : Nat} {y : It} {c : Nat} {rc : NodeR It} {pk : Nat} (H : Pair w s n l q j ln lk ll lq rn rl rq kn nb no kb ko md i mx) (hge : mx ≤ ll + lq) (hgt : ll ≤ lq) (hq0 : 0 < lq) (h1 : rl.kids = some kl) (h2 : rq.kids = some kq) (h3 : kl.base = some (lb, lo)) (h4 : kq.base = some (qb, qo)) (h5 : kl.kids.length = jl) (h6 : kq.kids.length = jq) (h7 : 0 < jl) (h8 : 0 < jq) (h9 : jl ≤ 100000) (h10 : jq ≤ 100000) (h0 : rq.ib = some (xb, xo)) (hy : rq.items[0]? = some y) (hrc : s.nd c = some rc) (hnc : [n, l, q, c].Nodup) (hcc : 0 ≤ rc.count ∧ rc.count ≤ 100000000000) (hpk : jq = pk + 1) (hck : kq.kids[0]? = some (some c)) :
    Calls Try.prog 138 #[.pointer (some ⟨s.m, 0, none⟩), .pointer (some ⟨n, 0, none⟩), .int .i64 i] w (fun e w' => e = .returned (.tuple #[]) ∧ ∃ ib2 ic2 kb2 kc2, KS E S w s [(n, ⟨rn.iso, rn.count, List.set rn.items j y, some (nb, no), rn.icap, some ⟨kn.hdr, some (kb, ko), kn.cap, kn.kids⟩⟩), (l, ⟨rl.iso, rl.count + 1 + rc.count, rl.items ++ [md], ib2, ic2, some ⟨kl.hdr, kb2, kc2, kl.kids ++ [some c]⟩⟩), (q, ⟨rq.iso, rq.count - 1 - rc.count, List.drop 1 rq.items, some (xb, xo), rq.icap, some ⟨kq.hdr, some (qb, qo), kq.cap, List.drop 1 kq.kids⟩⟩), (c, rc)] w') := by
  have HH := hidp H
  have hj : j < ln := by rw [← H.len]; exact (List.getElem?_eq_some_iff.1 H.hmd).1
  obtain ⟨hnlt, _, _, n2, n3⟩ := ncell R H.hn
  obtain ⟨ba, n2'⟩ : ∃ ba, w.cell? ⟨n, 2, none⟩ = some (.slice ba ln rn.icap) := ⟨_, by rw [n2, H.len]; rfl⟩
  have n3' : w.cell? ⟨n, 3, none⟩ = some (.pointer (some ⟨kn.hdr, 0, none⟩)) := by rw [n3, H.hk]; rfl
  have kh : w.cell? ⟨kn.hdr, 0, none⟩ = some (.slice (some ⟨kb, ko, none⟩) lk kn.cap) := by
    have h := (R.hdr H.hn H.hk).cell 0 rfl
    rw [H.kib, H.kl] at h; exact h
  have k0 : w.cell? ⟨kb, ko + j, none⟩ = some (pv (some l)) := M_cell (R.kid H.hn H.hk H.kib H.kj)
  have k1 : w.cell? ⟨kb, ko + (j + 1), none⟩ = some (pv (some q)) := M_cell (R.kid H.hn H.hk H.kib H.kj1)
  have HI := hidp H.hi
  have hb1 := H.bn
  have hb2 := H.bl
  have hb3 := H.bq
  have hb4 := H.bm
  have hk1 := H.lk1
  have hk2 := H.lk2
  have hc1 := H.cl
  have hc2 := H.cq
  have jlt : (j : Int) < (lk : Int) := by omega
  have jlt2 : (j : Int) + 1 < (lk : Int) := by omega
  have jlt3 : (j : Int) < (ln : Int) := by omega
  obtain ⟨p, hp⟩ : ∃ p, ln = p + 1 := ⟨ln - 1, by omega⟩
  have HP := hidp hp
  have hp1 : p + 1 ≤ ln := by omega
  have hp2 : ln ≤ p + 1 := by omega
  have HR := hidp R
  have ern := node_eq H.nib H.hk H.kib
  have erl := node_eq2 h1 h3
  have erq := node_eq h0 h2 h4
  have HS0 : Hid (KS E S w s [(n, ⟨rn.iso, rn.count, rn.items, some (nb, no), rn.icap, some ⟨kn.hdr, some (kb, ko), kn.cap, kn.kids⟩⟩), (l, ⟨rl.iso, rl.count, rl.items, rl.ib, rl.icap, some ⟨kl.hdr, some (lb, lo), kl.cap, kl.kids⟩⟩), (q, ⟨rq.iso, rq.count, rq.items, some (xb, xo), rq.icap, some ⟨kq.hdr, some (qb, qo), kq.cap, kq.kids⟩⟩), (c, rc)] w) := hidp (KS.start R (fun a r h => by
    simp only [List.mem_cons, List.not_mem_nil, or_false, Prod.mk.injEq] at h
    rcases h with ⟨rfl, rfl⟩ | ⟨rfl, rfl⟩ | ⟨rfl, rfl⟩ | ⟨rfl, rfl⟩
    · rw [← ern]; exact HH.out.hn
    · rw [← erl]; exact HH.out.hl
    · rw [← erq]; exact HH.out.hq
    · exact hrc) (by exact hnc))
  have HMD := hidp H.hmd
  have HLn := hidp H.len
  have HLl := hidp H.lel
  have HLq := hidp H.leq
  have HLk := hidp H.kl
  have HMX := hidp H.hmx
  obtain ⟨i0, hi0, hz0, hz1, hz2⟩ := info_parts infoP
  obtain ⟨j0, hj0, hy0, hy1, hy2⟩ := info_parts infoK
  have HI0 := hidp hi0
  have HZ0 := hidp hz0
  have HZ1 := hidp hz1
  have HZ2 := hidp hz2
  have HJ0 := hidp hj0
  have HY0 := hidp hy0
  have HY1 := hidp hy1
  have HY2 := hidp hy2
  have HNl := hidp h5
  have HNq := hidp h6
  clear h1 h2 h3 h4 h5 h6
  obtain ⟨pq, hpq⟩ : ∃ p, lq = p + 1 := ⟨lq - 1, by omega⟩
  have HPQ := hidp hpq
  have HY := hidp hy
  have hpq1 : pq + 1 ≤ lq := by omega
  have hpq2 : lq ≤ pq + 1 := by omega
  have HCK := hidp hck
  have HPK := hidp hpk
  have hpk1 : pk + 1 ≤ jq := by omega
  have hpk2 : jq ≤ pk + 1 := by omega
  clear hpq hy h0 erl erq hck hpk hrc hnc
  clear H R n2 n3 hp ern hi0 hz0 hz1 hz2 hj0 hy0 hy1 hy2
  go_enter Try.func138, Try.ntmps138
  go_upto_if 14 with (fail)
  go_cut [2] from 14 to 16 (fun u wx => u = .int .i64 j ∧ wx = w)
  case first =>
    rcases HI.out with ⟨hi1, hi⟩ | ⟨hi1, hi⟩
    · have hi' : ((i : Int) == (ln : Int)) = false := beq_eq_false_iff_ne.2 (by omega)
      have hi2 : (i : Int) = (j : Int) := by omega
      have HI2 := hidp hi2
      clear hi1 hi hi2
      go_wp2
      go_meet
      exact ⟨by rw [HI2.out], rfl⟩
    · have hi' : ((i : Int) == (ln : Int)) = true := beq_iff_eq.2 (by omega)
      have hi2 : (i : Int) - 1 = (j : Int) := by omega
      have HI2 := hidp hi2
      have hi3 : 1 ≤ (i : Int) := by omega
      have hi4 : (i : Int) ≤ 100000 := by omega
      clear hi1 hi hi2
      go_wp2
      go_meet
      exact ⟨by first | rw [HI2.out] | rw [HI2.out, IntWalk.wrap64_in _ ⟨by omega, by omega⟩], rfl⟩
  case rest =>
    obtain ⟨rfl, rfl⟩ := hcut
    clear HI
    go_wp2_with fail
    refine (isoLoad_own HR.out (A := ⟨kb, ko + j, none⟩) k0 HH.out.hl HH.out.isol true).mono ?_
    rintro e w' ⟨rfl, a1, rfl⟩
    go_wp2_with fail
    refine (isoLoad_own (HR.out.drewN a1) (A := ⟨kb, ko + (j + 1), none⟩) k1 HH.out.hq HH.out.isoq true).mono ?_
    rintro e w' ⟨rfl, a2, rfl⟩
    have K1 := (HS0.out.drewN a1).drewN a2
    generalize (wc.drewN a1).drewN a2 = w1 at K1 ⊢
    have HK1 := hidp K1
    clear K1 n2' n3' kh k0 k1 jlt2 HS0 HR
    obtain ⟨l2A, l2⟩ : ∃ A, w1.cell? ⟨l, 2, none⟩ = some (.slice A (ll) rl.icap) := by
      have h : w1.cell? ⟨l, 2, none⟩ = some (sv rl.ib (List.length rl.items) rl.icap) := HK1.out.n1.cell.2.2.2.1
      rw [HLl.out] at h; exact ⟨_, h⟩
    obtain ⟨q2A, q2⟩ : ∃ A, w1.cell? ⟨q, 2, none⟩ = some (.slice A (lq) rq.icap) := by
      have h : w1.cell? ⟨q, 2, none⟩ = some (sv (some (xb, xo)) (List.length rq.items) rq.icap) := HK1.out.n2.cell.2.2.2.1
      rw [HLq.out] at h; exact ⟨_, h⟩
    have m7 : w1.cell? ⟨s.m, 6, none⟩ = some (.int .i64 mx) := by have h := HK1.out.map.1.cell 6 (v := .int .i64 s.mp.mx) rfl; rw [HMX.out] at h; exact h
    have hsm : IntKind.i64.wrap ((ll : Int) + (lq : Int)) = (ll : Int) + (lq : Int) := by rw [Last.i64_w]; exact IntWalk.wrap64_in _ ⟨by omega, by omega⟩
    have hmm : s.m < w1.heap.size := HK1.out.map.1.1
    have hlm : ¬ (ll : Int) + (lq : Int) < (mx : Int) := by omega
    go_wp2_with fail
    go_quiet (fail)
    have K2 := HK1.out.drewN nq
    generalize w1.drewN nq = w2 at K2 ⊢
    clear l2 q2 m7 hsm HK1
    have HK11 : Hid (KS E S wc s [(n, ⟨rn.iso, rn.count, rn.items, (some (nb, no)), rn.icap, some ⟨kn.hdr, (some (kb, ko)), kn.cap, kn.kids⟩⟩), (l, ⟨rl.iso, rl.count, rl.items, rl.ib, rl.icap, some ⟨kl.hdr, (some (lb, lo)), kl.cap, kl.kids⟩⟩), (q, ⟨rq.iso, rq.count, rq.items, (some (xb, xo)), rq.icap, some ⟨kq.hdr, (some (qb, qo)), kq.cap, kq.kids⟩⟩), (c, rc)] w2) := hidp K2
    clear K2
    obtain ⟨l3A, l3⟩ : ∃ A, w2.cell? ⟨l, 2, none⟩ = some (.slice A (ll) rl.icap) := by
      have h : w2.cell? ⟨l, 2, none⟩ = some (sv rl.ib (List.length rl.items) rl.icap) := HK11.out.n1.cell.2.2.2.1
      rw [HLl.out] at h; exact ⟨_, h⟩
    obtain ⟨q3A, q3⟩ : ∃ A, w2.cell? ⟨q, 2, none⟩ = some (.slice A (lq) rq.icap) := by
      have h : w2.cell? ⟨q, 2, none⟩ = some (sv (some (xb, xo)) (List.length rq.items) rq.icap) := HK11.out.n2.cell.2.2.2.1
      rw [HLq.out] at h; exact ⟨_, h⟩
    have hgt : ¬ (lq : Int) < (ll : Int) := by omega
    go_wp2_with fail
    go_quiet (fail)
    have K3 := HK11.out.drewN nq
    generalize w2.drewN nq = w3 at K3 ⊢
    clear l3 q3 hgt HK11
    have HK12 : Hid (KS E S wc s [(n, ⟨rn.iso, rn.count, rn.items, (some (nb, no)), rn.icap, some ⟨kn.hdr, (some (kb, ko)), kn.cap, kn.kids⟩⟩), (l, ⟨rl.iso, rl.count, rl.items, rl.ib, rl.icap, some ⟨kl.hdr, (some (lb, lo)), kl.cap, kl.kids⟩⟩), (q, ⟨rq.iso, rq.count, rq.items, (some (xb, xo)), rq.icap, some ⟨kq.hdr, (some (qb, qo)), kq.cap, kq.kids⟩⟩), (c, rc)] w3) := hidp K3
    clear K3
    have x13_2 : w3.cell? ⟨l, 2, none⟩ = some (sv rl.ib (ll) rl.icap) := by
      have h : w3.cell? ⟨l, 2, none⟩ = some (sv rl.ib (List.length rl.items) rl.icap) := HK12.out.n1.cell.2.2.2.1
      rw [HLl.out] at h; exact h
    have x13_3 : w3.cell? ⟨n, 2, none⟩ = some (.slice (some ⟨nb, no, none⟩) (ln) rn.icap) := by
      have h : w3.cell? ⟨n, 2, none⟩ = some (sv (some (nb, no)) (List.length rn.items) rn.icap) := HK12.out.n0.cell.2.2.2.1
      rw [HLn.out] at h; exact h
    have x13_4 : w3.cell? ⟨nb, no + j, none⟩ = some (Value.int .i64 md.1) := M_cell (kitem HK12.out.n0 (b := nb) (o := no) rfl (i := j) HMD.out).1
    have x13_5 : w3.cell? ⟨nb, no + j, none⟩ = some (Value.int .i64 md.1) := M_cell (kitem HK12.out.n0 (b := nb) (o := no) rfl (i := j) HMD.out).2
    have HW13 := hidp HK12.out.n1.wf
    go_wp2_with fail
    refine Last.start_ (S := fun w' => w'.cell? ⟨l, 2, none⟩ = some (sv rl.ib (ll) rl.icap) ∧ w'.cell? ⟨n, 2, none⟩ = some (.slice (some ⟨nb, no, none⟩) (ln) rn.icap) ∧ w'.cell? ⟨nb, no + j, none⟩ = some (Value.int .i64 md.1)) (ds := [16]) #[Z,Z,Z,Z,Z,Z,Z,Z,Z,Z,Z,Z,Z,Z,Z,Z,Z] (by rfl) (by rfl) (by rfl) ?_ (fun hHeld => ?_)
    · go_keep
    refine Last.tk 0 443 #[Y,Z,Z,Z,Z,Z,Z,Z,Z,Z,Z,Z,Z,Z,Z,Z,Z] rfl rfl hHeld ?_
    refine Last.tk 1 444 #[Y,Y,Z,Z,Z,Z,Z,Z,Z,Z,Z,Z,Z,Z,Z,Z,Z] rfl rfl hHeld ?_
    refine Last.tk 2 445 #[Y,Y,Y,Z,Z,Z,Z,Z,Z,Z,Z,Z,Z,Z,Z,Z,Z] rfl rfl hHeld ?_
    refine Last.tk 3 446 #[Y,Y,Y,Y,Z,Z,Z,Z,Z,Z,Z,Z,Z,Z,Z,Z,Z] rfl rfl hHeld ?_
    refine Last.tk 4 447 #[Y,Y,Y,Y,Y,Z,Z,Z,Z,Z,Z,Z,Z,Z,Z,Z,Z] rfl rfl hHeld ?_
    refine Last.tk 5 448 #[Y,Y,Y,Y,Y,Y,Z,Z,Z,Z,Z,Z,Z,Z,Z,Z,Z] rfl rfl hHeld ?_
    refine Last.tk 6 449 #[Y,Y,Y,Y,Y,Y,Y,Z,Z,Z,Z,Z,Z,Z,Z,Z,Z] rfl rfl hHeld ?_
    refine Last.tk 7 450 #[Y,Y,Y,Y,Y,Y,Y,Y,Z,Z,Z,Z,Z,Z,Z,Z,Z] rfl rfl hHeld ?_
    refine Last.tk 8 451 #[Y,Y,Y,Y,Y,Y,Y,Y,Y,Z,Z,Z,Z,Z,Z,Z,Z] rfl rfl hHeld ?_
    refine Last.tk 9 452 #[Y,Y,Y,Y,Y,Y,Y,Y,Y,Y,Z,Z,Z,Z,Z,Z,Z] rfl rfl hHeld ?_
    refine Last.tk 10 453 #[Y,Y,Y,Y,Y,Y,Y,Y,Y,Y,Y,Z,Z,Z,Z,Z,Z] rfl rfl hHeld ?_
    refine Last.tk 11 454 #[Y,Y,Y,Y,Y,Y,Y,Y,Y,Y,Y,Y,Z,Z,Z,Z,Z] rfl rfl hHeld ?_
    refine Last.one_ (i := 12) (N := some 455) #[Y,Y,Y,Y,Y,Y,Y,Y,Y,Y,Y,Y,Y,Z,Z,Z,Z] rfl rfl (by kernel_rfl) (by decide) (fun K hK => ?_)
    go_simp
    refine hK.out _ _ ?_ (fun hHeld => ?_)
    · (try dsimp only); go_keep
    clear hK K
    try simp only [Act.put, setIfInBounds_toArray, set_cons_zero, set_cons_succ]
    refine Last.one_ (i := 13) (N := some 456) #[Y,Y,Y,Y,Y,Y,Y,Y,Y,Y,Y,Y,Y,Y,Z,Z,Z] rfl rfl (by kernel_rfl) (by decide) (fun K hK => ?_)
    refine step_app (by rfl) _ _ _ (by rfl) 120 i0 _ 1 8 Try.underlying181 HI0.out HZ0.out HZ1.out HZ2.out rfl (by decide) rl.ib (ll) rl.icap (itemCells E rl.items) (by rfl) (fun h => ⟨by have e := (HW13.out.1 h).1; have e2 := congrArg List.length e; exact HLl.out.symm.trans e2, (HW13.out.1 h).2⟩) (by rw [itemCells_length, HLl.out]; rfl)
      (fun b o hb => (show KS E S wc s ([(n, ⟨rn.iso, rn.count, rn.items, (some (nb, no)), rn.icap, some ⟨kn.hdr, (some (kb, ko)), kn.cap, kn.kids⟩⟩)] ++ (l, ⟨rl.iso, rl.count, rl.items, rl.ib, rl.icap, some ⟨kl.hdr, (some (lb, lo)), kl.cap, kl.kids⟩⟩) :: [(q, ⟨rq.iso, rq.count, rq.items, (some (xb, xo)), rq.icap, some ⟨kq.hdr, (some (qb, qo)), kq.cap, kq.kids⟩⟩), (c, rc)]) _ from (HK12.out.drew.alloc (.cells #[Value.int .i64 md.1] 120))).items hb) ⟨w3.heap.size, 0, none⟩ 1 1 [Value.int .i64 md.1] (by rfl) (by decide) (by rfl) (fun j u hj => by rw [Addr.add_lit, Nat.zero_add]; exact (Bx.new (w3.drew) [Value.int .i64 md.1] 120).cell j hj) (by simp [Value.oneCell']) (by unfold maxLen; omega) (by omega) ?_
    intro v' w13a happ
    obtain ⟨gb13, gq13, gc13, rfl⟩ := happ.form
    have K4 : KS E S wc s [(n, ⟨rn.iso, rn.count, rn.items, (some (nb, no)), rn.icap, some ⟨kn.hdr, (some (kb, ko)), kn.cap, kn.kids⟩⟩), (l, ⟨rl.iso, rl.count, rl.items, rl.ib, rl.icap, some ⟨kl.hdr, (some (lb, lo)), kl.cap, kl.kids⟩⟩), (q, ⟨rq.iso, rq.count, rq.items, (some (xb, xo)), rq.icap, some ⟨kq.hdr, (some (qb, qo)), kq.cap, kq.kids⟩⟩), (c, rc)] w13a := (show KS E S wc s ([(n, ⟨rn.iso, rn.count, rn.items, (some (nb, no)), rn.icap, some ⟨kn.hdr, (some (kb, ko)), kn.cap, kn.kids⟩⟩)] ++ (l, ⟨rl.iso, rl.count, rl.items, rl.ib, rl.icap, some ⟨kl.hdr, (some (lb, lo)), kl.cap, kl.kids⟩⟩) :: [(q, ⟨rq.iso, rq.count, rq.items, (some (xb, xo)), rq.icap, some ⟨kq.hdr, (some (qb, qo)), kq.cap, kq.kids⟩⟩), (c, rc)]) _ from (HK12.out.drew.alloc (.cells #[Value.int .i64 md.1] 120))).app_keep (m := 1) HLl.out (by rfl) (.inr ⟨by decide, happ⟩)
    have y13_2 : w13a.cell? ⟨l, 2, none⟩ = some (sv rl.ib (ll) rl.icap) := by
      have h : w13a.cell? ⟨l, 2, none⟩ = some (sv rl.ib (List.length rl.items) rl.icap) := K4.n1.cell.2.2.2.1
      rw [HLl.out] at h; exact h
    have y13_3 : w13a.cell? ⟨n, 2, none⟩ = some (.slice (some ⟨nb, no, none⟩) (ln) rn.icap) := by
      have h : w13a.cell? ⟨n, 2, none⟩ = some (sv (some (nb, no)) (List.length rn.items) rn.icap) := K4.n0.cell.2.2.2.1
      rw [HLn.out] at h; exact h
    have y13_4 : w13a.cell? ⟨nb, no + j, none⟩ = some (Value.int .i64 md.1) := M_cell (kitem K4.n0 (b := nb) (o := no) rfl (i := j) HMD.out).1
    have y13_5 : w13a.cell? ⟨nb, no + j, none⟩ = some (Value.int .i64 md.1) := M_cell (kitem K4.n0 (b := nb) (o := no) rfl (i := j) HMD.out).2
    have f2 := M_froz K4.n1.mem.2
    have HA4 := hidp (And.intro happ K4)
    clear happ K4
    refine hK.out _ _ ?_ (fun hHeld => ?_)
    · (try dsimp only); go_keep
    clear hK K
    try simp only [Act.put, setIfInBounds_toArray, set_cons_zero, set_cons_succ]
    refine Last.tk 14 457 #[Y,Y,Y,Y,Y,Y,Y,Y,Y,Y,Y,Y,Y,Y,Y,Z,Z] rfl rfl hHeld ?_
    refine Last.tk 15 458 #[Y,Y,Y,Y,Y,Y,Y,Y,Y,Y,Y,Y,Y,Y,Y,Y,Z] rfl rfl hHeld ?_
    refine Last.last_ (i := 16) (N := none) #[Y,Y,Y,Y,Y,Y,Y,Y,Y,Y,Y,Y,Y,Y,Y,Y,Y] rfl rfl (by kernel_rfl) (by decide) (fun K hK => ?_)
    go_simp
    refine hK.out _ _ ?_
    clear hK K
    try simp only [Act.put, setIfInBounds_toArray, set_cons_zero, set_cons_succ]
    refine Last.done_ (by kernel_rfl) ?_
    obtain ⟨happ, K4⟩ := HA4.out
    obtain ⟨ib', cap', hv5, K5⟩ := (show KS E S wc s ([(n, ⟨rn.iso, rn.count, rn.items, (some (nb, no)), rn.icap, some ⟨kn.hdr, (some (kb, ko)), kn.cap, kn.kids⟩⟩)] ++ (l, ⟨rl.iso, rl.count, rl.items, rl.ib, rl.icap, some ⟨kl.hdr, (some (lb, lo)), kl.cap, kl.kids⟩⟩) :: [(q, ⟨rq.iso, rq.count, rq.items, (some (xb, xo)), rq.icap, some ⟨kq.hdr, (some (qb, qo)), kq.cap, kq.kids⟩⟩), (c, rc)]) _ from (HK12.out.drew.alloc (.cells #[Value.int .i64 md.1] 120))).app_items [md] HLl.out rfl (.inr ⟨Nat.one_pos, happ⟩) (Upd.one w13a (b := l) (o := 2) _ (by rw [K4.n1.mem.2]; rfl))
    obtain ⟨rfl, rfl⟩ : ib' = some (gb13, gq13) ∧ gc13 = cap' := sv_inj hv5
    clear happ hv5 K4 HA4 HW13 y13_2 y13_3 y13_4 y13_5 f2 x13_2 x13_3 x13_4 x13_5
    have HL13 : Hid (List.length (rl.items ++ [md]) = ll + 1) := hidp (by rw [List.length_append, HLl.out]; rfl)
    generalize w13a.setCell ⟨l, 2, none⟩ (.slice (some ⟨gb13, gq13, none⟩) (ll + 1) gc13) = w13 at K5 ⊢
    have HK14 : Hid (KS E S wc s [(n, ⟨rn.iso, rn.count, rn.items, (some (nb, no)), rn.icap, some ⟨kn.hdr, (some (kb, ko)), kn.cap, kn.kids⟩⟩), (l, ⟨rl.iso, rl.count, (rl.items ++ [md]), (some (gb13, gq13)), gc13, some ⟨kl.hdr, (some (lb, lo)), kl.cap, kl.kids⟩⟩), (q, ⟨rq.iso, rq.count, rq.items, (some (xb, xo)), rq.icap, some ⟨kq.hdr, (some (qb, qo)), kq.cap, kq.kids⟩⟩), (c, rc)] w13) := hidp K5
    clear K5 HK12
    have x15_1 : w13.cell? ⟨l, 1, none⟩ = some (.int .i64 rl.count) := HK14.out.n1.cell.2.2.1
    have f1 := M_froz HK14.out.n1.mem.1
    have hlt : l < w13.heap.size := HK14.out.n1.cell.1
    have K6 := HK14.out.n1.count (rl.count + 1) (Upd.one w13 (b := l) (o := 1) (.int .i64 (rl.count + 1)) (by rw [HK14.out.n1.mem.1]; rfl))
    have HC15 : Hid (KS E S wc s [(n, ⟨rn.iso, rn.count, rn.items, (some (nb, no)), rn.icap, some ⟨kn.hdr, (some (kb, ko)), kn.cap, kn.kids⟩⟩), (l, ⟨rl.iso, (rl.count + 1), (rl.items ++ [md]), (some (gb13, gq13)), gc13, some ⟨kl.hdr, (some (lb, lo)), kl.cap, kl.kids⟩⟩), (q, ⟨rq.iso, rq.count, rq.items, (some (xb, xo)), rq.icap, some ⟨kq.hdr, (some (qb, qo)), kq.cap, kq.kids⟩⟩), (c, rc)] (w13.setCell ⟨l, 1, none⟩ (.int .i64 (rl.count + 1)))) := hidp K6
    clear K6 HK14
    go_wp2_with fail
    have K7 := HC15.out
    generalize (w13.setCell ⟨l, 1, none⟩ (.int .i64 (rl.count + 1))) = w15 at K7 ⊢
    clear HC15 x15_1 f1 hlt
    have HK16 : Hid (KS E S wc s [(n, ⟨rn.iso, rn.count, rn.items, (some (nb, no)), rn.icap, some ⟨kn.hdr, (some (kb, ko)), kn.cap, kn.kids⟩⟩), (l, ⟨rl.iso, (rl.count + 1), (rl.items ++ [md]), (some (gb13, gq13)), gc13, some ⟨kl.hdr, (some (lb, lo)), kl.cap, kl.kids⟩⟩), (q, ⟨rq.iso, rq.count, rq.items, (some (xb, xo)), rq.icap, some ⟨kq.hdr, (some (qb, qo)), kq.cap, kq.kids⟩⟩), (c, rc)] w15) := hidp K7
    clear K7
    as_aux_lemma =>
      have x17_2 : w15.cell? ⟨n, 2, none⟩ = some (.slice (some ⟨nb, no, none⟩) (ln) rn.icap) := by
        have h : w15.cell? ⟨n, 2, none⟩ = some (sv (some (nb, no)) (List.length rn.items) rn.icap) := HK16.out.n0.cell.2.2.2.1
        rw [HLn.out] at h; exact h
      have x17_3 : w15.cell? ⟨q, 2, none⟩ = some (.slice (some ⟨xb, xo, none⟩) (lq) rq.icap) := by
        have h : w15.cell? ⟨q, 2, none⟩ = some (sv (some (xb, xo)) (List.length rq.items) rq.icap) := HK16.out.n2.cell.2.2.2.1
        rw [HLq.out] at h; exact h
      have x17_4 : w15.cell? ⟨xb, xo, none⟩ = some (Value.int .i64 y.1) := M_cell (kitem HK16.out.n2 (b := xb) (o := xo) rfl (i := 0) HY.out).1
      have x17_5 : w15.cell? ⟨xb, xo, none⟩ = some (Value.int .i64 y.1) := M_cell (kitem HK16.out.n2 (b := xb) (o := xo) rfl (i := 0) HY.out).2
      have hb1 : (0 : Int) < (lq : Int) := by omega
      have hcap17 : ln ≤ rn.icap := by have h := HK16.out.n0.wf.2.2.1; rw [HLn.out] at h; exact h
      have ci := (HK16.out.n0.items (b := nb) (o := no) rfl).some (j) (by show j < rn.icap * E.sz; have h2 : E.sz = 1 := rfl; rw [h2]; omega)
      have ci2 := (HK16.out.n0.items (b := nb) (o := no) rfl).some (j) (by show j < rn.icap * E.sz; have h2 : E.sz = 1 := rfl; rw [h2]; omega)
      obtain ⟨z1, hz1'⟩ := Option.isSome_iff_exists.1 ci
      obtain ⟨z2, hz2'⟩ := Option.isSome_iff_exists.1 ci2
      have e1 : w15.cell? ⟨nb, no + j, none⟩ = some z1 := M_cell hz1'
      have e2 : w15.cell? ⟨nb, no + j, none⟩ = some z2 := M_cell hz2'
      have f1 : w15.frozen? ⟨nb, no + j, none⟩ = false := M_froz hz1'
      have f2 : w15.frozen? ⟨nb, no + j, none⟩ = false := M_froz hz2'
      have hu := Upd.one w15 (b := nb) (o := no + j) (Value.int .i64 y.1) (by exact ci2)
      have K6 := HK16.out.n0.set_item (b := nb) (o := no) rfl (i := j) y (by show _ < List.length rn.items; rw [HLn.out]; omega) (by show _ = _ + _ * 1; rw [Nat.mul_one]) hu
      have HL17 : Hid (List.length (List.set rn.items j y) = ln) := hidp (by rw [List.length_set]; exact HLn.out)
      have hblt : nb < w15.heap.size := HK16.out.n0.blt (b := nb) (o := no) rfl
      have HC17 : Hid (KS E S wc s [(n, ⟨rn.iso, rn.count, (List.set rn.items j y), (some (nb, no)), rn.icap, some ⟨kn.hdr, (some (kb, ko)), kn.cap, kn.kids⟩⟩), (l, ⟨rl.iso, (rl.count + 1), (rl.items ++ [md]), (some (gb13, gq13)), gc13, some ⟨kl.hdr, (some (lb, lo)), kl.cap, kl.kids⟩⟩), (q, ⟨rq.iso, rq.count, rq.items, (some (xb, xo)), rq.icap, some ⟨kq.hdr, (some (qb, qo)), kq.cap, kq.kids⟩⟩), (c, rc)] (w15.setCell ⟨nb, no + j, none⟩ (Value.int .i64 y.1))) := hidp K6
      clear ci ci2 hz1' hz2' hu K6 HK16 
      go_wp2_with fail
      refine Last.start_ (S := fun w' => w'.cell? ⟨n, 2, none⟩ = some (.slice (some ⟨nb, no, none⟩) (ln) rn.icap) ∧ w'.cell? ⟨q, 2, none⟩ = some (.slice (some ⟨xb, xo, none⟩) (lq) rq.icap) ∧ w'.cell? ⟨xb, xo, none⟩ = some (Value.int .i64 y.1)) (ds := [12]) #[Z,Z,Z,Z,Z,Z,Z,Z,Z,Z,Z,Z,Z] (by rfl) (by rfl) (by rfl) ?_ (fun hHeld => ?_)
      · go_keep
      refine Last.tk 0 466 #[Y,Z,Z,Z,Z,Z,Z,Z,Z,Z,Z,Z,Z] rfl rfl hHeld ?_
      refine Last.tk 1 467 #[Y,Y,Z,Z,Z,Z,Z,Z,Z,Z,Z,Z,Z] rfl rfl hHeld ?_
      refine Last.tk 2 468 #[Y,Y,Y,Z,Z,Z,Z,Z,Z,Z,Z,Z,Z] rfl rfl hHeld ?_
      refine Last.tk 3 469 #[Y,Y,Y,Y,Z,Z,Z,Z,Z,Z,Z,Z,Z] rfl rfl hHeld ?_
      refine Last.tk 4 470 #[Y,Y,Y,Y,Y,Z,Z,Z,Z,Z,Z,Z,Z] rfl rfl hHeld ?_
      refine Last.tk 5 471 #[Y,Y,Y,Y,Y,Y,Z,Z,Z,Z,Z,Z,Z] rfl rfl hHeld ?_
      refine Last.tk 6 472 #[Y,Y,Y,Y,Y,Y,Y,Z,Z,Z,Z,Z,Z] rfl rfl hHeld ?_
      refine Last.tk 7 473 #[Y,Y,Y,Y,Y,Y,Y,Y,Z,Z,Z,Z,Z] rfl rfl hHeld ?_
      refine Last.tk 8 474 #[Y,Y,Y,Y,Y,Y,Y,Y,Y,Z,Z,Z,Z] rfl rfl hHeld ?_
      refine Last.tk 9 475 #[Y,Y,Y,Y,Y,Y,Y,Y,Y,Y,Z,Z,Z] rfl rfl hHeld ?_
      refine Last.tk 10 476 #[Y,Y,Y,Y,Y,Y,Y,Y,Y,Y,Y,Z,Z] rfl rfl hHeld ?_
      refine Last.tk 11 477 #[Y,Y,Y,Y,Y,Y,Y,Y,Y,Y,Y,Y,Z] rfl rfl hHeld ?_
      refine Last.last_ (i := 12) (N := none) #[Y,Y,Y,Y,Y,Y,Y,Y,Y,Y,Y,Y,Y] rfl rfl (by kernel_rfl) (by decide) (fun K hK => ?_)
      go_simp
      refine hK.out _ _ ?_
      clear hK K
      try simp only [Act.put, setIfInBounds_toArray, set_cons_zero, set_cons_succ]
      refine Last.done_ (by kernel_rfl) ?_
      have K7 := HC17.out.drew
      generalize (w15.setCell ⟨nb, no + j, none⟩ (Value.int .i64 y.1)).drew = w17 at K7 ⊢
      clear HC17 x17_2 x17_3 x17_4 x17_5 e1 e2 f1 f2 hblt 
      have HK18 : Hid (KS E S wc s [(n, ⟨rn.iso, rn.count, (List.set rn.items j y), (some (nb, no)), rn.icap, some ⟨kn.hdr, (some (kb, ko)), kn.cap, kn.kids⟩⟩), (l, ⟨rl.iso, (rl.count + 1), (rl.items ++ [md]), (some (gb13, gq13)), gc13, some ⟨kl.hdr, (some (lb, lo)), kl.cap, kl.kids⟩⟩), (q, ⟨rq.iso, rq.count, rq.items, (some (xb, xo)), rq.icap, some ⟨kq.hdr, (some (qb, qo)), kq.cap, kq.kids⟩⟩), (c, rc)] w17) := hidp K7
      clear K7
      clear hb1
      have x19_2 : w17.cell? ⟨q, 2, none⟩ = some (.slice (some ⟨xb, xo, none⟩) (lq) rq.icap) := by
        have h : w17.cell? ⟨q, 2, none⟩ = some (sv (some (xb, xo)) (List.length rq.items) rq.icap) := HK18.out.n2.cell.2.2.2.1
        rw [HLq.out] at h; exact h
      have hcap19 : lq ≤ rq.icap := by have h := HK18.out.n2.wf.2.2.1; rw [HLq.out] at h; exact h
      have hb1 : (1 : Int) ≤ ((lq : Nat) : Int) := by omega
      go_wp2_with fail
      go_region_held3 (fun w' => w'.cell? ⟨q, 2, none⟩ = some (.slice (some ⟨xb, xo, none⟩) (lq) rq.icap)) (go_keep)
        ((refine step_copy (by rfl) _ _ _ _ (by rfl) 120 i0 1 Try.underlying181 HI0.out HZ1.out xb xo (lq) rq.icap ?hd xb (xo + 1) (lq - 1) (rq.icap - 1) ?hx (itemCells E (List.drop (0 + 1) rq.items)) ?hn (fun j' v hj => ?hs) ?hc (itemCells_one _) ?_
          case hd => (simp [Act.eval]; try omega)
          case hx => (simp [Act.eval]; try omega)
          case hn =>
            have e : Nat.min (lq - 1) (lq) = lq - 1 := Nat.min_eq_left (by omega)
            rw [itemCells_length, List.length_drop, HLq.out, e]; rfl
          case hs =>
            have h := HK18.out.drew.n2.src (b := xb) (o := xo) (i := 0 + 1) (m := []) rfl (List.append_nil _).symm (by rw [HLq.out]; omega) hj
            exact h
          case hc =>
            intro j' hj
            rw [itemCells_length, List.length_drop, HLq.out] at hj
            exact (HK18.out.drew.n2.items (b := xb) (o := xo) rfl).some j' (by show j' < rq.icap * E.sz; have h2 : E.sz = 1 := rfl; rw [h2] at hj ⊢; omega)
          intro w19a hu6
          have K6 := HK18.out.drew.n2.set_items (b := xb) (o := xo) rfl (i := 0) (List.drop (0 + 1) rq.items) (by show _ ≤ List.length rq.items; rw [List.length_drop, HLq.out]; omega) (by simp) hu6
          have HL19 : Hid (List.length (List.take 0 rq.items ++ List.drop (0 + 1) rq.items ++ List.drop (0 + (List.drop (0 + 1) rq.items).length) rq.items) = lq) := hidp (by simp only [List.length_append, List.length_take, List.length_drop, HLq.out]; omega)
          have HC19 : Hid (KS E S wc s [(n, ⟨rn.iso, rn.count, (List.set rn.items j y), (some (nb, no)), rn.icap, some ⟨kn.hdr, (some (kb, ko)), kn.cap, kn.kids⟩⟩), (l, ⟨rl.iso, (rl.count + 1), (rl.items ++ [md]), (some (gb13, gq13)), gc13, some ⟨kl.hdr, (some (lb, lo)), kl.cap, kl.kids⟩⟩), (q, ⟨rq.iso, rq.count, (List.take 0 rq.items ++ List.drop (0 + 1) rq.items ++ List.drop (0 + (List.drop (0 + 1) rq.items).length) rq.items), (some (xb, xo)), rq.icap, some ⟨kq.hdr, (some (qb, qo)), kq.cap, kq.kids⟩⟩), (c, rc)] w19a) := hidp K6
          clear K6 hu6
          have y19_2 : w19a.cell? ⟨q, 2, none⟩ = some (.slice (some ⟨xb, xo, none⟩) (lq) rq.icap) := by
            have h : w19a.cell? ⟨q, 2, none⟩ = some (sv (some (xb, xo)) (List.length (List.take 0 rq.items ++ List.drop (0 + 1) rq.items ++ List.drop (0 + (List.drop (0 + 1) rq.items).length) rq.items)) rq.icap) := HC19.out.n2.cell.2.2.2.1
            rw [HL19.out] at h; exact h))
      generalize (if rq.icap = 1 then (some ⟨xb, xo, none⟩ : Option Addr) else some ⟨xb, xo + 1, none⟩) = zz19
      clear HK18 x19_2 hb1
      clear y19_2
      have x20_2 : w19a.cell? ⟨q, 2, none⟩ = some (.slice (some ⟨xb, xo, none⟩) (lq) rq.icap) := by
        have h : w19a.cell? ⟨q, 2, none⟩ = some (sv (some (xb, xo)) (List.length (List.take 0 rq.items ++ List.drop (0 + 1) rq.items ++ List.drop (0 + (List.drop (0 + 1) rq.items).length) rq.items)) rq.icap) := HC19.out.n2.cell.2.2.2.1
        rw [HL19.out] at h; exact h
      have x20_4 : w19a.cell? ⟨s.m, 4, none⟩ = some (Value.int .i64 0) := HC19.out.map.1.cell 4 rfl
      have x20_5 : w19a.cell? ⟨s.m, 4, none⟩ = some (Value.int .i64 0) := HC19.out.map.1.cell 4 rfl
      have hcap20 : lq ≤ rq.icap := by have h := HC19.out.n2.wf.2.2.1; rw [HL19.out] at h; exact h
      have ci := (HC19.out.n2.items (b := xb) (o := xo) rfl).some (pq) (by show pq < rq.icap * E.sz; have h2 : E.sz = 1 := rfl; rw [h2]; omega)
      have ci2 := (HC19.out.n2.items (b := xb) (o := xo) rfl).some (pq) (by show pq < rq.icap * E.sz; have h2 : E.sz = 1 := rfl; rw [h2]; omega)
      obtain ⟨z1, hz1'⟩ := Option.isSome_iff_exists.1 ci
      obtain ⟨z2, hz2'⟩ := Option.isSome_iff_exists.1 ci2
      have e1 : w19a.cell? ⟨xb, xo + pq, none⟩ = some z1 := M_cell hz1'
      have e2 : w19a.cell? ⟨xb, xo + pq, none⟩ = some z2 := M_cell hz2'
      have f1 : w19a.frozen? ⟨xb, xo + pq, none⟩ = false := M_froz hz1'
      have f2 : w19a.frozen? ⟨xb, xo + pq, none⟩ = false := M_froz hz2'
      have hu := Upd.one w19a (b := xb) (o := xo + pq) (Value.int .i64 0) (by exact ci2)
      have K6 := HC19.out.n2.set_item (b := xb) (o := xo) rfl (i := pq) ((0 : Int), ()) (by show _ < List.length (List.take 0 rq.items ++ List.drop (0 + 1) rq.items ++ List.drop (0 + (List.drop (0 + 1) rq.items).length) rq.items); rw [HL19.out]; omega) (by show _ = _ + _ * 1; rw [Nat.mul_one]) hu
      have HL20 : Hid (List.length (List.set (List.take 0 rq.items ++ List.drop (0 + 1) rq.items ++ List.drop (0 + (List.drop (0 + 1) rq.items).length) rq.items) pq ((0 : Int), ())) = lq) := hidp (by rw [List.length_set]; exact HL19.out)
      have hblt : xb < w19a.heap.size := HC19.out.n2.blt (b := xb) (o := xo) rfl
      have hw1 : IntKind.i64.wrap (((lq : Nat) : Int) - 1) = (pq : Int) := by rw [Last.i64_w, IntWalk.wrap64_in _ ⟨by omega, by omega⟩]; omega
      have hb1 : (pq : Int) < ((lq : Nat) : Int) := by omega
      have hb2 : (pq : Int) ≤ ((lq : Nat) : Int) := by omega
      have HC20 : Hid (KS E S wc s [(n, ⟨rn.iso, rn.count, (List.set rn.items j y), (some (nb, no)), rn.icap, some ⟨kn.hdr, (some (kb, ko)), kn.cap, kn.kids⟩⟩), (l, ⟨rl.iso, (rl.count + 1), (rl.items ++ [md]), (some (gb13, gq13)), gc13, some ⟨kl.hdr, (some (lb, lo)), kl.cap, kl.kids⟩⟩), (q, ⟨rq.iso, rq.count, (List.set (List.take 0 rq.items ++ List.drop (0 + 1) rq.items ++ List.drop (0 + (List.drop (0 + 1) rq.items).length) rq.items) pq ((0 : Int), ())), (some (xb, xo)), rq.icap, some ⟨kq.hdr, (some (qb, qo)), kq.cap, kq.kids⟩⟩), (c, rc)] (w19a.setCell ⟨xb, xo + pq, none⟩ (Value.int .i64 0))) := hidp K6
      clear ci ci2 hz1' hz2' hu K6 HC19
      go_wp2_with fail
      refine Last.start_ (S := fun w' => w'.cell? ⟨q, 2, none⟩ = some (.slice (some ⟨xb, xo, none⟩) (lq) rq.icap) ∧ w'.cell? ⟨s.m, 4, none⟩ = some (Value.int .i64 0)) (ds := [15]) #[Z,Z,Z,Z,Z,Z,Z,Z,Z,Z,Z,Z,Z,Z,Z,Z] (by rfl) (by rfl) (by rfl) ?_ (fun hHeld => ?_)
      · go_keep
      refine Last.tk 0 488 #[Y,Z,Z,Z,Z,Z,Z,Z,Z,Z,Z,Z,Z,Z,Z,Z] rfl rfl hHeld ?_
      refine Last.tk 1 489 #[Y,Y,Z,Z,Z,Z,Z,Z,Z,Z,Z,Z,Z,Z,Z,Z] rfl rfl hHeld ?_
      refine Last.tk 2 490 #[Y,Y,Y,Z,Z,Z,Z,Z,Z,Z,Z,Z,Z,Z,Z,Z] rfl rfl hHeld ?_
      refine Last.tk 3 491 #[Y,Y,Y,Y,Z,Z,Z,Z,Z,Z,Z,Z,Z,Z,Z,Z] rfl rfl hHeld ?_
      refine Last.tk 4 492 #[Y,Y,Y,Y,Y,Z,Z,Z,Z,Z,Z,Z,Z,Z,Z,Z] rfl rfl hHeld ?_
      refine Last.tk 5 493 #[Y,Y,Y,Y,Y,Y,Z,Z,Z,Z,Z,Z,Z,Z,Z,Z] rfl rfl hHeld ?_
      refine Last.tk 6 494 #[Y,Y,Y,Y,Y,Y,Y,Z,Z,Z,Z,Z,Z,Z,Z,Z] rfl rfl hHeld ?_
      refine Last.tk 7 495 #[Y,Y,Y,Y,Y,Y,Y,Y,Z,Z,Z,Z,Z,Z,Z,Z] rfl rfl hHeld ?_
      refine Last.tk 8 496 #[Y,Y,Y,Y,Y,Y,Y,Y,Y,Z,Z,Z,Z,Z,Z,Z] rfl rfl hHeld ?_
      refine Last.tk 9 497 #[Y,Y,Y,Y,Y,Y,Y,Y,Y,Y,Z,Z,Z,Z,Z,Z] rfl rfl hHeld ?_
      refine Last.tk 10 498 #[Y,Y,Y,Y,Y,Y,Y,Y,Y,Y,Y,Z,Z,Z,Z,Z] rfl rfl hHeld ?_
      refine Last.tk 11 499 #[Y,Y,Y,Y,Y,Y,Y,Y,Y,Y,Y,Y,Z,Z,Z,Z] rfl rfl hHeld ?_
      refine Last.tk 12 500 #[Y,Y,Y,Y,Y,Y,Y,Y,Y,Y,Y,Y,Y,Z,Z,Z] rfl rfl hHeld ?_
      refine Last.tk 13 501 #[Y,Y,Y,Y,Y,Y,Y,Y,Y,Y,Y,Y,Y,Y,Z,Z] rfl rfl hHeld ?_
      refine Last.tk 14 502 #[Y,Y,Y,Y,Y,Y,Y,Y,Y,Y,Y,Y,Y,Y,Y,Z] rfl rfl hHeld ?_
      refine Last.last_ (i := 15) (N := none) #[Y,Y,Y,Y,Y,Y,Y,Y,Y,Y,Y,Y,Y,Y,Y,Y] rfl rfl (by kernel_rfl) (by decide) (fun K hK => ?_)
      go_simp
      refine hK.out _ _ ?_
      clear hK K
      try simp only [Act.put, setIfInBounds_toArray, set_cons_zero, set_cons_succ]
      refine Last.done_ (by kernel_rfl) ?_
      have K7 := HC20.out.drew
      generalize (w19a.setCell ⟨xb, xo + pq, none⟩ (Value.int .i64 0)).drew = w20 at K7 ⊢
      clear HC20 x20_2 x20_4 x20_5 e1 e2 f1 f2 hblt
      have HK21 : Hid (KS E S wc s [(n, ⟨rn.iso, rn.count, (List.set rn.items j y), (some (nb, no)), rn.icap, some ⟨kn.hdr, (some (kb, ko)), kn.cap, kn.kids⟩⟩), (l, ⟨rl.iso, (rl.count + 1), (rl.items ++ [md]), (some (gb13, gq13)), gc13, some ⟨kl.hdr, (some (lb, lo)), kl.cap, kl.kids⟩⟩), (q, ⟨rq.iso, rq.count, (List.set (List.take 0 rq.items ++ List.drop (0 + 1) rq.items ++ List.drop (0 + (List.drop (0 + 1) rq.items).length) rq.items) pq ((0 : Int), ())), (some (xb, xo)), rq.icap, some ⟨kq.hdr, (some (qb, qo)), kq.cap, kq.kids⟩⟩), (c, rc)] w20) := hidp K7
      clear K7
      have x22_2 : w20.cell? ⟨q, 2, none⟩ = some (.slice (some ⟨xb, xo, none⟩) (lq) rq.icap) := by
        have h : w20.cell? ⟨q, 2, none⟩ = some (sv (some (xb, xo)) (List.length (List.set (List.take 0 rq.items ++ List.drop (0 + 1) rq.items ++ List.drop (0 + (List.drop (0 + 1) rq.items).length) rq.items) pq ((0 : Int), ()))) rq.icap) := HK21.out.n2.cell.2.2.2.1
        rw [HL20.out] at h; exact h
      have f2 := M_froz HK21.out.n2.mem.2
      have hlt : q < w20.heap.size := HK21.out.n2.cell.1
      have hcp : lq ≤ rq.icap := by have h := HK21.out.n2.wf.2.2.1; rw [HL20.out] at h; exact h
      have hcc : ¬ rq.icap < pq := by omega
      have hcd : (pq : Int) ≤ (rq.icap : Int) := by omega
      have K6 := HK21.out.n2.take_items (k := pq) (by show _ ≤ List.length (List.set (List.take 0 rq.items ++ List.drop (0 + 1) rq.items ++ List.drop (0 + (List.drop (0 + 1) rq.items).length) rq.items) pq ((0 : Int), ())); rw [HL20.out]; omega) (Upd.one w20 (b := q) (o := 2) (.slice (some ⟨xb, xo, none⟩) pq rq.icap) (by rw [HK21.out.n2.mem.2]; rfl))
      have HL22 : Hid (List.length (List.take pq (List.set (List.take 0 rq.items ++ List.drop (0 + 1) rq.items ++ List.drop (0 + (List.drop (0 + 1) rq.items).length) rq.items) pq ((0 : Int), ()))) = pq) := hidp (by rw [List.length_take, HL20.out]; omega)
      have HC22 : Hid (KS E S wc s [(n, ⟨rn.iso, rn.count, (List.set rn.items j y), (some (nb, no)), rn.icap, some ⟨kn.hdr, (some (kb, ko)), kn.cap, kn.kids⟩⟩), (l, ⟨rl.iso, (rl.count + 1), (rl.items ++ [md]), (some (gb13, gq13)), gc13, some ⟨kl.hdr, (some (lb, lo)), kl.cap, kl.kids⟩⟩), (q, ⟨rq.iso, rq.count, (List.take pq (List.set (List.take 0 rq.items ++ List.drop (0 + 1) rq.items ++ List.drop (0 + (List.drop (0 + 1) rq.items).length) rq.items) pq ((0 : Int), ()))), (some (xb, xo)), rq.icap, some ⟨kq.hdr, (some (qb, qo)), kq.cap, kq.kids⟩⟩), (c, rc)] (w20.setCell ⟨q, 2, none⟩ (.slice (some ⟨xb, xo, none⟩) pq rq.icap))) := hidp K6
      clear K6 HK21
      go_wp2_with fail
      refine Last.start_ (S := fun w' => w'.cell? ⟨q, 2, none⟩ = some (.slice (some ⟨xb, xo, none⟩) (lq) rq.icap)) (ds := [14]) #[Z,Z,Z,Z,Z,Z,Z,Z,Z,Z,Z,Z,Z,Z,Z] (by rfl) (by rfl) (by rfl) ?_ (fun hHeld => ?_)
      · go_keep
      refine Last.tk 0 503 #[Y,Z,Z,Z,Z,Z,Z,Z,Z,Z,Z,Z,Z,Z,Z] rfl rfl hHeld ?_
      refine Last.tk 1 504 #[Y,Y,Z,Z,Z,Z,Z,Z,Z,Z,Z,Z,Z,Z,Z] rfl rfl hHeld ?_
      refine Last.tk 2 505 #[Y,Y,Y,Z,Z,Z,Z,Z,Z,Z,Z,Z,Z,Z,Z] rfl rfl hHeld ?_
      refine Last.tk 3 506 #[Y,Y,Y,Y,Z,Z,Z,Z,Z,Z,Z,Z,Z,Z,Z] rfl rfl hHeld ?_
      refine Last.tk 4 507 #[Y,Y,Y,Y,Y,Z,Z,Z,Z,Z,Z,Z,Z,Z,Z] rfl rfl hHeld ?_
      refine Last.tk 5 508 #[Y,Y,Y,Y,Y,Y,Z,Z,Z,Z,Z,Z,Z,Z,Z] rfl rfl hHeld ?_
      refine Last.tk 6 509 #[Y,Y,Y,Y,Y,Y,Y,Z,Z,Z,Z,Z,Z,Z,Z] rfl rfl hHeld ?_
      refine Last.tk 7 510 #[Y,Y,Y,Y,Y,Y,Y,Y,Z,Z,Z,Z,Z,Z,Z] rfl rfl hHeld ?_
      refine Last.tk 8 511 #[Y,Y,Y,Y,Y,Y,Y,Y,Y,Z,Z,Z,Z,Z,Z] rfl rfl hHeld ?_
      refine Last.tk 9 512 #[Y,Y,Y,Y,Y,Y,Y,Y,Y,Y,Z,Z,Z,Z,Z] rfl rfl hHeld ?_
      refine Last.tk 10 513 #[Y,Y,Y,Y,Y,Y,Y,Y,Y,Y,Y,Z,Z,Z,Z] rfl rfl hHeld ?_
      refine Last.tk 11 514 #[Y,Y,Y,Y,Y,Y,Y,Y,Y,Y,Y,Y,Z,Z,Z] rfl rfl hHeld ?_
      refine Last.tk 12 515 #[Y,Y,Y,Y,Y,Y,Y,Y,Y,Y,Y,Y,Y,Z,Z] rfl rfl hHeld ?_
      refine Last.tk 13 516 #[Y,Y,Y,Y,Y,Y,Y,Y,Y,Y,Y,Y,Y,Y,Z] rfl rfl hHeld ?_
      refine Last.last_ (i := 14) (N := none) #[Y,Y,Y,Y,Y,Y,Y,Y,Y,Y,Y,Y,Y,Y,Y] rfl rfl (by kernel_rfl) (by decide) (fun K hK => ?_)
      go_simp
      refine hK.out _ _ ?_
      clear hK K
      try simp only [Act.put, setIfInBounds_toArray, set_cons_zero, set_cons_succ]
      refine Last.done_ (by kernel_rfl) ?_
      have K7 := HC22.out.drew
      generalize (w20.setCell ⟨q, 2, none⟩ (.slice (some ⟨xb, xo, none⟩) pq rq.icap)).drew = w22 at K7 ⊢
      clear HC22 x22_2 f2 hlt hcc hcd hcp
      have hsh : (List.take pq (List.set (List.take 0 rq.items ++ List.drop (0 + 1) rq.items ++ List.drop (0 + (List.drop (0 + 1) rq.items).length) rq.items) pq ((0 : Int), ()))) = (List.drop 1 rq.items) := cut_shift (j := 0) (HLq.out.trans HPQ.out) (Nat.zero_le _)
      have HLs22 : Hid (List.length (List.drop 1 rq.items) = pq) := hidp (by rw [← hsh]; exact HL22.out)
      rw [hsh] at K7
      have HK23 : Hid (KS E S wc s [(n, ⟨rn.iso, rn.count, (List.set rn.items j y), (some (nb, no)), rn.icap, some ⟨kn.hdr, (some (kb, ko)), kn.cap, kn.kids⟩⟩), (l, ⟨rl.iso, (rl.count + 1), (rl.items ++ [md]), (some (gb13, gq13)), gc13, some ⟨kl.hdr, (some (lb, lo)), kl.cap, kl.kids⟩⟩), (q, ⟨rq.iso, rq.count, (List.drop 1 rq.items), (some (xb, xo)), rq.icap, some ⟨kq.hdr, (some (qb, qo)), kq.cap, kq.kids⟩⟩), (c, rc)] w22) := hidp K7
      clear K7 hsh
      clear hw1 hb1 hb2
      as_aux_lemma =>
        have x24_1 : w22.cell? ⟨q, 1, none⟩ = some (.int .i64 rq.count) := HK23.out.n2.cell.2.2.1
        have f1 := M_froz HK23.out.n2.mem.1
        have hlt : q < w22.heap.size := HK23.out.n2.cell.1
        have K6 := HK23.out.n2.count (rq.count - 1) (Upd.one w22 (b := q) (o := 1) (.int .i64 (rq.count - 1)) (by rw [HK23.out.n2.mem.1]; rfl))
        have HC24 : Hid (KS E S wc s [(n, ⟨rn.iso, rn.count, (List.set rn.items j y), (some (nb, no)), rn.icap, some ⟨kn.hdr, (some (kb, ko)), kn.cap, kn.kids⟩⟩), (l, ⟨rl.iso, (rl.count + 1), (rl.items ++ [md]), (some (gb13, gq13)), gc13, some ⟨kl.hdr, (some (lb, lo)), kl.cap, kl.kids⟩⟩), (q, ⟨rq.iso, (rq.count - 1), (List.drop 1 rq.items), (some (xb, xo)), rq.icap, some ⟨kq.hdr, (some (qb, qo)), kq.cap, kq.kids⟩⟩), (c, rc)] (w22.setCell ⟨q, 1, none⟩ (.int .i64 (rq.count - 1)))) := hidp K6
        clear K6 HK23
        go_wp2_with fail
        have K7 := HC24.out
        generalize (w22.setCell ⟨q, 1, none⟩ (.int .i64 (rq.count - 1))) = w24 at K7 ⊢
        clear HC24 x24_1 f1 hlt
        have HK25 : Hid (KS E S wc s [(n, ⟨rn.iso, rn.count, (List.set rn.items j y), (some (nb, no)), rn.icap, some ⟨kn.hdr, (some (kb, ko)), kn.cap, kn.kids⟩⟩), (l, ⟨rl.iso, (rl.count + 1), (rl.items ++ [md]), (some (gb13, gq13)), gc13, some ⟨kl.hdr, (some (lb, lo)), kl.cap, kl.kids⟩⟩), (q, ⟨rq.iso, (rq.count - 1), (List.drop 1 rq.items), (some (xb, xo)), rq.icap, some ⟨kq.hdr, (some (qb, qo)), kq.cap, kq.kids⟩⟩), (c, rc)] w24) := hidp K7
        clear K7
        have c3 : w24.cell? ⟨l, 3, none⟩ = some (pv (some kl.hdr)) := HK25.out.n1.cell.2.2.2.2
        go_wp2_with fail
        refine (leaf_raw c3).mono ?_
        rintro e w' ⟨rfl, rfl⟩
        clear c3
        have x26a3 : w24.cell? ⟨l, 3, none⟩ = some (.pointer (some ⟨kl.hdr, 0, none⟩)) := HK25.out.n1.cell.2.2.2.2
        have x26ah : w24.cell? ⟨kl.hdr, 0, none⟩ = some (.slice (some ⟨lb, lo, none⟩) (jl) kl.cap) := by
          have h : w24.cell? ⟨kl.hdr, 0, none⟩ = some (sv (some (lb, lo)) (List.length kl.kids) kl.cap) := M_cell (HK25.out.n1.hdr (k := ⟨kl.hdr, (some (lb, lo)), kl.cap, kl.kids⟩) rfl).2
          rw [HNl.out] at h; exact h
        have x26c3 : w24.cell? ⟨q, 3, none⟩ = some (.pointer (some ⟨kq.hdr, 0, none⟩)) := HK25.out.n2.cell.2.2.2.2
        have x26ch : w24.cell? ⟨kq.hdr, 0, none⟩ = some (.slice (some ⟨qb, qo, none⟩) (jq) kq.cap) := by
          have h : w24.cell? ⟨kq.hdr, 0, none⟩ = some (sv (some (qb, qo)) (List.length kq.kids) kq.cap) := M_cell (HK25.out.n2.hdr (k := ⟨kq.hdr, (some (qb, qo)), kq.cap, kq.kids⟩) rfl).2
          rw [HNq.out] at h; exact h
        have x26k : w24.cell? ⟨qb, qo, none⟩ = some (.pointer (some ⟨c, 0, none⟩)) := M_cell (HK25.out.n2.kid (k := ⟨kq.hdr, (some (qb, qo)), kq.cap, kq.kids⟩) rfl (b := qb) (o := qo) rfl (i := 0) HCK.out)
        go_wp2_with fail
        refine Last.start_ (S := fun w' => w'.cell? ⟨l, 3, none⟩ = some (.pointer (some ⟨kl.hdr, 0, none⟩)) ∧ w'.cell? ⟨kl.hdr, 0, none⟩ = some (.slice (some ⟨lb, lo, none⟩) (jl) kl.cap) ∧ w'.cell? ⟨q, 3, none⟩ = some (.pointer (some ⟨kq.hdr, 0, none⟩)) ∧ w'.cell? ⟨kq.hdr, 0, none⟩ = some (.slice (some ⟨qb, qo, none⟩) (jq) kq.cap) ∧ w'.cell? ⟨qb, qo, none⟩ = some (.pointer (some ⟨c, 0, none⟩))) (ds := [21]) #[Z,Z,Z,Z,Z,Z,Z,Z,Z,Z,Z,Z,Z,Z,Z,Z,Z,Z,Z,Z,Z,Z] (by rfl) (by rfl) (by rfl) ?_ (fun hHeld => ?_)
        · go_keep
        refine Last.tk 0 527 #[Y,Z,Z,Z,Z,Z,Z,Z,Z,Z,Z,Z,Z,Z,Z,Z,Z,Z,Z,Z,Z,Z] rfl rfl hHeld ?_
        refine Last.tk 1 528 #[Y,Y,Z,Z,Z,Z,Z,Z,Z,Z,Z,Z,Z,Z,Z,Z,Z,Z,Z,Z,Z,Z] rfl rfl hHeld ?_
        refine Last.tk 2 529 #[Y,Y,Y,Z,Z,Z,Z,Z,Z,Z,Z,Z,Z,Z,Z,Z,Z,Z,Z,Z,Z,Z] rfl rfl hHeld ?_
        refine Last.tk 3 530 #[Y,Y,Y,Y,Z,Z,Z,Z,Z,Z,Z,Z,Z,Z,Z,Z,Z,Z,Z,Z,Z,Z] rfl rfl hHeld ?_
        refine Last.tk 4 531 #[Y,Y,Y,Y,Y,Z,Z,Z,Z,Z,Z,Z,Z,Z,Z,Z,Z,Z,Z,Z,Z,Z] rfl rfl hHeld ?_
        refine Last.tk 5 532 #[Y,Y,Y,Y,Y,Y,Z,Z,Z,Z,Z,Z,Z,Z,Z,Z,Z,Z,Z,Z,Z,Z] rfl rfl hHeld ?_
        refine Last.tk 6 533 #[Y,Y,Y,Y,Y,Y,Y,Z,Z,Z,Z,Z,Z,Z,Z,Z,Z,Z,Z,Z,Z,Z] rfl rfl hHeld ?_
        refine Last.tk 7 534 #[Y,Y,Y,Y,Y,Y,Y,Y,Z,Z,Z,Z,Z,Z,Z,Z,Z,Z,Z,Z,Z,Z] rfl rfl hHeld ?_
        refine Last.tk 8 535 #[Y,Y,Y,Y,Y,Y,Y,Y,Y,Z,Z,Z,Z,Z,Z,Z,Z,Z,Z,Z,Z,Z] rfl rfl hHeld ?_
        refine Last.tk 9 536 #[Y,Y,Y,Y,Y,Y,Y,Y,Y,Y,Z,Z,Z,Z,Z,Z,Z,Z,Z,Z,Z,Z] rfl rfl hHeld ?_
        refine Last.tk 10 537 #[Y,Y,Y,Y,Y,Y,Y,Y,Y,Y,Y,Z,Z,Z,Z,Z,Z,Z,Z,Z,Z,Z] rfl rfl hHeld ?_
        refine Last.tk 11 538 #[Y,Y,Y,Y,Y,Y,Y,Y,Y,Y,Y,Y,Z,Z,Z,Z,Z,Z,Z,Z,Z,Z] rfl rfl hHeld ?_
        refine Last.tk 12 539 #[Y,Y,Y,Y,Y,Y,Y,Y,Y,Y,Y,Y,Y,Z,Z,Z,Z,Z,Z,Z,Z,Z] rfl rfl hHeld ?_
        refine Last.tk 13 540 #[Y,Y,Y,Y,Y,Y,Y,Y,Y,Y,Y,Y,Y,Y,Z,Z,Z,Z,Z,Z,Z,Z] rfl rfl hHeld ?_
        refine Last.tk 14 541 #[Y,Y,Y,Y,Y,Y,Y,Y,Y,Y,Y,Y,Y,Y,Y,Z,Z,Z,Z,Z,Z,Z] rfl rfl hHeld ?_
        refine Last.tk 15 542 #[Y,Y,Y,Y,Y,Y,Y,Y,Y,Y,Y,Y,Y,Y,Y,Y,Z,Z,Z,Z,Z,Z] rfl rfl hHeld ?_
        refine Last.tk 16 543 #[Y,Y,Y,Y,Y,Y,Y,Y,Y,Y,Y,Y,Y,Y,Y,Y,Y,Z,Z,Z,Z,Z] rfl rfl hHeld ?_
        refine Last.tk 17 544 #[Y,Y,Y,Y,Y,Y,Y,Y,Y,Y,Y,Y,Y,Y,Y,Y,Y,Y,Z,Z,Z,Z] rfl rfl hHeld ?_
        refine Last.one_ (i := 18) (N := some 545) #[Y,Y,Y,Y,Y,Y,Y,Y,Y,Y,Y,Y,Y,Y,Y,Y,Y,Y,Y,Z,Z,Z] rfl rfl (by kernel_rfl) (by decide) (fun K hK => ?_)
        go_simp
        refine hK.out _ _ ?_ (fun hHeld => ?_)
        · (try dsimp only); go_keep
        clear hK K
        try simp only [Act.put, setIfInBounds_toArray, set_cons_zero, set_cons_succ]
        refine Last.one_ (i := 19) (N := some 546) #[Y,Y,Y,Y,Y,Y,Y,Y,Y,Y,Y,Y,Y,Y,Y,Y,Y,Y,Y,Y,Z,Z] rfl rfl (by kernel_rfl) (by decide) (fun K hK => ?_)
        refine step_app (by rfl) _ _ _ (by rfl) 118 j0 _ 1 8 Try.underlying185 HJ0.out HY0.out HY1.out HY2.out rfl (by decide) (some (lb, lo)) (jl) kl.cap ((kl.kids).map pv) (by rfl) (fun h => absurd h (by simp)) (by rw [List.length_map, HNl.out, Nat.mul_one])
          (fun b o hb => by cases hb; rw [Nat.mul_one]; exact (show KS E S wc s ([(n, ⟨rn.iso, rn.count, (List.set rn.items j y), (some (nb, no)), rn.icap, some ⟨kn.hdr, (some (kb, ko)), kn.cap, kn.kids⟩⟩)] ++ (l, ⟨rl.iso, (rl.count + 1), (rl.items ++ [md]), (some (gb13, gq13)), gc13, some ⟨kl.hdr, (some (lb, lo)), kl.cap, kl.kids⟩⟩) :: [(q, ⟨rq.iso, (rq.count - 1), (List.drop 1 rq.items), (some (xb, xo)), rq.icap, some ⟨kq.hdr, (some (qb, qo)), kq.cap, kq.kids⟩⟩), (c, rc)]) _ from (HK25.out.drew.alloc (.cells #[.pointer (some ⟨c, 0, none⟩)] 118))).arr (k := ⟨kl.hdr, (some (lb, lo)), kl.cap, kl.kids⟩) rfl rfl) ⟨w24.heap.size, 0, none⟩ 1 1 [.pointer (some ⟨c, 0, none⟩)] (by rfl) (by decide) (by rfl) (fun j' u hj => by rw [Addr.add_lit, Nat.zero_add]; exact (Bx.new (w24.drew) [.pointer (some ⟨c, 0, none⟩)] 118).cell j' hj) (by simp [Value.oneCell']) (by unfold maxLen; omega) (by omega) ?_
        intro v' w26a happ
        obtain ⟨gb26, gq26, gc26, rfl⟩ := happ.form
        have K4 : KS E S wc s [(n, ⟨rn.iso, rn.count, (List.set rn.items j y), (some (nb, no)), rn.icap, some ⟨kn.hdr, (some (kb, ko)), kn.cap, kn.kids⟩⟩), (l, ⟨rl.iso, (rl.count + 1), (rl.items ++ [md]), (some (gb13, gq13)), gc13, some ⟨kl.hdr, (some (lb, lo)), kl.cap, kl.kids⟩⟩), (q, ⟨rq.iso, (rq.count - 1), (List.drop 1 rq.items), (some (xb, xo)), rq.icap, some ⟨kq.hdr, (some (qb, qo)), kq.cap, kq.kids⟩⟩), (c, rc)] w26a := (show KS E S wc s ([(n, ⟨rn.iso, rn.count, (List.set rn.items j y), (some (nb, no)), rn.icap, some ⟨kn.hdr, (some (kb, ko)), kn.cap, kn.kids⟩⟩)] ++ (l, ⟨rl.iso, (rl.count + 1), (rl.items ++ [md]), (some (gb13, gq13)), gc13, some ⟨kl.hdr, (some (lb, lo)), kl.cap, kl.kids⟩⟩) :: [(q, ⟨rq.iso, (rq.count - 1), (List.drop 1 rq.items), (some (xb, xo)), rq.icap, some ⟨kq.hdr, (some (qb, qo)), kq.cap, kq.kids⟩⟩), (c, rc)]) _ from (HK25.out.drew.alloc (.cells #[.pointer (some ⟨c, 0, none⟩)] 118))).appk_keep (k := ⟨kl.hdr, (some (lb, lo)), kl.cap, kl.kids⟩) rfl HNl.out (by rfl) happ
        have y26a3 : w26a.cell? ⟨l, 3, none⟩ = some (.pointer (some ⟨kl.hdr, 0, none⟩)) := K4.n1.cell.2.2.2.2
        have y26ah : w26a.cell? ⟨kl.hdr, 0, none⟩ = some (.slice (some ⟨lb, lo, none⟩) (jl) kl.cap) := by
          have h : w26a.cell? ⟨kl.hdr, 0, none⟩ = some (sv (some (lb, lo)) (List.length kl.kids) kl.cap) := M_cell (K4.n1.hdr (k := ⟨kl.hdr, (some (lb, lo)), kl.cap, kl.kids⟩) rfl).2
          rw [HNl.out] at h; exact h
        have y26c3 : w26a.cell? ⟨q, 3, none⟩ = some (.pointer (some ⟨kq.hdr, 0, none⟩)) := K4.n2.cell.2.2.2.2
        have y26ch : w26a.cell? ⟨kq.hdr, 0, none⟩ = some (.slice (some ⟨qb, qo, none⟩) (jq) kq.cap) := by
          have h : w26a.cell? ⟨kq.hdr, 0, none⟩ = some (sv (some (qb, qo)) (List.length kq.kids) kq.cap) := M_cell (K4.n2.hdr (k := ⟨kq.hdr, (some (qb, qo)), kq.cap, kq.kids⟩) rfl).2
          rw [HNq.out] at h; exact h
        have y26k : w26a.cell? ⟨qb, qo, none⟩ = some (.pointer (some ⟨c, 0, none⟩)) := M_cell (K4.n2.kid (k := ⟨kq.hdr, (some (qb, qo)), kq.cap, kq.kids⟩) rfl (b := qb) (o := qo) rfl (i := 0) HCK.out)
        have f2 := M_froz (K4.n1.hdr (k := ⟨kl.hdr, (some (lb, lo)), kl.cap, kl.kids⟩) rfl).2
        have HA4 := hidp (And.intro happ K4)
        clear happ K4
        refine hK.out _ _ ?_ (fun hHeld => ?_)
        · (try dsimp only); go_keep
        clear hK K
        try simp only [Act.put, setIfInBounds_toArray, set_cons_zero, set_cons_succ]
        refine Last.tk 20 547 #[Y,Y,Y,Y,Y,Y,Y,Y,Y,Y,Y,Y,Y,Y,Y,Y,Y,Y,Y,Y,Y,Z] rfl rfl hHeld ?_
        refine Last.last_ (i := 21) (N := none) #[Y,Y,Y,Y,Y,Y,Y,Y,Y,Y,Y,Y,Y,Y,Y,Y,Y,Y,Y,Y,Y,Y] rfl rfl (by kernel_rfl) (by decide) (fun K hK => ?_)
        go_simp
        refine hK.out _ _ ?_
        clear hK K
        try simp only [Act.put, setIfInBounds_toArray, set_cons_zero, set_cons_succ]
        refine Last.done_ (by kernel_rfl) ?_
        obtain ⟨happ, K4⟩ := HA4.out
        obtain ⟨kb', kc', hv5, K5⟩ := (show KS E S wc s ([(n, ⟨rn.iso, rn.count, (List.set rn.items j y), (some (nb, no)), rn.icap, some ⟨kn.hdr, (some (kb, ko)), kn.cap, kn.kids⟩⟩)] ++ (l, ⟨rl.iso, (rl.count + 1), (rl.items ++ [md]), (some (gb13, gq13)), gc13, some ⟨kl.hdr, (some (lb, lo)), kl.cap, kl.kids⟩⟩) :: [(q, ⟨rq.iso, (rq.count - 1), (List.drop 1 rq.items), (some (xb, xo)), rq.icap, some ⟨kq.hdr, (some (qb, qo)), kq.cap, kq.kids⟩⟩), (c, rc)]) _ from (HK25.out.drew.alloc (.cells #[.pointer (some ⟨c, 0, none⟩)] 118))).app_kids (k := ⟨kl.hdr, (some (lb, lo)), kl.cap, kl.kids⟩) rfl [some c] HNl.out rfl happ (Upd.one w26a (b := kl.hdr) (o := 0) _ (by rw [(K4.n1.hdr (k := ⟨kl.hdr, (some (lb, lo)), kl.cap, kl.kids⟩) rfl).2]; rfl))
        obtain ⟨rfl, rfl⟩ : kb' = some (gb26, gq26) ∧ gc26 = kc' := sv_inj hv5
        clear happ hv5 K4 HA4 f2 x26a3 y26a3 x26ah y26ah x26c3 y26c3 x26ch y26ch x26k y26k
        have HL26 : Hid (List.length (kl.kids ++ [some c]) = jl + 1) := hidp (by rw [List.length_append, HNl.out]; rfl)
        generalize w26a.setCell ⟨kl.hdr, 0, none⟩ (.slice (some ⟨gb26, gq26, none⟩) (jl + 1) gc26) = w26 at K5 ⊢
        have HK27 : Hid (KS E S wc s [(n, ⟨rn.iso, rn.count, (List.set rn.items j y), (some (nb, no)), rn.icap, some ⟨kn.hdr, (some (kb, ko)), kn.cap, kn.kids⟩⟩), (l, ⟨rl.iso, (rl.count + 1), (rl.items ++ [md]), (some (gb13, gq13)), gc13, some ⟨kl.hdr, (some (gb26, gq26)), gc26, (kl.kids ++ [some c])⟩⟩), (q, ⟨rq.iso, (rq.count - 1), (List.drop 1 rq.items), (some (xb, xo)), rq.icap, some ⟨kq.hdr, (some (qb, qo)), kq.cap, kq.kids⟩⟩), (c, rc)] w26) := hidp K5
        clear K5 HK25
        have x283 : w26.cell? ⟨q, 3, none⟩ = some (.pointer (some ⟨kq.hdr, 0, none⟩)) := HK27.out.n2.cell.2.2.2.2
        have x28h : w26.cell? ⟨kq.hdr, 0, none⟩ = some (.slice (some ⟨qb, qo, none⟩) (jq) kq.cap) := by
          have h : w26.cell? ⟨kq.hdr, 0, none⟩ = some (sv (some (qb, qo)) (List.length kq.kids) kq.cap) := M_cell (HK27.out.n2.hdr (k := ⟨kq.hdr, (some (qb, qo)), kq.cap, kq.kids⟩) rfl).2
          rw [HNq.out] at h; exact h
        have hcap28 : jq ≤ kq.cap := by have h := HK27.out.n2.wf.2.2.2 _ rfl; rw [HNq.out] at h; exact h
        have hb1 : (1 : Int) ≤ (jq : Int) := by omega
        go_wp2_with fail
        go_region_held3 (fun w' => w'.cell? ⟨q, 3, none⟩ = some (.pointer (some ⟨kq.hdr, 0, none⟩)) ∧ w'.cell? ⟨kq.hdr, 0, none⟩ = some (.slice (some ⟨qb, qo, none⟩) (jq) kq.cap)) (go_keep)
          ((refine step_copy (by rfl) _ _ _ _ (by rfl) 118 j0 1 Try.underlying185 HJ0.out HY1.out qb qo (jq) (kq.cap) ?hd qb (qo + (0 + 1)) (jq - (0 + 1)) (kq.cap - (0 + 1)) ?hx (((List.drop (0 + 1) kq.kids)).map pv) ?hn (fun j' v hj => ?hs) ?hc (fun v hv => by obtain ⟨p', _, rfl⟩ := List.mem_map.1 hv; cases p' <;> rfl) ?_
            case hd => (simp [Act.eval]; try omega)
            case hx => (simp [Act.eval]; try omega)
            case hn =>
              have e : Nat.min (jq - (0 + 1)) (jq) = jq - 1 := Nat.min_eq_left (by omega)
              rw [List.length_map, e, Nat.mul_one]; exact (show List.length (List.drop (0 + 1) kq.kids) = jq - 1 by rw [List.length_drop, HNq.out])
            case hs =>
              have h := (HK27.out.drew.n2.arr (k := ⟨kq.hdr, (some (qb, qo)), kq.cap, kq.kids⟩) (b := qb) (o := qo) rfl rfl).val (0 + 1 + j') v (by
                rw [← List.getElem?_drop, ← List.map_drop, (show List.drop (0 + 1) kq.kids = List.drop (0 + 1) kq.kids ++ [] from (List.append_nil _).symm), List.map_append, List.getElem?_append_left (List.getElem?_eq_some_iff.1 hj).1]; exact hj)
              have h2 : M _ qb (qo + (0 + 1 + j')) = some v := h
              rw [← Nat.add_assoc] at h2; exact h2
            case hc =>
              intro j' hj
              have hj' : j' < jq - 1 := by rw [List.length_map] at hj; have h := (show List.length (List.drop (0 + 1) kq.kids) = jq - 1 by rw [List.length_drop, HNq.out]); omega
              have h := (HK27.out.drew.n2.arr (k := ⟨kq.hdr, (some (qb, qo)), kq.cap, kq.kids⟩) (b := qb) (o := qo) rfl rfl).some (0 + j') (by show 0 + j' < kq.cap; omega)
              have h2 : (M _ qb (qo + (0 + j'))).isSome = true := h
              rw [← Nat.add_assoc] at h2; exact h2
            intro w28a hu6
            have K6 := HK27.out.drew.n2.set_kids (k := ⟨kq.hdr, (some (qb, qo)), kq.cap, kq.kids⟩) (b := qb) (o := qo) rfl rfl (i := 0) ((List.drop (0 + 1) kq.kids)) (by show _ ≤ List.length kq.kids; rw [HNq.out]; have h := (show List.length (List.drop (0 + 1) kq.kids) = jq - 1 by rw [List.length_drop, HNq.out]); omega) (by first | rfl | simp) hu6
            have HL28 : Hid (List.length (List.take (0) kq.kids ++ (List.drop (0 + 1) kq.kids) ++ List.drop (0 + List.length (List.drop (0 + 1) kq.kids)) kq.kids) = jq) := hidp (by have h := (show List.length (List.drop (0 + 1) kq.kids) = jq - 1 by rw [List.length_drop, HNq.out]); simp only [List.length_append, List.length_take, List.length_drop, HNq.out] at h ⊢; omega)
            have HC28 : Hid (KS E S wc s [(n, ⟨rn.iso, rn.count, (List.set rn.items j y), (some (nb, no)), rn.icap, some ⟨kn.hdr, (some (kb, ko)), kn.cap, kn.kids⟩⟩), (l, ⟨rl.iso, (rl.count + 1), (rl.items ++ [md]), (some (gb13, gq13)), gc13, some ⟨kl.hdr, (some (gb26, gq26)), gc26, (kl.kids ++ [some c])⟩⟩), (q, ⟨rq.iso, (rq.count - 1), (List.drop 1 rq.items), (some (xb, xo)), rq.icap, some ⟨kq.hdr, (some (qb, qo)), kq.cap, (List.take (0) kq.kids ++ (List.drop (0 + 1) kq.kids) ++ List.drop (0 + List.length (List.drop (0 + 1) kq.kids)) kq.kids)⟩⟩), (c, rc)] w28a) := hidp K6
            clear K6 hu6
            have y283 : w28a.cell? ⟨q, 3, none⟩ = some (.pointer (some ⟨kq.hdr, 0, none⟩)) := HC28.out.n2.cell.2.2.2.2
            have y28h : w28a.cell? ⟨kq.hdr, 0, none⟩ = some (.slice (some ⟨qb, qo, none⟩) (jq) kq.cap) := by
              have h : w28a.cell? ⟨kq.hdr, 0, none⟩ = some (sv (some (qb, qo)) (List.length (List.take (0) kq.kids ++ (List.drop (0 + 1) kq.kids) ++ List.drop (0 + List.length (List.drop (0 + 1) kq.kids)) kq.kids)) kq.cap) := M_cell (HC28.out.n2.hdr (k := ⟨kq.hdr, (some (qb, qo)), kq.cap, (List.take (0) kq.kids ++ (List.drop (0 + 1) kq.kids) ++ List.drop (0 + List.length (List.drop (0 + 1) kq.kids)) kq.kids)⟩) rfl).2
              rw [HL28.out] at h; exact h))
        generalize (if kq.cap = 1 then (some ⟨qb, qo, none⟩ : Option Addr) else some ⟨qb, qo + (1), none⟩) = zz29
        clear HK27 x283 x28h y283 y28h
        clear hb1
        have x303 : w28a.cell? ⟨q, 3, none⟩ = some (.pointer (some ⟨kq.hdr, 0, none⟩)) := HC28.out.n2.cell.2.2.2.2
        have x30h : w28a.cell? ⟨kq.hdr, 0, none⟩ = some (.slice (some ⟨qb, qo, none⟩) (jq) kq.cap) := by
          have h : w28a.cell? ⟨kq.hdr, 0, none⟩ = some (sv (some (qb, qo)) (List.length (List.take (0) kq.kids ++ (List.drop (0 + 1) kq.kids) ++ List.drop (0 + List.length (List.drop (0 + 1) kq.kids)) kq.kids)) kq.cap) := M_cell (HC28.out.n2.hdr (k := ⟨kq.hdr, (some (qb, qo)), kq.cap, (List.take (0) kq.kids ++ (List.drop (0 + 1) kq.kids) ++ List.drop (0 + List.length (List.drop (0 + 1) kq.kids)) kq.kids)⟩) rfl).2
          rw [HL28.out] at h; exact h
        have hw1 : IntKind.i64.wrap ((jq : Int) - 1) = (pk : Int) := by rw [Last.i64_w, IntWalk.wrap64_in _ ⟨by omega, by omega⟩]; omega
        have hb1 : (pk : Int) < (jq : Int) := by omega
        have hb2 : (0 : Int) ≤ (pk : Int) := by omega
        have hb3 : (pk : Int) ≤ (jq : Int) := by omega
        have hck : jq ≤ kq.cap := by have h := HC28.out.n2.wf.2.2.2 _ rfl; rw [HL28.out] at h; exact h
        have ci := (HC28.out.n2.arr (k := ⟨kq.hdr, (some (qb, qo)), kq.cap, (List.take (0) kq.kids ++ (List.drop (0 + 1) kq.kids) ++ List.drop (0 + List.length (List.drop (0 + 1) kq.kids)) kq.kids)⟩) (b := qb) (o := qo) rfl rfl).some (pk) (by show pk < kq.cap; omega)
        obtain ⟨z1, hz1'⟩ := Option.isSome_iff_exists.1 ci
        have e1 : w28a.cell? ⟨qb, qo + pk, none⟩ = some z1 := M_cell hz1'
        have f1 : w28a.frozen? ⟨qb, qo + pk, none⟩ = false := M_froz hz1'
        have K6 := HC28.out.n2.set_kid (k := ⟨kq.hdr, (some (qb, qo)), kq.cap, (List.take (0) kq.kids ++ (List.drop (0 + 1) kq.kids) ++ List.drop (0 + List.length (List.drop (0 + 1) kq.kids)) kq.kids)⟩) (b := qb) (o := qo) rfl rfl (i := pk) (none) (by show _ < List.length (List.take (0) kq.kids ++ (List.drop (0 + 1) kq.kids) ++ List.drop (0 + List.length (List.drop (0 + 1) kq.kids)) kq.kids); rw [HL28.out]; omega) (by rfl) (Upd.one w28a (b := qb) (o := qo + pk) (.pointer none) (by exact ci))
        have HL30 : Hid (List.length (List.set (List.take (0) kq.kids ++ (List.drop (0 + 1) kq.kids) ++ List.drop (0 + List.length (List.drop (0 + 1) kq.kids)) kq.kids) (pk) (none)) = jq) := hidp (by rw [List.length_set]; exact HL28.out)
        have hblt : qb < w28a.heap.size := World.block_lt_of_cell? w28a _ e1
        have HC30 : Hid (KS E S wc s [(n, ⟨rn.iso, rn.count, (List.set rn.items j y), (some (nb, no)), rn.icap, some ⟨kn.hdr, (some (kb, ko)), kn.cap, kn.kids⟩⟩), (l, ⟨rl.iso, (rl.count + 1), (rl.items ++ [md]), (some (gb13, gq13)), gc13, some ⟨kl.hdr, (some (gb26, gq26)), gc26, (kl.kids ++ [some c])⟩⟩), (q, ⟨rq.iso, (rq.count - 1), (List.drop 1 rq.items), (some (xb, xo)), rq.icap, some ⟨kq.hdr, (some (qb, qo)), kq.cap, (List.set (List.take (0) kq.kids ++ (List.drop (0 + 1) kq.kids) ++ List.drop (0 + List.length (List.drop (0 + 1) kq.kids)) kq.kids) (pk) (none))⟩⟩), (c, rc)] (w28a.setCell ⟨qb, qo + pk, none⟩ (.pointer none))) := hidp K6
        clear ci hz1' K6 HC28
        go_wp2_with fail
        refine Last.start_ (S := fun w' => w'.cell? ⟨q, 3, none⟩ = some (.pointer (some ⟨kq.hdr, 0, none⟩)) ∧ w'.cell? ⟨kq.hdr, 0, none⟩ = some (.slice (some ⟨qb, qo, none⟩) (jq) kq.cap)) (ds := [15]) #[Z,Z,Z,Z,Z,Z,Z,Z,Z,Z,Z,Z,Z,Z,Z,Z] (by rfl) (by rfl) (by rfl) ?_ (fun hHeld => ?_)
        · go_keep
        refine Last.tk 0 562 #[Y,Z,Z,Z,Z,Z,Z,Z,Z,Z,Z,Z,Z,Z,Z,Z] rfl rfl hHeld ?_
        refine Last.tk 1 563 #[Y,Y,Z,Z,Z,Z,Z,Z,Z,Z,Z,Z,Z,Z,Z,Z] rfl rfl hHeld ?_
        refine Last.tk 2 564 #[Y,Y,Y,Z,Z,Z,Z,Z,Z,Z,Z,Z,Z,Z,Z,Z] rfl rfl hHeld ?_
        refine Last.tk 3 565 #[Y,Y,Y,Y,Z,Z,Z,Z,Z,Z,Z,Z,Z,Z,Z,Z] rfl rfl hHeld ?_
        refine Last.tk 4 566 #[Y,Y,Y,Y,Y,Z,Z,Z,Z,Z,Z,Z,Z,Z,Z,Z] rfl rfl hHeld ?_
        refine Last.tk 5 567 #[Y,Y,Y,Y,Y,Y,Z,Z,Z,Z,Z,Z,Z,Z,Z,Z] rfl rfl hHeld ?_
        refine Last.tk 6 568 #[Y,Y,Y,Y,Y,Y,Y,Z,Z,Z,Z,Z,Z,Z,Z,Z] rfl rfl hHeld ?_
        refine Last.tk 7 569 #[Y,Y,Y,Y,Y,Y,Y,Y,Z,Z,Z,Z,Z,Z,Z,Z] rfl rfl hHeld ?_
        refine Last.tk 8 570 #[Y,Y,Y,Y,Y,Y,Y,Y,Y,Z,Z,Z,Z,Z,Z,Z] rfl rfl hHeld ?_
        refine Last.tk 9 571 #[Y,Y,Y,Y,Y,Y,Y,Y,Y,Y,Z,Z,Z,Z,Z,Z] rfl rfl hHeld ?_
        refine Last.tk 10 572 #[Y,Y,Y,Y,Y,Y,Y,Y,Y,Y,Y,Z,Z,Z,Z,Z] rfl rfl hHeld ?_
        refine Last.tk 11 573 #[Y,Y,Y,Y,Y,Y,Y,Y,Y,Y,Y,Y,Z,Z,Z,Z] rfl rfl hHeld ?_
        refine Last.tk 12 574 #[Y,Y,Y,Y,Y,Y,Y,Y,Y,Y,Y,Y,Y,Z,Z,Z] rfl rfl hHeld ?_
        refine Last.tk 13 575 #[Y,Y,Y,Y,Y,Y,Y,Y,Y,Y,Y,Y,Y,Y,Z,Z] rfl rfl hHeld ?_
        refine Last.tk 14 576 #[Y,Y,Y,Y,Y,Y,Y,Y,Y,Y,Y,Y,Y,Y,Y,Z] rfl rfl hHeld ?_
        refine Last.last_ (i := 15) (N := none) #[Y,Y,Y,Y,Y,Y,Y,Y,Y,Y,Y,Y,Y,Y,Y,Y] rfl rfl (by kernel_rfl) (by decide) (fun K hK => ?_)
        go_simp
        refine hK.out _ _ ?_
        clear hK K
        try simp only [Act.put, setIfInBounds_toArray, set_cons_zero, set_cons_succ]
        refine Last.done_ (by kernel_rfl) ?_
        have K7 := HC30.out.drew
        generalize (w28a.setCell ⟨qb, qo + pk, none⟩ (.pointer none)).drew = w30 at K7 ⊢
        clear HC30 x303 x30h e1 f1 hblt hck 
        have HK31 : Hid (KS E S wc s [(n, ⟨rn.iso, rn.count, (List.set rn.items j y), (some (nb, no)), rn.icap, some ⟨kn.hdr, (some (kb, ko)), kn.cap, kn.kids⟩⟩), (l, ⟨rl.iso, (rl.count + 1), (rl.items ++ [md]), (some (gb13, gq13)), gc13, some ⟨kl.hdr, (some (gb26, gq26)), gc26, (kl.kids ++ [some c])⟩⟩), (q, ⟨rq.iso, (rq.count - 1), (List.drop 1 rq.items), (some (xb, xo)), rq.icap, some ⟨kq.hdr, (some (qb, qo)), kq.cap, (List.set (List.take (0) kq.kids ++ (List.drop (0 + 1) kq.kids) ++ List.drop (0 + List.length (List.drop (0 + 1) kq.kids)) kq.kids) (pk) (none))⟩⟩), (c, rc)] w30) := hidp K7
        clear K7
        have x323 : w30.cell? ⟨q, 3, none⟩ = some (.pointer (some ⟨kq.hdr, 0, none⟩)) := HK31.out.n2.cell.2.2.2.2
        have x32h : w30.cell? ⟨kq.hdr, 0, none⟩ = some (.slice (some ⟨qb, qo, none⟩) (jq) kq.cap) := by
          have h : w30.cell? ⟨kq.hdr, 0, none⟩ = some (sv (some (qb, qo)) (List.length (List.set (List.take (0) kq.kids ++ (List.drop (0 + 1) kq.kids) ++ List.drop (0 + List.length (List.drop (0 + 1) kq.kids)) kq.kids) (pk) (none))) kq.cap) := M_cell (HK31.out.n2.hdr (k := ⟨kq.hdr, (some (qb, qo)), kq.cap, (List.set (List.take (0) kq.kids ++ (List.drop (0 + 1) kq.kids) ++ List.drop (0 + List.length (List.drop (0 + 1) kq.kids)) kq.kids) (pk) (none))⟩) rfl).2
          rw [HL30.out] at h; exact h
        
        have f2 := M_froz (HK31.out.n2.hdr (k := ⟨kq.hdr, (some (qb, qo)), kq.cap, (List.set (List.take (0) kq.kids ++ (List.drop (0 + 1) kq.kids) ++ List.drop (0 + List.length (List.drop (0 + 1) kq.kids)) kq.kids) (pk) (none))⟩) rfl).2
        have hlt : kq.hdr < w30.heap.size := (HK31.out.n2.hdr (k := ⟨kq.hdr, (some (qb, qo)), kq.cap, (List.set (List.take (0) kq.kids ++ (List.drop (0 + 1) kq.kids) ++ List.drop (0 + List.length (List.drop (0 + 1) kq.kids)) kq.kids) (pk) (none))⟩) rfl).1
        have hcp : jq ≤ kq.cap := by have h := HK31.out.n2.wf.2.2.2 _ rfl; rw [HL30.out] at h; exact h
        have hcc : ¬ kq.cap < pk := by omega
        have hcd : (pk : Int) ≤ (kq.cap : Int) := by omega
        have K6 := HK31.out.n2.take_kids (k := ⟨kq.hdr, (some (qb, qo)), kq.cap, (List.set (List.take (0) kq.kids ++ (List.drop (0 + 1) kq.kids) ++ List.drop (0 + List.length (List.drop (0 + 1) kq.kids)) kq.kids) (pk) (none))⟩) (b := qb) (o := qo) rfl rfl (j := pk) (by show _ ≤ List.length (List.set (List.take (0) kq.kids ++ (List.drop (0 + 1) kq.kids) ++ List.drop (0 + List.length (List.drop (0 + 1) kq.kids)) kq.kids) (pk) (none)); rw [HL30.out]; omega) (Upd.one w30 (b := kq.hdr) (o := 0) (.slice (some ⟨qb, qo, none⟩) pk kq.cap) (by rw [(HK31.out.n2.hdr (k := ⟨kq.hdr, (some (qb, qo)), kq.cap, (List.set (List.take (0) kq.kids ++ (List.drop (0 + 1) kq.kids) ++ List.drop (0 + List.length (List.drop (0 + 1) kq.kids)) kq.kids) (pk) (none))⟩) rfl).2]; rfl))
        have HL32 : Hid (List.length (List.take pk (List.set (List.take (0) kq.kids ++ (List.drop (0 + 1) kq.kids) ++ List.drop (0 + List.length (List.drop (0 + 1) kq.kids)) kq.kids) (pk) (none))) = pk) := hidp (by rw [List.length_take, HL30.out]; omega)
        have HC32 : Hid (KS E S wc s [(n, ⟨rn.iso, rn.count, (List.set rn.items j y), (some (nb, no)), rn.icap, some ⟨kn.hdr, (some (kb, ko)), kn.cap, kn.kids⟩⟩), (l, ⟨rl.iso, (rl.count + 1), (rl.items ++ [md]), (some (gb13, gq13)), gc13, some ⟨kl.hdr, (some (gb26, gq26)), gc26, (kl.kids ++ [some c])⟩⟩), (q, ⟨rq.iso, (rq.count - 1), (List.drop 1 rq.items), (some (xb, xo)), rq.icap, some ⟨kq.hdr, (some (qb, qo)), kq.cap, (List.take pk (List.set (List.take (0) kq.kids ++ (List.drop (0 + 1) kq.kids) ++ List.drop (0 + List.length (List.drop (0 + 1) kq.kids)) kq.kids) (pk) (none)))⟩⟩), (c, rc)] (w30.setCell ⟨kq.hdr, 0, none⟩ (.slice (some ⟨qb, qo, none⟩) pk kq.cap))) := hidp K6
        clear K6 HK31
        go_wp2_with fail
        refine Last.start_ (S := fun w' => w'.cell? ⟨q, 3, none⟩ = some (.pointer (some ⟨kq.hdr, 0, none⟩)) ∧ w'.cell? ⟨kq.hdr, 0, none⟩ = some (.slice (some ⟨qb, qo, none⟩) (jq) kq.cap)) (ds := [20]) #[Z,Z,Z,Z,Z,Z,Z,Z,Z,Z,Z,Z,Z,Z,Z,Z,Z,Z,Z,Z,Z] (by rfl) (by rfl) (by rfl) ?_ (fun hHeld => ?_)
        · go_keep
        refine Last.tk 0 577 #[Y,Z,Z,Z,Z,Z,Z,Z,Z,Z,Z,Z,Z,Z,Z,Z,Z,Z,Z,Z,Z] rfl rfl hHeld ?_
        refine Last.tk 1 578 #[Y,Y,Z,Z,Z,Z,Z,Z,Z,Z,Z,Z,Z,Z,Z,Z,Z,Z,Z,Z,Z] rfl rfl hHeld ?_
        refine Last.tk 2 579 #[Y,Y,Y,Z,Z,Z,Z,Z,Z,Z,Z,Z,Z,Z,Z,Z,Z,Z,Z,Z,Z] rfl rfl hHeld ?_
        refine Last.tk 3 580 #[Y,Y,Y,Y,Z,Z,Z,Z,Z,Z,Z,Z,Z,Z,Z,Z,Z,Z,Z,Z,Z] rfl rfl hHeld ?_
        refine Last.tk 4 581 #[Y,Y,Y,Y,Y,Z,Z,Z,Z,Z,Z,Z,Z,Z,Z,Z,Z,Z,Z,Z,Z] rfl rfl hHeld ?_
        refine Last.tk 5 582 #[Y,Y,Y,Y,Y,Y,Z,Z,Z,Z,Z,Z,Z,Z,Z,Z,Z,Z,Z,Z,Z] rfl rfl hHeld ?_
        refine Last.tk 6 583 #[Y,Y,Y,Y,Y,Y,Y,Z,Z,Z,Z,Z,Z,Z,Z,Z,Z,Z,Z,Z,Z] rfl rfl hHeld ?_
        refine Last.tk 7 584 #[Y,Y,Y,Y,Y,Y,Y,Y,Z,Z,Z,Z,Z,Z,Z,Z,Z,Z,Z,Z,Z] rfl rfl hHeld ?_
        refine Last.tk 8 585 #[Y,Y,Y,Y,Y,Y,Y,Y,Y,Z,Z,Z,Z,Z,Z,Z,Z,Z,Z,Z,Z] rfl rfl hHeld ?_
        refine Last.tk 9 586 #[Y,Y,Y,Y,Y,Y,Y,Y,Y,Y,Z,Z,Z,Z,Z,Z,Z,Z,Z,Z,Z] rfl rfl hHeld ?_
        refine Last.tk 10 587 #[Y,Y,Y,Y,Y,Y,Y,Y,Y,Y,Y,Z,Z,Z,Z,Z,Z,Z,Z,Z,Z] rfl rfl hHeld ?_
        refine Last.tk 11 588 #[Y,Y,Y,Y,Y,Y,Y,Y,Y,Y,Y,Y,Z,Z,Z,Z,Z,Z,Z,Z,Z] rfl rfl hHeld ?_
        refine Last.tk 12 589 #[Y,Y,Y,Y,Y,Y,Y,Y,Y,Y,Y,Y,Y,Z,Z,Z,Z,Z,Z,Z,Z] rfl rfl hHeld ?_
        refine Last.tk 13 590 #[Y,Y,Y,Y,Y,Y,Y,Y,Y,Y,Y,Y,Y,Y,Z,Z,Z,Z,Z,Z,Z] rfl rfl hHeld ?_
        refine Last.tk 14 591 #[Y,Y,Y,Y,Y,Y,Y,Y,Y,Y,Y,Y,Y,Y,Y,Z,Z,Z,Z,Z,Z] rfl rfl hHeld ?_
        refine Last.tk 15 592 #[Y,Y,Y,Y,Y,Y,Y,Y,Y,Y,Y,Y,Y,Y,Y,Y,Z,Z,Z,Z,Z] rfl rfl hHeld ?_
        refine Last.tk 16 593 #[Y,Y,Y,Y,Y,Y,Y,Y,Y,Y,Y,Y,Y,Y,Y,Y,Y,Z,Z,Z,Z] rfl rfl hHeld ?_
        refine Last.tk 17 594 #[Y,Y,Y,Y,Y,Y,Y,Y,Y,Y,Y,Y,Y,Y,Y,Y,Y,Y,Z,Z,Z] rfl rfl hHeld ?_
        refine Last.tk 18 595 #[Y,Y,Y,Y,Y,Y,Y,Y,Y,Y,Y,Y,Y,Y,Y,Y,Y,Y,Y,Z,Z] rfl rfl hHeld ?_
        refine Last.tk 19 596 #[Y,Y,Y,Y,Y,Y,Y,Y,Y,Y,Y,Y,Y,Y,Y,Y,Y,Y,Y,Y,Z] rfl rfl hHeld ?_
        refine Last.last_ (i := 20) (N := none) #[Y,Y,Y,Y,Y,Y,Y,Y,Y,Y,Y,Y,Y,Y,Y,Y,Y,Y,Y,Y,Y] rfl rfl (by kernel_rfl) (by decide) (fun K hK => ?_)
        go_simp
        refine hK.out _ _ ?_
        clear hK K
        try simp only [Act.put, setIfInBounds_toArray, set_cons_zero, set_cons_succ]
        refine Last.done_ (by kernel_rfl) ?_
        have K7 := HC32.out.drew
        generalize (w30.setCell ⟨kq.hdr, 0, none⟩ (.slice (some ⟨qb, qo, none⟩) pk kq.cap)).drew = w32 at K7 ⊢
        clear HC32 x323 x32h f2 hlt hcc hcd hcp hw1 hb1 hb2 hb3
        have hsh : (List.take pk (List.set (List.take (0) kq.kids ++ (List.drop (0 + 1) kq.kids) ++ List.drop (0 + List.length (List.drop (0 + 1) kq.kids)) kq.kids) (pk) (none))) = (List.drop 1 kq.kids) := cut_shift (j := 0) (z := (none : Option Nat)) (HNq.out.trans HPK.out) (Nat.zero_le _)
        have HLs32 : Hid (List.length (List.drop 1 kq.kids) = pk) := hidp (by rw [← hsh]; exact HL32.out)
        rw [hsh] at K7
        have HK33 : Hid (KS E S wc s [(n, ⟨rn.iso, rn.count, (List.set rn.items j y), (some (nb, no)), rn.icap, some ⟨kn.hdr, (some (kb, ko)), kn.cap, kn.kids⟩⟩), (l, ⟨rl.iso, (rl.count + 1), (rl.items ++ [md]), (some (gb13, gq13)), gc13, some ⟨kl.hdr, (some (gb26, gq26)), gc26, (kl.kids ++ [some c])⟩⟩), (q, ⟨rq.iso, (rq.count - 1), (List.drop 1 rq.items), (some (xb, xo)), rq.icap, some ⟨kq.hdr, (some (qb, qo)), kq.cap, (List.drop 1 kq.kids)⟩⟩), (c, rc)] w32) := hidp K7
        clear K7 hsh
        as_aux_lemma =>
          have x34_1 : w32.cell? ⟨l, 1, none⟩ = some (.int .i64 (rl.count + 1)) := HK33.out.n1.cell.2.2.1
          have cc3 : w32.cell? ⟨l, 3, none⟩ = some (.pointer (some ⟨kl.hdr, 0, none⟩)) := HK33.out.n1.cell.2.2.2.2
          have cch : w32.cell? ⟨kl.hdr, 0, none⟩ = some (.slice (some ⟨gb26, gq26, none⟩) (jl + 1) gc26) := by
            have h : w32.cell? ⟨kl.hdr, 0, none⟩ = some (sv (some (gb26, gq26)) (List.length (kl.kids ++ [some c])) gc26) := M_cell (HK33.out.n1.hdr (k := ⟨kl.hdr, (some (gb26, gq26)), gc26, (kl.kids ++ [some c])⟩) rfl).2
            rw [HL26.out] at h; exact h
          have cck : w32.cell? ⟨gb26, gq26 + jl, none⟩ = some (.pointer (some ⟨c, 0, none⟩)) := M_cell (HK33.out.n1.kid (k := ⟨kl.hdr, (some (gb26, gq26)), gc26, (kl.kids ++ [some c])⟩) rfl (b := gb26) (o := gq26) rfl (i := jl) (p := some c) (by rw [List.getElem?_append_right (Nat.le_of_eq HNl.out), HNl.out, Nat.sub_self]; rfl))
          have ccc : w32.cell? ⟨c, 1, none⟩ = some (.int .i64 rc.count) := HK33.out.n3.cell.2.2.1
          have f1 := M_froz HK33.out.n1.mem.1
          have hlt : l < w32.heap.size := HK33.out.n1.cell.1
          have hw1 : IntKind.i64.wrap ((jl : Int)) = (jl : Int) := by rw [Last.i64_w]; exact IntWalk.wrap64_in _ ⟨by omega, by omega⟩
          have hb2 : (0 : Int) ≤ (jl : Int) := by omega
          have hb4 : (jl : Int) < (jl : Int) + 1 := by omega
          have hs1 : IntKind.i64.wrap (rl.count + 1 + rc.count) = rl.count + 1 + rc.count := by rw [Last.i64_w]; exact IntWalk.wrap64_in _ ⟨by omega, by omega⟩
          have K6 := HK33.out.n1.count (rl.count + 1 + rc.count) (Upd.one w32 (b := l) (o := 1) _ (by rw [HK33.out.n1.mem.1]; rfl))
          have HC34 : Hid (KS E S wc s [(n, ⟨rn.iso, rn.count, (List.set rn.items j y), (some (nb, no)), rn.icap, some ⟨kn.hdr, (some (kb, ko)), kn.cap, kn.kids⟩⟩), (l, ⟨rl.iso, (rl.count + 1 + rc.count), (rl.items ++ [md]), (some (gb13, gq13)), gc13, some ⟨kl.hdr, (some (gb26, gq26)), gc26, (kl.kids ++ [some c])⟩⟩), (q, ⟨rq.iso, (rq.count - 1), (List.drop 1 rq.items), (some (xb, xo)), rq.icap, some ⟨kq.hdr, (some (qb, qo)), kq.cap, (List.drop 1 kq.kids)⟩⟩), (c, rc)] (w32.setCell ⟨l, 1, none⟩ (.int .i64 (rl.count + 1 + rc.count)))) := hidp K6
          clear K6 HK33
          go_wp2_with fail
          refine Last.start_ (S := fun w' => w'.cell? ⟨l, 1, none⟩ = some (.int .i64 (rl.count + 1)) ∧ w'.cell? ⟨l, 3, none⟩ = some (.pointer (some ⟨kl.hdr, 0, none⟩)) ∧ w'.cell? ⟨kl.hdr, 0, none⟩ = some (.slice (some ⟨gb26, gq26, none⟩) (jl + 1) gc26) ∧ w'.cell? ⟨gb26, gq26 + jl, none⟩ = some (.pointer (some ⟨c, 0, none⟩)) ∧ w'.cell? ⟨c, 1, none⟩ = some (.int .i64 rc.count)) (ds := [26]) #[Z,Z,Z,Z,Z,Z,Z,Z,Z,Z,Z,Z,Z,Z,Z,Z,Z,Z,Z,Z,Z,Z,Z,Z,Z,Z,Z] (by rfl) (by rfl) (by rfl) ?_ (fun hHeld => ?_)
          · go_keep
          refine Last.tk 0 597 #[Y,Z,Z,Z,Z,Z,Z,Z,Z,Z,Z,Z,Z,Z,Z,Z,Z,Z,Z,Z,Z,Z,Z,Z,Z,Z,Z] rfl rfl hHeld ?_
          refine Last.tk 1 598 #[Y,Y,Z,Z,Z,Z,Z,Z,Z,Z,Z,Z,Z,Z,Z,Z,Z,Z,Z,Z,Z,Z,Z,Z,Z,Z,Z] rfl rfl hHeld ?_
          refine Last.tk 2 599 #[Y,Y,Y,Z,Z,Z,Z,Z,Z,Z,Z,Z,Z,Z,Z,Z,Z,Z,Z,Z,Z,Z,Z,Z,Z,Z,Z] rfl rfl hHeld ?_
          refine Last.tk 3 600 #[Y,Y,Y,Y,Z,Z,Z,Z,Z,Z,Z,Z,Z,Z,Z,Z,Z,Z,Z,Z,Z,Z,Z,Z,Z,Z,Z] rfl rfl hHeld ?_
          refine Last.tk 4 601 #[Y,Y,Y,Y,Y,Z,Z,Z,Z,Z,Z,Z,Z,Z,Z,Z,Z,Z,Z,Z,Z,Z,Z,Z,Z,Z,Z] rfl rfl hHeld ?_
          refine Last.tk 5 602 #[Y,Y,Y,Y,Y,Y,Z,Z,Z,Z,Z,Z,Z,Z,Z,Z,Z,Z,Z,Z,Z,Z,Z,Z,Z,Z,Z] rfl rfl hHeld ?_
          refine Last.tk 6 603 #[Y,Y,Y,Y,Y,Y,Y,Z,Z,Z,Z,Z,Z,Z,Z,Z,Z,Z,Z,Z,Z,Z,Z,Z,Z,Z,Z] rfl rfl hHeld ?_
          refine Last.tk 7 604 #[Y,Y,Y,Y,Y,Y,Y,Y,Z,Z,Z,Z,Z,Z,Z,Z,Z,Z,Z,Z,Z,Z,Z,Z,Z,Z,Z] rfl rfl hHeld ?_
          refine Last.tk 8 605 #[Y,Y,Y,Y,Y,Y,Y,Y,Y,Z,Z,Z,Z,Z,Z,Z,Z,Z,Z,Z,Z,Z,Z,Z,Z,Z,Z] rfl rfl hHeld ?_
          refine Last.tk 9 606 #[Y,Y,Y,Y,Y,Y,Y,Y,Y,Y,Z,Z,Z,Z,Z,Z,Z,Z,Z,Z,Z,Z,Z,Z,Z,Z,Z] rfl rfl hHeld ?_
          refine Last.tk 10 607 #[Y,Y,Y,Y,Y,Y,Y,Y,Y,Y,Y,Z,Z,Z,Z,Z,Z,Z,Z,Z,Z,Z,Z,Z,Z,Z,Z] rfl rfl hHeld ?_
          refine Last.tk 11 608 #[Y,Y,Y,Y,Y,Y,Y,Y,Y,Y,Y,Y,Z,Z,Z,Z,Z,Z,Z,Z,Z,Z,Z,Z,Z,Z,Z] rfl rfl hHeld ?_
          refine Last.tk 12 609 #[Y,Y,Y,Y,Y,Y,Y,Y,Y,Y,Y,Y,Y,Z,Z,Z,Z,Z,Z,Z,Z,Z,Z,Z,Z,Z,Z] rfl rfl hHeld ?_
          refine Last.tk 13 610 #[Y,Y,Y,Y,Y,Y,Y,Y,Y,Y,Y,Y,Y,Y,Z,Z,Z,Z,Z,Z,Z,Z,Z,Z,Z,Z,Z] rfl rfl hHeld ?_
          refine Last.tk 14 611 #[Y,Y,Y,Y,Y,Y,Y,Y,Y,Y,Y,Y,Y,Y,Y,Z,Z,Z,Z,Z,Z,Z,Z,Z,Z,Z,Z] rfl rfl hHeld ?_
          refine Last.tk 15 612 #[Y,Y,Y,Y,Y,Y,Y,Y,Y,Y,Y,Y,Y,Y,Y,Y,Z,Z,Z,Z,Z,Z,Z,Z,Z,Z,Z] rfl rfl hHeld ?_
          refine Last.tk 16 613 #[Y,Y,Y,Y,Y,Y,Y,Y,Y,Y,Y,Y,Y,Y,Y,Y,Y,Z,Z,Z,Z,Z,Z,Z,Z,Z,Z] rfl rfl hHeld ?_
          refine Last.tk 17 614 #[Y,Y,Y,Y,Y,Y,Y,Y,Y,Y,Y,Y,Y,Y,Y,Y,Y,Y,Z,Z,Z,Z,Z,Z,Z,Z,Z] rfl rfl hHeld ?_
          refine Last.tk 18 615 #[Y,Y,Y,Y,Y,Y,Y,Y,Y,Y,Y,Y,Y,Y,Y,Y,Y,Y,Y,Z,Z,Z,Z,Z,Z,Z,Z] rfl rfl hHeld ?_
          refine Last.tk 19 616 #[Y,Y,Y,Y,Y,Y,Y,Y,Y,Y,Y,Y,Y,Y,Y,Y,Y,Y,Y,Y,Z,Z,Z,Z,Z,Z,Z] rfl rfl hHeld ?_
          refine Last.tk 20 617 #[Y,Y,Y,Y,Y,Y,Y,Y,Y,Y,Y,Y,Y,Y,Y,Y,Y,Y,Y,Y,Y,Z,Z,Z,Z,Z,Z] rfl rfl hHeld ?_
          refine Last.tk 21 618 #[Y,Y,Y,Y,Y,Y,Y,Y,Y,Y,Y,Y,Y,Y,Y,Y,Y,Y,Y,Y,Y,Y,Z,Z,Z,Z,Z] rfl rfl hHeld ?_
          refine Last.tk 22 619 #[Y,Y,Y,Y,Y,Y,Y,Y,Y,Y,Y,Y,Y,Y,Y,Y,Y,Y,Y,Y,Y,Y,Y,Z,Z,Z,Z] rfl rfl hHeld ?_
          refine Last.tk 23 620 #[Y,Y,Y,Y,Y,Y,Y,Y,Y,Y,Y,Y,Y,Y,Y,Y,Y,Y,Y,Y,Y,Y,Y,Y,Z,Z,Z] rfl rfl hHeld ?_
          refine Last.tk 24 621 #[Y,Y,Y,Y,Y,Y,Y,Y,Y,Y,Y,Y,Y,Y,Y,Y,Y,Y,Y,Y,Y,Y,Y,Y,Y,Z,Z] rfl rfl hHeld ?_
          refine Last.tk 25 622 #[Y,Y,Y,Y,Y,Y,Y,Y,Y,Y,Y,Y,Y,Y,Y,Y,Y,Y,Y,Y,Y,Y,Y,Y,Y,Y,Z] rfl rfl hHeld ?_
          refine Last.last_ (i := 26) (N := none) #[Y,Y,Y,Y,Y,Y,Y,Y,Y,Y,Y,Y,Y,Y,Y,Y,Y,Y,Y,Y,Y,Y,Y,Y,Y,Y,Y] rfl rfl (by kernel_rfl) (by decide) (fun K hK => ?_)
          go_simp
          refine hK.out _ _ ?_
          clear hK K
          try simp only [Act.put, setIfInBounds_toArray, set_cons_zero, set_cons_succ]
          refine Last.done_ (by kernel_rfl) ?_
          have K7 := HC34.out.drew
          generalize (w32.setCell ⟨l, 1, none⟩ (.int .i64 (rl.count + 1 + rc.count))).drew = w34 at K7 ⊢
          clear HC34 x34_1 f1 hlt
          have HK35 : Hid (KS E S wc s [(n, ⟨rn.iso, rn.count, (List.set rn.items j y), (some (nb, no)), rn.icap, some ⟨kn.hdr, (some (kb, ko)), kn.cap, kn.kids⟩⟩), (l, ⟨rl.iso, (rl.count + 1 + rc.count), (rl.items ++ [md]), (some (gb13, gq13)), gc13, some ⟨kl.hdr, (some (gb26, gq26)), gc26, (kl.kids ++ [some c])⟩⟩), (q, ⟨rq.iso, (rq.count - 1), (List.drop 1 rq.items), (some (xb, xo)), rq.icap, some ⟨kq.hdr, (some (qb, qo)), kq.cap, (List.drop 1 kq.kids)⟩⟩), (c, rc)] w34) := hidp K7
          clear K7
          clear cc3 cch cck ccc hs1 hw1 hb2 hb4
          have x36_1 : w34.cell? ⟨q, 1, none⟩ = some (.int .i64 (rq.count - 1)) := HK35.out.n2.cell.2.2.1
          have cc3 : w34.cell? ⟨l, 3, none⟩ = some (.pointer (some ⟨kl.hdr, 0, none⟩)) := HK35.out.n1.cell.2.2.2.2
          have cch : w34.cell? ⟨kl.hdr, 0, none⟩ = some (.slice (some ⟨gb26, gq26, none⟩) (jl + 1) gc26) := by
            have h : w34.cell? ⟨kl.hdr, 0, none⟩ = some (sv (some (gb26, gq26)) (List.length (kl.kids ++ [some c])) gc26) := M_cell (HK35.out.n1.hdr (k := ⟨kl.hdr, (some (gb26, gq26)), gc26, (kl.kids ++ [some c])⟩) rfl).2
            rw [HL26.out] at h; exact h
          have cck : w34.cell? ⟨gb26, gq26 + jl, none⟩ = some (.pointer (some ⟨c, 0, none⟩)) := M_cell (HK35.out.n1.kid (k := ⟨kl.hdr, (some (gb26, gq26)), gc26, (kl.kids ++ [some c])⟩) rfl (b := gb26) (o := gq26) rfl (i := jl) (p := some c) (by rw [List.getElem?_append_right (Nat.le_of_eq HNl.out), HNl.out, Nat.sub_self]; rfl))
          have ccc : w34.cell? ⟨c, 1, none⟩ = some (.int .i64 rc.count) := HK35.out.n3.cell.2.2.1
          have f1 := M_froz HK35.out.n2.mem.1
          have hlt : q < w34.heap.size := HK35.out.n2.cell.1
          have hw1 : IntKind.i64.wrap ((jl : Int)) = (jl : Int) := by rw [Last.i64_w]; exact IntWalk.wrap64_in _ ⟨by omega, by omega⟩
          have hb2 : (0 : Int) ≤ (jl : Int) := by omega
          have hb4 : (jl : Int) < (jl : Int) + 1 := by omega
          have hs1 : IntKind.i64.wrap (rq.count - 1 - rc.count) = rq.count - 1 - rc.count := by rw [Last.i64_w]; exact IntWalk.wrap64_in _ ⟨by omega, by omega⟩
          have K6 := HK35.out.n2.count (rq.count - 1 - rc.count) (Upd.one w34 (b := q) (o := 1) _ (by rw [HK35.out.n2.mem.1]; rfl))
          have HC36 : Hid (KS E S wc s [(n, ⟨rn.iso, rn.count, (List.set rn.items j y), (some (nb, no)), rn.icap, some ⟨kn.hdr, (some (kb, ko)), kn.cap, kn.kids⟩⟩), (l, ⟨rl.iso, (rl.count + 1 + rc.count), (rl.items ++ [md]), (some (gb13, gq13)), gc13, some ⟨kl.hdr, (some (gb26, gq26)), gc26, (kl.kids ++ [some c])⟩⟩), (q, ⟨rq.iso, (rq.count - 1 - rc.count), (List.drop 1 rq.items), (some (xb, xo)), rq.icap, some ⟨kq.hdr, (some (qb, qo)), kq.cap, (List.drop 1 kq.kids)⟩⟩), (c, rc)] (w34.setCell ⟨q, 1, none⟩ (.int .i64 (rq.count - 1 - rc.count)))) := hidp K6
          clear K6 HK35
          go_wp2_with fail
          refine Last.start_ (S := fun w' => w'.cell? ⟨q, 1, none⟩ = some (.int .i64 (rq.count - 1)) ∧ w'.cell? ⟨l, 3, none⟩ = some (.pointer (some ⟨kl.hdr, 0, none⟩)) ∧ w'.cell? ⟨kl.hdr, 0, none⟩ = some (.slice (some ⟨gb26, gq26, none⟩) (jl + 1) gc26) ∧ w'.cell? ⟨gb26, gq26 + jl, none⟩ = some (.pointer (some ⟨c, 0, none⟩)) ∧ w'.cell? ⟨c, 1, none⟩ = some (.int .i64 rc.count)) (ds := [26]) #[Z,Z,Z,Z,Z,Z,Z,Z,Z,Z,Z,Z,Z,Z,Z,Z,Z,Z,Z,Z,Z,Z,Z,Z,Z,Z,Z] (by rfl) (by rfl) (by rfl) ?_ (fun hHeld => ?_)
          · go_keep
          refine Last.tk 0 623 #[Y,Z,Z,Z,Z,Z,Z,Z,Z,Z,Z,Z,Z,Z,Z,Z,Z,Z,Z,Z,Z,Z,Z,Z,Z,Z,Z] rfl rfl hHeld ?_
          refine Last.tk 1 624 #[Y,Y,Z,Z,Z,Z,Z,Z,Z,Z,Z,Z,Z,Z,Z,Z,Z,Z,Z,Z,Z,Z,Z,Z,Z,Z,Z] rfl rfl hHeld ?_
          refine Last.tk 2 625 #[Y,Y,Y,Z,Z,Z,Z,Z,Z,Z,Z,Z,Z,Z,Z,Z,Z,Z,Z,Z,Z,Z,Z,Z,Z,Z,Z] rfl rfl hHeld ?_
          refine Last.tk 3 626 #[Y,Y,Y,Y,Z,Z,Z,Z,Z,Z,Z,Z,Z,Z,Z,Z,Z,Z,Z,Z,Z,Z,Z,Z,Z,Z,Z] rfl rfl hHeld ?_
          refine Last.tk 4 627 #[Y,Y,Y,Y,Y,Z,Z,Z,Z,Z,Z,Z,Z,Z,Z,Z,Z,Z,Z,Z,Z,Z,Z,Z,Z,Z,Z] rfl rfl hHeld ?_
          refine Last.tk 5 628 #[Y,Y,Y,Y,Y,Y,Z,Z,Z,Z,Z,Z,Z,Z,Z,Z,Z,Z,Z,Z,Z,Z,Z,Z,Z,Z,Z] rfl rfl hHeld ?_
          refine Last.tk 6 629 #[Y,Y,Y,Y,Y,Y,Y,Z,Z,Z,Z,Z,Z,Z,Z,Z,Z,Z,Z,Z,Z,Z,Z,Z,Z,Z,Z] rfl rfl hHeld ?_
          refine Last.tk 7 630 #[Y,Y,Y,Y,Y,Y,Y,Y,Z,Z,Z,Z,Z,Z,Z,Z,Z,Z,Z,Z,Z,Z,Z,Z,Z,Z,Z] rfl rfl hHeld ?_
          refine Last.tk 8 631 #[Y,Y,Y,Y,Y,Y,Y,Y,Y,Z,Z,Z,Z,Z,Z,Z,Z,Z,Z,Z,Z,Z,Z,Z,Z,Z,Z] rfl rfl hHeld ?_
          refine Last.tk 9 632 #[Y,Y,Y,Y,Y,Y,Y,Y,Y,Y,Z,Z,Z,Z,Z,Z,Z,Z,Z,Z,Z,Z,Z,Z,Z,Z,Z] rfl rfl hHeld ?_
          refine Last.tk 10 633 #[Y,Y,Y,Y,Y,Y,Y,Y,Y,Y,Y,Z,Z,Z,Z,Z,Z,Z,Z,Z,Z,Z,Z,Z,Z,Z,Z] rfl rfl hHeld ?_
          refine Last.tk 11 634 #[Y,Y,Y,Y,Y,Y,Y,Y,Y,Y,Y,Y,Z,Z,Z,Z,Z,Z,Z,Z,Z,Z,Z,Z,Z,Z,Z] rfl rfl hHeld ?_
          refine Last.tk 12 635 #[Y,Y,Y,Y,Y,Y,Y,Y,Y,Y,Y,Y,Y,Z,Z,Z,Z,Z,Z,Z,Z,Z,Z,Z,Z,Z,Z] rfl rfl hHeld ?_
          refine Last.tk 13 636 #[Y,Y,Y,Y,Y,Y,Y,Y,Y,Y,Y,Y,Y,Y,Z,Z,Z,Z,Z,Z,Z,Z,Z,Z,Z,Z,Z] rfl rfl hHeld ?_
          refine Last.tk 14 637 #[Y,Y,Y,Y,Y,Y,Y,Y,Y,Y,Y,Y,Y,Y,Y,Z,Z,Z,Z,Z,Z,Z,Z,Z,Z,Z,Z] rfl rfl hHeld ?_
          refine Last.tk 15 638 #[Y,Y,Y,Y,Y,Y,Y,Y,Y,Y,Y,Y,Y,Y,Y,Y,Z,Z,Z,Z,Z,Z,Z,Z,Z,Z,Z] rfl rfl hHeld ?_
          refine Last.tk 16 639 #[Y,Y,Y,Y,Y,Y,Y,Y,Y,Y,Y,Y,Y,Y,Y,Y,Y,Z,Z,Z,Z,Z,Z,Z,Z,Z,Z] rfl rfl hHeld ?_
          refine Last.tk 17 640 #[Y,Y,Y,Y,Y,Y,Y,Y,Y,Y,Y,Y,Y,Y,Y,Y,Y,Y,Z,Z,Z,Z,Z,Z,Z,Z,Z] rfl rfl hHeld ?_
          refine Last.tk 18 641 #[Y,Y,Y,Y,Y,Y,Y,Y,Y,Y,Y,Y,Y,Y,Y,Y,Y,Y,Y,Z,Z,Z,Z,Z,Z,Z,Z] rfl rfl hHeld ?_
          refine Last.tk 19 642 #[Y,Y,Y,Y,Y,Y,Y,Y,Y,Y,Y,Y,Y,Y,Y,Y,Y,Y,Y,Y,Z,Z,Z,Z,Z,Z,Z] rfl rfl hHeld ?_
          refine Last.tk 20 643 #[Y,Y,Y,Y,Y,Y,Y,Y,Y,Y,Y,Y,Y,Y,Y,Y,Y,Y,Y,Y,Y,Z,Z,Z,Z,Z,Z] rfl rfl hHeld ?_
          refine Last.tk 21 644 #[Y,Y,Y,Y,Y,Y,Y,Y,Y,Y,Y,Y,Y,Y,Y,Y,Y,Y,Y,Y,Y,Y,Z,Z,Z,Z,Z] rfl rfl hHeld ?_
          refine Last.tk 22 645 #[Y,Y,Y,Y,Y,Y,Y,Y,Y,Y,Y,Y,Y,Y,Y,Y,Y,Y,Y,Y,Y,Y,Y,Z,Z,Z,Z] rfl rfl hHeld ?_
          refine Last.tk 23 646 #[Y,Y,Y,Y,Y,Y,Y,Y,Y,Y,Y,Y,Y,Y,Y,Y,Y,Y,Y,Y,Y,Y,Y,Y,Z,Z,Z] rfl rfl hHeld ?_
          refine Last.tk 24 647 #[Y,Y,Y,Y,Y,Y,Y,Y,Y,Y,Y,Y,Y,Y,Y,Y,Y,Y,Y,Y,Y,Y,Y,Y,Y,Z,Z] rfl rfl hHeld ?_
          refine Last.tk 25 648 #[Y,Y,Y,Y,Y,Y,Y,Y,Y,Y,Y,Y,Y,Y,Y,Y,Y,Y,Y,Y,Y,Y,Y,Y,Y,Y,Z] rfl rfl hHeld ?_
          refine Last.last_ (i := 26) (N := none) #[Y,Y,Y,Y,Y,Y,Y,Y,Y,Y,Y,Y,Y,Y,Y,Y,Y,Y,Y,Y,Y,Y,Y,Y,Y,Y,Y] rfl rfl (by kernel_rfl) (by decide) (fun K hK => ?_)
          go_simp
          refine hK.out _ _ ?_
          clear hK K
          try simp only [Act.put, setIfInBounds_toArray, set_cons_zero, set_cons_succ]
          refine Last.done_ (by kernel_rfl) ?_
          have K7 := HC36.out.drew
          generalize (w34.setCell ⟨q, 1, none⟩ (.int .i64 (rq.count - 1 - rc.count))).drew = w36 at K7 ⊢
          clear HC36 x36_1 f1 hlt
          have HK37 : Hid (KS E S wc s [(n, ⟨rn.iso, rn.count, (List.set rn.items j y), (some (nb, no)), rn.icap, some ⟨kn.hdr, (some (kb, ko)), kn.cap, kn.kids⟩⟩), (l, ⟨rl.iso, (rl.count + 1 + rc.count), (rl.items ++ [md]), (some (gb13, gq13)), gc13, some ⟨kl.hdr, (some (gb26, gq26)), gc26, (kl.kids ++ [some c])⟩⟩), (q, ⟨rq.iso, (rq.count - 1 - rc.count), (List.drop 1 rq.items), (some (xb, xo)), rq.icap, some ⟨kq.hdr, (some (qb, qo)), kq.cap, (List.drop 1 kq.kids)⟩⟩), (c, rc)] w36) := hidp K7
          clear K7
          clear cc3 cch cck ccc hs1 hw1 hb2 hb4
          go_wp2
          go_end0
          exact ⟨rfl, _, _, _, _, HK37.out⟩
end Go.Proofs.Ytbjhnefienjncaa.Bt.IU
