/- Maps of numbers (sets): a leaf gives an item to the right. -/
import Derived.Test.YtbjhnefienjncaaBtIUr
namespace Go.Proofs.Ytbjhnefienjncaa.Bt.IU
set_option linter.unusedVariables false
set_option linter.unusedSimpArgs false
open Go Go.RowKit Go.Proofs.Ytbjhnefienjncaa.Bt
open Go.Proofs.Ytbjhnefienjncaa.Bt.Last (Y Z)
open _root_.List (setIfInBounds_toArray set_cons_zero set_cons_succ)

variable {S : Nat → Prop} {w : World} {s : Sto It}

set_option maxHeartbeats 40000000 in
set_option maxRecDepth 100000 in
/-- A leaf gives its last item to the right. -/
theorem reb_right_leaf (R : RepS E S w s) {n l q j ln lk ll lq : Nat} {rn rl rq : NodeR It} {kn : KidR} {nb no kb ko : Nat} {md : It} {i mx : Nat} {xb xo : Nat} {y : It} (H : Pair w s n l q j ln lk ll lq rn rl rq kn nb no kb ko md i mx) (hge : mx ≤ ll + lq) (hgt : lq < ll) (h1 : rl.kids = none) (h2 : rq.kids = none) (h0 : rl.ib = some (xb, xo)) (hy : rl.items[ll - 1]? = some y) :
    Calls Try.prog 138 #[.pointer (some ⟨s.m, 0, none⟩), .pointer (some ⟨n, 0, none⟩), .int .i64 i] w (fun e w' => e = .returned (.tuple #[]) ∧ ∃ pl ib2 ic2, ll = pl + 1 ∧ KS E S w s [(n, ⟨rn.iso, rn.count, List.set rn.items j y, some (nb, no), rn.icap, some ⟨kn.hdr, some (kb, ko), kn.cap, kn.kids⟩⟩), (l, ⟨rl.iso, rl.count - 1, List.take pl rl.items, some (xb, xo), rl.icap, rl.kids⟩), (q, ⟨rq.iso, rq.count + 1, md :: rq.items, ib2, ic2, rq.kids⟩)] w') := by
  have HH := hidp H
  have hj : j < ln := by rw [← H.len]; exact (List.getElem?_eq_some_iff.1 H.hmd).1
  obtain ⟨hnlt, _, _, n2, n3⟩ := ncell R H.hn
  obtain ⟨ba, n2'⟩ : ∃ ba, w.cell? ⟨n, 2, none⟩ = some (.slice ba ln rn.icap) := ⟨_, by rw [n2, H.len]; rfl⟩
  have n3' : w.cell? ⟨n, 3, none⟩ = some (.pointer (some ⟨kn.hdr, 0, none⟩)) := by rw [n3, H.hk]; rfl
  have kh : w.cell? ⟨kn.hdr, 0, none⟩ = some (.slice (some ⟨kb, ko, none⟩) lk kn.cap) := by
    have h := (R.hdr H.hn H.hk).cell 0 rfl
    rw [H.kib, H.kl] at h; exact h
  have k0 : w.cell? ⟨kb, ko + j, none⟩ = some (pv (some l)) := M_cell (R.kid H.hn H.hk H.kib H.kj)
  have k1 : w.cell? ⟨kb, ko + (j + 1), none⟩ = some (pv (some q)) := M_cell (R.kid H.hn H.hk H.kib H.kj1)
  have HI := hidp H.hi
  have hb1 := H.bn
  have hb2 := H.bl
  have hb3 := H.bq
  have hb4 := H.bm
  have hk1 := H.lk1
  have hk2 := H.lk2
  have hc1 := H.cl
  have hc2 := H.cq
  have jlt : (j : Int) < (lk : Int) := by omega
  have jlt2 : (j : Int) + 1 < (lk : Int) := by omega
  have jlt3 : (j : Int) < (ln : Int) := by omega
  obtain ⟨p, hp⟩ : ∃ p, ln = p + 1 := ⟨ln - 1, by omega⟩
  have HP := hidp hp
  have hp1 : p + 1 ≤ ln := by omega
  have hp2 : ln ≤ p + 1 := by omega
  have HR := hidp R
  have ern := node_eq H.nib H.hk H.kib
  have erl := node_eq3 h0
  have HS0 : Hid (KS E S w s [(n, ⟨rn.iso, rn.count, rn.items, some (nb, no), rn.icap, some ⟨kn.hdr, some (kb, ko), kn.cap, kn.kids⟩⟩), (l, ⟨rl.iso, rl.count, rl.items, some (xb, xo), rl.icap, rl.kids⟩), (q, rq)] w) := hidp (KS.start R (fun a r h => by
    simp only [List.mem_cons, List.not_mem_nil, or_false, Prod.mk.injEq] at h
    rcases h with ⟨rfl, rfl⟩ | ⟨rfl, rfl⟩ | ⟨rfl, rfl⟩
    · rw [← ern]; exact HH.out.hn
    · rw [← erl]; exact HH.out.hl
    · exact HH.out.hq) (by simpa using H.nd))
  have HMD := hidp H.hmd
  have HLn := hidp H.len
  have HLl := hidp H.lel
  have HLq := hidp H.leq
  have HLk := hidp H.kl
  have HMX := hidp H.hmx
  obtain ⟨i0, hi0, hz0, hz1, hz2⟩ := info_parts infoP
  obtain ⟨j0, hj0, hy0, hy1, hy2⟩ := info_parts infoK
  have HI0 := hidp hi0
  have HZ0 := hidp hz0
  have HZ1 := hidp hz1
  have HZ2 := hidp hz2
  have HJ0 := hidp hj0
  have HY0 := hidp hy0
  have HY1 := hidp hy1
  have HY2 := hidp hy2
  have H1 := hidp h1
  clear h1 h2
  obtain ⟨pl, hpl⟩ : ∃ p, ll = p + 1 := ⟨ll - 1, by omega⟩
  have HPL := hidp hpl
  have HY : Hid (rl.items[pl]? = some y) := hidp (by rw [hpl, Nat.add_sub_cancel] at hy; exact hy)
  have hpl1 : pl + 1 ≤ ll := by omega
  have hpl2 : ll ≤ pl + 1 := by omega
  clear hpl hy h0 erl
  clear H R n2 n3 hp ern hi0 hz0 hz1 hz2 hj0 hy0 hy1 hy2
  go_enter Try.func138, Try.ntmps138
  go_upto_if 14 with (fail)
  go_cut [2] from 14 to 16 (fun u wx => u = .int .i64 j ∧ wx = w)
  case first =>
    rcases HI.out with ⟨hi1, hi⟩ | ⟨hi1, hi⟩
    · have hi' : ((i : Int) == (ln : Int)) = false := beq_eq_false_iff_ne.2 (by omega)
      have hi2 : (i : Int) = (j : Int) := by omega
      have HI2 := hidp hi2
      clear hi1 hi hi2
      go_wp2
      go_meet
      exact ⟨by rw [HI2.out], rfl⟩
    · have hi' : ((i : Int) == (ln : Int)) = true := beq_iff_eq.2 (by omega)
      have hi2 : (i : Int) - 1 = (j : Int) := by omega
      have HI2 := hidp hi2
      have hi3 : 1 ≤ (i : Int) := by omega
      have hi4 : (i : Int) ≤ 100000 := by omega
      clear hi1 hi hi2
      go_wp2
      go_meet
      exact ⟨by first | rw [HI2.out] | rw [HI2.out, IntWalk.wrap64_in _ ⟨by omega, by omega⟩], rfl⟩
  case rest =>
    obtain ⟨rfl, rfl⟩ := hcut
    clear HI
    go_wp2_with fail
    refine (isoLoad_own HR.out (A := ⟨kb, ko + j, none⟩) k0 HH.out.hl HH.out.isol true).mono ?_
    rintro e w' ⟨rfl, a1, rfl⟩
    go_wp2_with fail
    refine (isoLoad_own (HR.out.drewN a1) (A := ⟨kb, ko + (j + 1), none⟩) k1 HH.out.hq HH.out.isoq true).mono ?_
    rintro e w' ⟨rfl, a2, rfl⟩
    have K1 := (HS0.out.drewN a1).drewN a2
    generalize (wc.drewN a1).drewN a2 = w1 at K1 ⊢
    have HK1 := hidp K1
    clear K1 n2' n3' kh k0 k1 jlt2 HS0 HR
    obtain ⟨l2A, l2⟩ : ∃ A, w1.cell? ⟨l, 2, none⟩ = some (.slice A (ll) rl.icap) := by
      have h : w1.cell? ⟨l, 2, none⟩ = some (sv (some (xb, xo)) (List.length rl.items) rl.icap) := HK1.out.n1.cell.2.2.2.1
      rw [HLl.out] at h; exact ⟨_, h⟩
    obtain ⟨q2A, q2⟩ : ∃ A, w1.cell? ⟨q, 2, none⟩ = some (.slice A (lq) rq.icap) := by
      have h : w1.cell? ⟨q, 2, none⟩ = some (sv rq.ib (List.length rq.items) rq.icap) := HK1.out.n2.cell.2.2.2.1
      rw [HLq.out] at h; exact ⟨_, h⟩
    have m7 : w1.cell? ⟨s.m, 6, none⟩ = some (.int .i64 mx) := by have h := HK1.out.map.1.cell 6 (v := .int .i64 s.mp.mx) rfl; rw [HMX.out] at h; exact h
    have hsm : IntKind.i64.wrap ((ll : Int) + (lq : Int)) = (ll : Int) + (lq : Int) := by rw [Last.i64_w]; exact IntWalk.wrap64_in _ ⟨by omega, by omega⟩
    have hmm : s.m < w1.heap.size := HK1.out.map.1.1
    have hlm : ¬ (ll : Int) + (lq : Int) < (mx : Int) := by omega
    go_wp2_with fail
    go_quiet (fail)
    have K2 := HK1.out.drewN nq
    generalize w1.drewN nq = w2 at K2 ⊢
    clear l2 q2 m7 hsm HK1
    have HK11 : Hid (KS E S wc s [(n, ⟨rn.iso, rn.count, rn.items, (some (nb, no)), rn.icap, some ⟨kn.hdr, (some (kb, ko)), kn.cap, kn.kids⟩⟩), (l, ⟨rl.iso, rl.count, rl.items, (some (xb, xo)), rl.icap, rl.kids⟩), (q, rq)] w2) := hidp K2
    clear K2
    obtain ⟨l3A, l3⟩ : ∃ A, w2.cell? ⟨l, 2, none⟩ = some (.slice A (ll) rl.icap) := by
      have h : w2.cell? ⟨l, 2, none⟩ = some (sv (some (xb, xo)) (List.length rl.items) rl.icap) := HK11.out.n1.cell.2.2.2.1
      rw [HLl.out] at h; exact ⟨_, h⟩
    obtain ⟨q3A, q3⟩ : ∃ A, w2.cell? ⟨q, 2, none⟩ = some (.slice A (lq) rq.icap) := by
      have h : w2.cell? ⟨q, 2, none⟩ = some (sv rq.ib (List.length rq.items) rq.icap) := HK11.out.n2.cell.2.2.2.1
      rw [HLq.out] at h; exact ⟨_, h⟩
    have hgt : (lq : Int) < (ll : Int) := by omega
    go_wp2_with fail
    go_quiet (fail)
    have K3 := HK11.out.drewN nq
    generalize w2.drewN nq = w3 at K3 ⊢
    clear l3 q3 hgt HK11
    have HK12 : Hid (KS E S wc s [(n, ⟨rn.iso, rn.count, rn.items, (some (nb, no)), rn.icap, some ⟨kn.hdr, (some (kb, ko)), kn.cap, kn.kids⟩⟩), (l, ⟨rl.iso, rl.count, rl.items, (some (xb, xo)), rl.icap, rl.kids⟩), (q, rq)] w3) := hidp K3
    clear K3
    have x13_2 : w3.cell? ⟨q, 2, none⟩ = some (sv rq.ib (lq) rq.icap) := by
      have h : w3.cell? ⟨q, 2, none⟩ = some (sv rq.ib (List.length rq.items) rq.icap) := HK12.out.n2.cell.2.2.2.1
      rw [HLq.out] at h; exact h
    have x13_4 : w3.cell? ⟨s.m, 4, none⟩ = some (Value.int .i64 0) := HK12.out.map.1.cell 4 rfl
    have x13_5 : w3.cell? ⟨s.m, 4, none⟩ = some (Value.int .i64 0) := HK12.out.map.1.cell 4 rfl
    have HW13 := hidp HK12.out.n2.wf
    go_wp2_with fail
    refine Last.start_ (S := fun w' => w'.cell? ⟨q, 2, none⟩ = some (sv rq.ib (lq) rq.icap) ∧ w'.cell? ⟨s.m, 4, none⟩ = some (Value.int .i64 0)) (ds := [13]) #[Z,Z,Z,Z,Z,Z,Z,Z,Z,Z,Z,Z,Z,Z] (by rfl) (by rfl) (by rfl) ?_ (fun hHeld => ?_)
    · go_keep
    refine Last.tk 0 223 #[Y,Z,Z,Z,Z,Z,Z,Z,Z,Z,Z,Z,Z,Z] rfl rfl hHeld ?_
    refine Last.tk 1 224 #[Y,Y,Z,Z,Z,Z,Z,Z,Z,Z,Z,Z,Z,Z] rfl rfl hHeld ?_
    refine Last.tk 2 225 #[Y,Y,Y,Z,Z,Z,Z,Z,Z,Z,Z,Z,Z,Z] rfl rfl hHeld ?_
    refine Last.tk 3 226 #[Y,Y,Y,Y,Z,Z,Z,Z,Z,Z,Z,Z,Z,Z] rfl rfl hHeld ?_
    refine Last.tk 4 227 #[Y,Y,Y,Y,Y,Z,Z,Z,Z,Z,Z,Z,Z,Z] rfl rfl hHeld ?_
    refine Last.tk 5 228 #[Y,Y,Y,Y,Y,Y,Z,Z,Z,Z,Z,Z,Z,Z] rfl rfl hHeld ?_
    refine Last.tk 6 229 #[Y,Y,Y,Y,Y,Y,Y,Z,Z,Z,Z,Z,Z,Z] rfl rfl hHeld ?_
    refine Last.tk 7 230 #[Y,Y,Y,Y,Y,Y,Y,Y,Z,Z,Z,Z,Z,Z] rfl rfl hHeld ?_
    refine Last.tk 8 231 #[Y,Y,Y,Y,Y,Y,Y,Y,Y,Z,Z,Z,Z,Z] rfl rfl hHeld ?_
    refine Last.one_ (i := 9) (N := some 232) #[Y,Y,Y,Y,Y,Y,Y,Y,Y,Y,Z,Z,Z,Z] rfl rfl (by kernel_rfl) (by decide) (fun K hK => ?_)
    go_simp
    refine hK.out _ _ ?_ (fun hHeld => ?_)
    · (try dsimp only); go_keep
    clear hK K
    try simp only [Act.put, setIfInBounds_toArray, set_cons_zero, set_cons_succ]
    refine Last.one_ (i := 10) (N := some 233) #[Y,Y,Y,Y,Y,Y,Y,Y,Y,Y,Y,Z,Z,Z] rfl rfl (by kernel_rfl) (by decide) (fun K hK => ?_)
    refine step_app (by rfl) _ _ _ (by rfl) 120 i0 _ 1 8 Try.underlying181 HI0.out HZ0.out HZ1.out HZ2.out rfl (by decide) rq.ib (lq) rq.icap (itemCells E rq.items) (by rfl) (fun h => ⟨by have e := (HW13.out.1 h).1; have e2 := congrArg List.length e; exact HLq.out.symm.trans e2, (HW13.out.1 h).2⟩) (by rw [itemCells_length, HLq.out]; rfl)
      (fun b o hb => (show KS E S wc s ([(n, ⟨rn.iso, rn.count, rn.items, (some (nb, no)), rn.icap, some ⟨kn.hdr, (some (kb, ko)), kn.cap, kn.kids⟩⟩), (l, ⟨rl.iso, rl.count, rl.items, (some (xb, xo)), rl.icap, rl.kids⟩)] ++ (q, rq) :: []) _ from (HK12.out.drew.alloc (.cells #[Value.int .i64 0] 120))).items hb) ⟨w3.heap.size, 0, none⟩ 1 1 [Value.int .i64 0] (by rfl) (by decide) (by rfl) (fun j u hj => by rw [Addr.add_lit, Nat.zero_add]; exact (Bx.new (w3.drew) [Value.int .i64 0] 120).cell j hj) (by simp [Value.oneCell']) (by unfold maxLen; omega) (by omega) ?_
    intro v' w13a happ
    obtain ⟨gb13, gq13, gc13, rfl⟩ := happ.form
    have K4 : KS E S wc s [(n, ⟨rn.iso, rn.count, rn.items, (some (nb, no)), rn.icap, some ⟨kn.hdr, (some (kb, ko)), kn.cap, kn.kids⟩⟩), (l, ⟨rl.iso, rl.count, rl.items, (some (xb, xo)), rl.icap, rl.kids⟩), (q, rq)] w13a := (show KS E S wc s ([(n, ⟨rn.iso, rn.count, rn.items, (some (nb, no)), rn.icap, some ⟨kn.hdr, (some (kb, ko)), kn.cap, kn.kids⟩⟩), (l, ⟨rl.iso, rl.count, rl.items, (some (xb, xo)), rl.icap, rl.kids⟩)] ++ (q, rq) :: []) _ from (HK12.out.drew.alloc (.cells #[Value.int .i64 0] 120))).app_keep (m := 1) HLq.out (by rfl) (.inr ⟨by decide, happ⟩)
    have y13_2 : w13a.cell? ⟨q, 2, none⟩ = some (sv rq.ib (lq) rq.icap) := by
      have h : w13a.cell? ⟨q, 2, none⟩ = some (sv rq.ib (List.length rq.items) rq.icap) := K4.n2.cell.2.2.2.1
      rw [HLq.out] at h; exact h
    have y13_4 : w13a.cell? ⟨s.m, 4, none⟩ = some (Value.int .i64 0) := K4.map.1.cell 4 rfl
    have y13_5 : w13a.cell? ⟨s.m, 4, none⟩ = some (Value.int .i64 0) := K4.map.1.cell 4 rfl
    have f2 := M_froz K4.n2.mem.2
    have HA4 := hidp (And.intro happ K4)
    clear happ K4
    refine hK.out _ _ ?_ (fun hHeld => ?_)
    · (try dsimp only); go_keep
    clear hK K
    try simp only [Act.put, setIfInBounds_toArray, set_cons_zero, set_cons_succ]
    refine Last.tk 11 234 #[Y,Y,Y,Y,Y,Y,Y,Y,Y,Y,Y,Y,Z,Z] rfl rfl hHeld ?_
    refine Last.tk 12 235 #[Y,Y,Y,Y,Y,Y,Y,Y,Y,Y,Y,Y,Y,Z] rfl rfl hHeld ?_
    refine Last.last_ (i := 13) (N := none) #[Y,Y,Y,Y,Y,Y,Y,Y,Y,Y,Y,Y,Y,Y] rfl rfl (by kernel_rfl) (by decide) (fun K hK => ?_)
    go_simp
    refine hK.out _ _ ?_
    clear hK K
    try simp only [Act.put, setIfInBounds_toArray, set_cons_zero, set_cons_succ]
    refine Last.done_ (by kernel_rfl) ?_
    obtain ⟨happ, K4⟩ := HA4.out
    obtain ⟨ib', cap', hv5, K5⟩ := (show KS E S wc s ([(n, ⟨rn.iso, rn.count, rn.items, (some (nb, no)), rn.icap, some ⟨kn.hdr, (some (kb, ko)), kn.cap, kn.kids⟩⟩), (l, ⟨rl.iso, rl.count, rl.items, (some (xb, xo)), rl.icap, rl.kids⟩)] ++ (q, rq) :: []) _ from (HK12.out.drew.alloc (.cells #[Value.int .i64 0] 120))).app_items [((0 : Int), ())] HLq.out rfl (.inr ⟨Nat.one_pos, happ⟩) (Upd.one w13a (b := q) (o := 2) _ (by rw [K4.n2.mem.2]; rfl))
    obtain ⟨rfl, rfl⟩ : ib' = some (gb13, gq13) ∧ gc13 = cap' := sv_inj hv5
    clear happ hv5 K4 HA4 HW13 y13_2 y13_4 y13_5 f2 x13_2 x13_4 x13_5
    have HL13 : Hid (List.length (rq.items ++ [((0 : Int), ())]) = lq + 1) := hidp (by rw [List.length_append, HLq.out]; rfl)
    generalize w13a.setCell ⟨q, 2, none⟩ (.slice (some ⟨gb13, gq13, none⟩) (lq + 1) gc13) = w13 at K5 ⊢
    have HK14 : Hid (KS E S wc s [(n, ⟨rn.iso, rn.count, rn.items, (some (nb, no)), rn.icap, some ⟨kn.hdr, (some (kb, ko)), kn.cap, kn.kids⟩⟩), (l, ⟨rl.iso, rl.count, rl.items, (some (xb, xo)), rl.icap, rl.kids⟩), (q, ⟨rq.iso, rq.count, (rq.items ++ [((0 : Int), ())]), (some (gb13, gq13)), gc13, rq.kids⟩)] w13) := hidp K5
    clear K5 HK12
    have x15_2 : w13.cell? ⟨q, 2, none⟩ = some (.slice (some ⟨gb13, gq13, none⟩) (lq + 1) gc13) := by
      have h : w13.cell? ⟨q, 2, none⟩ = some (sv (some (gb13, gq13)) (List.length (rq.items ++ [((0 : Int), ())])) gc13) := HK14.out.n2.cell.2.2.2.1
      rw [HL13.out] at h; exact h
    have hcap15 : lq + 1 ≤ gc13 := by have h := HK14.out.n2.wf.2.2.1; rw [HL13.out] at h; exact h
    have hb1 : (1 : Int) ≤ (lq : Int) + 1 := by omega
    go_wp2_with fail
    go_region_held3 (fun w' => w'.cell? ⟨q, 2, none⟩ = some (.slice (some ⟨gb13, gq13, none⟩) (lq + 1) gc13)) (go_keep)
      ((refine step_copy (by rfl) _ _ _ _ (by rfl) 120 i0 1 Try.underlying181 HI0.out HZ1.out gb13 (gq13 + 1) (lq) (gc13 - 1) ?hd gb13 gq13 (lq + 1) gc13 ?hx (itemCells E (List.drop 0 rq.items)) ?hn (fun j' v hj => ?hs) ?hc (itemCells_one _) ?_
        case hd => (simp [Act.eval]; try omega)
        case hx => (simp [Act.eval]; try omega)
        case hn =>
          have e : Nat.min (lq + 1) (lq) = lq := Nat.min_eq_right (by omega)
          rw [itemCells_length, List.drop_zero, HLq.out, e]; rfl
        case hs =>
          have hj2 : (itemCells E rq.items)[j']? = some v := hj
          have h := (HK14.out.drew.n2.items (b := gb13) (o := gq13) rfl).val j' v (by
            show (itemCells E (rq.items ++ [((0 : Int), ())]))[j']? = some v
            rw [itemCells_append, List.getElem?_append_left (List.getElem?_eq_some_iff.1 hj2).1]; exact hj2)
          exact h
        case hc =>
          intro j' hj
          rw [itemCells_length, List.drop_zero, HLq.out] at hj
          have h := (HK14.out.drew.n2.items (b := gb13) (o := gq13) rfl).some (1 + j') (by show 1 + j' < gc13 * E.sz; have h2 : E.sz = 1 := rfl; rw [h2] at hj ⊢; omega)
          rw [Nat.add_assoc]; exact h
        intro w15a hu6
        have K6 := HK14.out.drew.n2.set_items (b := gb13) (o := gq13) rfl (i := 0 + 1) (List.drop 0 rq.items) (by show _ ≤ List.length (rq.items ++ [((0 : Int), ())]); rw [List.drop_zero, HLq.out, HL13.out]; omega) (by rfl) hu6
        have HL15 : Hid (List.length (List.take (0 + 1) (rq.items ++ [((0 : Int), ())]) ++ List.drop 0 rq.items ++ List.drop (0 + 1 + (List.drop 0 rq.items).length) (rq.items ++ [((0 : Int), ())])) = lq + 1) := hidp (by simp only [List.length_append, List.length_take, List.length_drop, List.length_singleton, HLq.out]; omega)
        have HC15 : Hid (KS E S wc s [(n, ⟨rn.iso, rn.count, rn.items, (some (nb, no)), rn.icap, some ⟨kn.hdr, (some (kb, ko)), kn.cap, kn.kids⟩⟩), (l, ⟨rl.iso, rl.count, rl.items, (some (xb, xo)), rl.icap, rl.kids⟩), (q, ⟨rq.iso, rq.count, (List.take (0 + 1) (rq.items ++ [((0 : Int), ())]) ++ List.drop 0 rq.items ++ List.drop (0 + 1 + (List.drop 0 rq.items).length) (rq.items ++ [((0 : Int), ())])), (some (gb13, gq13)), gc13, rq.kids⟩)] w15a) := hidp K6
        clear K6 hu6
        have y15_2 : w15a.cell? ⟨q, 2, none⟩ = some (.slice (some ⟨gb13, gq13, none⟩) (lq + 1) gc13) := by
          have h : w15a.cell? ⟨q, 2, none⟩ = some (sv (some (gb13, gq13)) (List.length (List.take (0 + 1) (rq.items ++ [((0 : Int), ())]) ++ List.drop 0 rq.items ++ List.drop (0 + 1 + (List.drop 0 rq.items).length) (rq.items ++ [((0 : Int), ())]))) gc13) := HC15.out.n2.cell.2.2.2.1
          rw [HL15.out] at h; exact h))
    generalize (if gc13 = 1 then (some ⟨gb13, gq13, none⟩ : Option Addr) else some ⟨gb13, gq13 + 1, none⟩) = zz15
    clear HK14 x15_2 y15_2 hb1
    have x16_2 : w15a.cell? ⟨q, 2, none⟩ = some (.slice (some ⟨gb13, gq13, none⟩) (lq + 1) gc13) := by
      have h : w15a.cell? ⟨q, 2, none⟩ = some (sv (some (gb13, gq13)) (List.length (List.take (0 + 1) (rq.items ++ [((0 : Int), ())]) ++ List.drop 0 rq.items ++ List.drop (0 + 1 + (List.drop 0 rq.items).length) (rq.items ++ [((0 : Int), ())]))) gc13) := HC15.out.n2.cell.2.2.2.1
      rw [HL15.out] at h; exact h
    have x16_3 : w15a.cell? ⟨n, 2, none⟩ = some (.slice (some ⟨nb, no, none⟩) (ln) rn.icap) := by
      have h : w15a.cell? ⟨n, 2, none⟩ = some (sv (some (nb, no)) (List.length rn.items) rn.icap) := HC15.out.n0.cell.2.2.2.1
      rw [HLn.out] at h; exact h
    have x16_4 : w15a.cell? ⟨nb, no + j, none⟩ = some (Value.int .i64 md.1) := M_cell (kitem HC15.out.n0 (b := nb) (o := no) rfl (i := j) HMD.out).1
    have x16_5 : w15a.cell? ⟨nb, no + j, none⟩ = some (Value.int .i64 md.1) := M_cell (kitem HC15.out.n0 (b := nb) (o := no) rfl (i := j) HMD.out).2
    
    have hcap16 : lq + 1 ≤ gc13 := by have h := HC15.out.n2.wf.2.2.1; rw [HL15.out] at h; exact h
    have ci := (HC15.out.n2.items (b := gb13) (o := gq13) rfl).some (0) (by show 0 < gc13 * E.sz; have h2 : E.sz = 1 := rfl; rw [h2]; omega)
    have ci2 := (HC15.out.n2.items (b := gb13) (o := gq13) rfl).some (0) (by show 0 < gc13 * E.sz; have h2 : E.sz = 1 := rfl; rw [h2]; omega)
    have ci' : (M w15a gb13 gq13).isSome = true := by have h := ci; simpa using h
    have ci2' : (M w15a gb13 (gq13)).isSome = true := by have h := ci2; simpa using h
    obtain ⟨z1, hz1'⟩ := Option.isSome_iff_exists.1 ci'
    obtain ⟨z2, hz2'⟩ := Option.isSome_iff_exists.1 ci2'
    have e1 : w15a.cell? ⟨gb13, gq13, none⟩ = some z1 := M_cell hz1'
    have e2 : w15a.cell? ⟨gb13, gq13, none⟩ = some z2 := M_cell hz2'
    have f1 : w15a.frozen? ⟨gb13, gq13, none⟩ = false := M_froz hz1'
    have f2 : w15a.frozen? ⟨gb13, gq13, none⟩ = false := M_froz hz2'
    have hu := Upd.one w15a (b := gb13) (o := gq13) (Value.int .i64 md.1) (by exact ci2')
    have K6 := HC15.out.n2.set_item (b := gb13) (o := gq13) rfl (i := 0) md (by show _ < List.length (List.take (0 + 1) (rq.items ++ [((0 : Int), ())]) ++ List.drop 0 rq.items ++ List.drop (0 + 1 + (List.drop 0 rq.items).length) (rq.items ++ [((0 : Int), ())])); rw [HL15.out]; omega) (by simp) hu
    have HL16 : Hid (List.length (List.set (List.take (0 + 1) (rq.items ++ [((0 : Int), ())]) ++ List.drop 0 rq.items ++ List.drop (0 + 1 + (List.drop 0 rq.items).length) (rq.items ++ [((0 : Int), ())])) 0 md) = lq + 1) := hidp (by rw [List.length_set]; exact HL15.out)
    have hblt : gb13 < w15a.heap.size := HC15.out.n2.blt (b := gb13) (o := gq13) rfl
    have HC16 : Hid (KS E S wc s [(n, ⟨rn.iso, rn.count, rn.items, (some (nb, no)), rn.icap, some ⟨kn.hdr, (some (kb, ko)), kn.cap, kn.kids⟩⟩), (l, ⟨rl.iso, rl.count, rl.items, (some (xb, xo)), rl.icap, rl.kids⟩), (q, ⟨rq.iso, rq.count, (List.set (List.take (0 + 1) (rq.items ++ [((0 : Int), ())]) ++ List.drop 0 rq.items ++ List.drop (0 + 1 + (List.drop 0 rq.items).length) (rq.items ++ [((0 : Int), ())])) 0 md), (some (gb13, gq13)), gc13, rq.kids⟩)] (w15a.setCell ⟨gb13, gq13, none⟩ (Value.int .i64 md.1))) := hidp K6
    clear ci ci2 hz1' hz2' hu K6 HC15 ci' ci2'
    go_wp2_with fail
    refine Last.start_ (S := fun w' => w'.cell? ⟨q, 2, none⟩ = some (.slice (some ⟨gb13, gq13, none⟩) (lq + 1) gc13) ∧ w'.cell? ⟨n, 2, none⟩ = some (.slice (some ⟨nb, no, none⟩) (ln) rn.icap) ∧ w'.cell? ⟨nb, no + j, none⟩ = some (Value.int .i64 md.1)) (ds := [12]) #[Z,Z,Z,Z,Z,Z,Z,Z,Z,Z,Z,Z,Z] (by rfl) (by rfl) (by rfl) ?_ (fun hHeld => ?_)
    · go_keep
    refine Last.tk 0 246 #[Y,Z,Z,Z,Z,Z,Z,Z,Z,Z,Z,Z,Z] rfl rfl hHeld ?_
    refine Last.tk 1 247 #[Y,Y,Z,Z,Z,Z,Z,Z,Z,Z,Z,Z,Z] rfl rfl hHeld ?_
    refine Last.tk 2 248 #[Y,Y,Y,Z,Z,Z,Z,Z,Z,Z,Z,Z,Z] rfl rfl hHeld ?_
    refine Last.tk 3 249 #[Y,Y,Y,Y,Z,Z,Z,Z,Z,Z,Z,Z,Z] rfl rfl hHeld ?_
    refine Last.tk 4 250 #[Y,Y,Y,Y,Y,Z,Z,Z,Z,Z,Z,Z,Z] rfl rfl hHeld ?_
    refine Last.tk 5 251 #[Y,Y,Y,Y,Y,Y,Z,Z,Z,Z,Z,Z,Z] rfl rfl hHeld ?_
    refine Last.tk 6 252 #[Y,Y,Y,Y,Y,Y,Y,Z,Z,Z,Z,Z,Z] rfl rfl hHeld ?_
    refine Last.tk 7 253 #[Y,Y,Y,Y,Y,Y,Y,Y,Z,Z,Z,Z,Z] rfl rfl hHeld ?_
    refine Last.tk 8 254 #[Y,Y,Y,Y,Y,Y,Y,Y,Y,Z,Z,Z,Z] rfl rfl hHeld ?_
    refine Last.tk 9 255 #[Y,Y,Y,Y,Y,Y,Y,Y,Y,Y,Z,Z,Z] rfl rfl hHeld ?_
    refine Last.tk 10 256 #[Y,Y,Y,Y,Y,Y,Y,Y,Y,Y,Y,Z,Z] rfl rfl hHeld ?_
    refine Last.tk 11 257 #[Y,Y,Y,Y,Y,Y,Y,Y,Y,Y,Y,Y,Z] rfl rfl hHeld ?_
    refine Last.last_ (i := 12) (N := none) #[Y,Y,Y,Y,Y,Y,Y,Y,Y,Y,Y,Y,Y] rfl rfl (by kernel_rfl) (by decide) (fun K hK => ?_)
    go_simp
    refine hK.out _ _ ?_
    clear hK K
    try simp only [Act.put, setIfInBounds_toArray, set_cons_zero, set_cons_succ]
    refine Last.done_ (by kernel_rfl) ?_
    have K7 := HC16.out.drew
    generalize (w15a.setCell ⟨gb13, gq13, none⟩ (Value.int .i64 md.1)).drew = w16 at K7 ⊢
    clear HC16 x16_2 x16_3 x16_4 x16_5 e1 e2 f1 f2 hblt 
    have hsh : (List.set (List.take (0 + 1) (rq.items ++ [((0 : Int), ())]) ++ List.drop 0 rq.items ++ List.drop (0 + 1 + (List.drop 0 rq.items).length) (rq.items ++ [((0 : Int), ())])) 0 md) = (md :: rq.items) := (shift_set (i := 0) (Nat.zero_le _)).trans rfl
    have HLs16 : Hid (List.length (md :: rq.items) = lq + 1) := hidp (by rw [← hsh]; exact HL16.out)
    rw [hsh] at K7
    have HK17 : Hid (KS E S wc s [(n, ⟨rn.iso, rn.count, rn.items, (some (nb, no)), rn.icap, some ⟨kn.hdr, (some (kb, ko)), kn.cap, kn.kids⟩⟩), (l, ⟨rl.iso, rl.count, rl.items, (some (xb, xo)), rl.icap, rl.kids⟩), (q, ⟨rq.iso, rq.count, (md :: rq.items), (some (gb13, gq13)), gc13, rq.kids⟩)] w16) := hidp K7
    clear K7 hsh
    have x18_1 : w16.cell? ⟨q, 1, none⟩ = some (.int .i64 rq.count) := HK17.out.n2.cell.2.2.1
    have f1 := M_froz HK17.out.n2.mem.1
    have hlt : q < w16.heap.size := HK17.out.n2.cell.1
    have K6 := HK17.out.n2.count (rq.count + 1) (Upd.one w16 (b := q) (o := 1) (.int .i64 (rq.count + 1)) (by rw [HK17.out.n2.mem.1]; rfl))
    have HC18 : Hid (KS E S wc s [(n, ⟨rn.iso, rn.count, rn.items, (some (nb, no)), rn.icap, some ⟨kn.hdr, (some (kb, ko)), kn.cap, kn.kids⟩⟩), (l, ⟨rl.iso, rl.count, rl.items, (some (xb, xo)), rl.icap, rl.kids⟩), (q, ⟨rq.iso, (rq.count + 1), (md :: rq.items), (some (gb13, gq13)), gc13, rq.kids⟩)] (w16.setCell ⟨q, 1, none⟩ (.int .i64 (rq.count + 1)))) := hidp K6
    clear K6 HK17
    go_wp2_with fail
    have K7 := HC18.out
    generalize (w16.setCell ⟨q, 1, none⟩ (.int .i64 (rq.count + 1))) = w18 at K7 ⊢
    clear HC18 x18_1 f1 hlt
    have HK19 : Hid (KS E S wc s [(n, ⟨rn.iso, rn.count, rn.items, (some (nb, no)), rn.icap, some ⟨kn.hdr, (some (kb, ko)), kn.cap, kn.kids⟩⟩), (l, ⟨rl.iso, rl.count, rl.items, (some (xb, xo)), rl.icap, rl.kids⟩), (q, ⟨rq.iso, (rq.count + 1), (md :: rq.items), (some (gb13, gq13)), gc13, rq.kids⟩)] w18) := hidp K7
    clear K7
    have x20_2 : w18.cell? ⟨n, 2, none⟩ = some (.slice (some ⟨nb, no, none⟩) (ln) rn.icap) := by
      have h : w18.cell? ⟨n, 2, none⟩ = some (sv (some (nb, no)) (List.length rn.items) rn.icap) := HK19.out.n0.cell.2.2.2.1
      rw [HLn.out] at h; exact h
    have x20_3 : w18.cell? ⟨l, 2, none⟩ = some (.slice (some ⟨xb, xo, none⟩) (ll) rl.icap) := by
      have h : w18.cell? ⟨l, 2, none⟩ = some (sv (some (xb, xo)) (List.length rl.items) rl.icap) := HK19.out.n1.cell.2.2.2.1
      rw [HLl.out] at h; exact h
    have x20_4 : w18.cell? ⟨xb, xo + pl, none⟩ = some (Value.int .i64 y.1) := M_cell (kitem HK19.out.n1 (b := xb) (o := xo) rfl (i := pl) HY.out).1
    have x20_5 : w18.cell? ⟨xb, xo + pl, none⟩ = some (Value.int .i64 y.1) := M_cell (kitem HK19.out.n1 (b := xb) (o := xo) rfl (i := pl) HY.out).2
    have hw1 : IntKind.i64.wrap ((ll : Int) - 1) = (pl : Int) := by rw [Last.i64_w, IntWalk.wrap64_in _ ⟨by omega, by omega⟩]; omega
    have hb1 : (pl : Int) < (ll : Int) := by omega
    have hcap20 : ln ≤ rn.icap := by have h := HK19.out.n0.wf.2.2.1; rw [HLn.out] at h; exact h
    have ci := (HK19.out.n0.items (b := nb) (o := no) rfl).some (j) (by show j < rn.icap * E.sz; have h2 : E.sz = 1 := rfl; rw [h2]; omega)
    have ci2 := (HK19.out.n0.items (b := nb) (o := no) rfl).some (j) (by show j < rn.icap * E.sz; have h2 : E.sz = 1 := rfl; rw [h2]; omega)
    obtain ⟨z1, hz1'⟩ := Option.isSome_iff_exists.1 ci
    obtain ⟨z2, hz2'⟩ := Option.isSome_iff_exists.1 ci2
    have e1 : w18.cell? ⟨nb, no + j, none⟩ = some z1 := M_cell hz1'
    have e2 : w18.cell? ⟨nb, no + j, none⟩ = some z2 := M_cell hz2'
    have f1 : w18.frozen? ⟨nb, no + j, none⟩ = false := M_froz hz1'
    have f2 : w18.frozen? ⟨nb, no + j, none⟩ = false := M_froz hz2'
    have hu := Upd.one w18 (b := nb) (o := no + j) (Value.int .i64 y.1) (by exact ci2)
    have K6 := HK19.out.n0.set_item (b := nb) (o := no) rfl (i := j) y (by show _ < List.length rn.items; rw [HLn.out]; omega) (by show _ = _ + _ * 1; rw [Nat.mul_one]) hu
    have HL20 : Hid (List.length (List.set rn.items j y) = ln) := hidp (by rw [List.length_set]; exact HLn.out)
    have hblt : nb < w18.heap.size := HK19.out.n0.blt (b := nb) (o := no) rfl
    have HC20 : Hid (KS E S wc s [(n, ⟨rn.iso, rn.count, (List.set rn.items j y), (some (nb, no)), rn.icap, some ⟨kn.hdr, (some (kb, ko)), kn.cap, kn.kids⟩⟩), (l, ⟨rl.iso, rl.count, rl.items, (some (xb, xo)), rl.icap, rl.kids⟩), (q, ⟨rq.iso, (rq.count + 1), (md :: rq.items), (some (gb13, gq13)), gc13, rq.kids⟩)] (w18.setCell ⟨nb, no + j, none⟩ (Value.int .i64 y.1))) := hidp K6
    clear ci ci2 hz1' hz2' hu K6 HK19 
    go_wp2_with fail
    refine Last.start_ (S := fun w' => w'.cell? ⟨n, 2, none⟩ = some (.slice (some ⟨nb, no, none⟩) (ln) rn.icap) ∧ w'.cell? ⟨l, 2, none⟩ = some (.slice (some ⟨xb, xo, none⟩) (ll) rl.icap) ∧ w'.cell? ⟨xb, xo + pl, none⟩ = some (Value.int .i64 y.1)) (ds := [18]) #[Z,Z,Z,Z,Z,Z,Z,Z,Z,Z,Z,Z,Z,Z,Z,Z,Z,Z,Z] (by rfl) (by rfl) (by rfl) ?_ (fun hHeld => ?_)
    · go_keep
    refine Last.tk 0 265 #[Y,Z,Z,Z,Z,Z,Z,Z,Z,Z,Z,Z,Z,Z,Z,Z,Z,Z,Z] rfl rfl hHeld ?_
    refine Last.tk 1 266 #[Y,Y,Z,Z,Z,Z,Z,Z,Z,Z,Z,Z,Z,Z,Z,Z,Z,Z,Z] rfl rfl hHeld ?_
    refine Last.tk 2 267 #[Y,Y,Y,Z,Z,Z,Z,Z,Z,Z,Z,Z,Z,Z,Z,Z,Z,Z,Z] rfl rfl hHeld ?_
    refine Last.tk 3 268 #[Y,Y,Y,Y,Z,Z,Z,Z,Z,Z,Z,Z,Z,Z,Z,Z,Z,Z,Z] rfl rfl hHeld ?_
    refine Last.tk 4 269 #[Y,Y,Y,Y,Y,Z,Z,Z,Z,Z,Z,Z,Z,Z,Z,Z,Z,Z,Z] rfl rfl hHeld ?_
    refine Last.tk 5 270 #[Y,Y,Y,Y,Y,Y,Z,Z,Z,Z,Z,Z,Z,Z,Z,Z,Z,Z,Z] rfl rfl hHeld ?_
    refine Last.tk 6 271 #[Y,Y,Y,Y,Y,Y,Y,Z,Z,Z,Z,Z,Z,Z,Z,Z,Z,Z,Z] rfl rfl hHeld ?_
    refine Last.tk 7 272 #[Y,Y,Y,Y,Y,Y,Y,Y,Z,Z,Z,Z,Z,Z,Z,Z,Z,Z,Z] rfl rfl hHeld ?_
    refine Last.tk 8 273 #[Y,Y,Y,Y,Y,Y,Y,Y,Y,Z,Z,Z,Z,Z,Z,Z,Z,Z,Z] rfl rfl hHeld ?_
    refine Last.tk 9 274 #[Y,Y,Y,Y,Y,Y,Y,Y,Y,Y,Z,Z,Z,Z,Z,Z,Z,Z,Z] rfl rfl hHeld ?_
    refine Last.tk 10 275 #[Y,Y,Y,Y,Y,Y,Y,Y,Y,Y,Y,Z,Z,Z,Z,Z,Z,Z,Z] rfl rfl hHeld ?_
    refine Last.tk 11 276 #[Y,Y,Y,Y,Y,Y,Y,Y,Y,Y,Y,Y,Z,Z,Z,Z,Z,Z,Z] rfl rfl hHeld ?_
    refine Last.tk 12 277 #[Y,Y,Y,Y,Y,Y,Y,Y,Y,Y,Y,Y,Y,Z,Z,Z,Z,Z,Z] rfl rfl hHeld ?_
    refine Last.tk 13 278 #[Y,Y,Y,Y,Y,Y,Y,Y,Y,Y,Y,Y,Y,Y,Z,Z,Z,Z,Z] rfl rfl hHeld ?_
    refine Last.tk 14 279 #[Y,Y,Y,Y,Y,Y,Y,Y,Y,Y,Y,Y,Y,Y,Y,Z,Z,Z,Z] rfl rfl hHeld ?_
    refine Last.tk 15 280 #[Y,Y,Y,Y,Y,Y,Y,Y,Y,Y,Y,Y,Y,Y,Y,Y,Z,Z,Z] rfl rfl hHeld ?_
    refine Last.tk 16 281 #[Y,Y,Y,Y,Y,Y,Y,Y,Y,Y,Y,Y,Y,Y,Y,Y,Y,Z,Z] rfl rfl hHeld ?_
    refine Last.tk 17 282 #[Y,Y,Y,Y,Y,Y,Y,Y,Y,Y,Y,Y,Y,Y,Y,Y,Y,Y,Z] rfl rfl hHeld ?_
    refine Last.last_ (i := 18) (N := none) #[Y,Y,Y,Y,Y,Y,Y,Y,Y,Y,Y,Y,Y,Y,Y,Y,Y,Y,Y] rfl rfl (by kernel_rfl) (by decide) (fun K hK => ?_)
    go_simp
    refine hK.out _ _ ?_
    clear hK K
    try simp only [Act.put, setIfInBounds_toArray, set_cons_zero, set_cons_succ]
    refine Last.done_ (by kernel_rfl) ?_
    have K7 := HC20.out.drew
    generalize (w18.setCell ⟨nb, no + j, none⟩ (Value.int .i64 y.1)).drew = w20 at K7 ⊢
    clear HC20 x20_2 x20_3 x20_4 x20_5 e1 e2 f1 f2 hblt 
    have HK21 : Hid (KS E S wc s [(n, ⟨rn.iso, rn.count, (List.set rn.items j y), (some (nb, no)), rn.icap, some ⟨kn.hdr, (some (kb, ko)), kn.cap, kn.kids⟩⟩), (l, ⟨rl.iso, rl.count, rl.items, (some (xb, xo)), rl.icap, rl.kids⟩), (q, ⟨rq.iso, (rq.count + 1), (md :: rq.items), (some (gb13, gq13)), gc13, rq.kids⟩)] w20) := hidp K7
    clear K7
    clear hw1 hb1
    have x22_2 : w20.cell? ⟨l, 2, none⟩ = some (.slice (some ⟨xb, xo, none⟩) (ll) rl.icap) := by
      have h : w20.cell? ⟨l, 2, none⟩ = some (sv (some (xb, xo)) (List.length rl.items) rl.icap) := HK21.out.n1.cell.2.2.2.1
      rw [HLl.out] at h; exact h
    have x22_4 : w20.cell? ⟨s.m, 4, none⟩ = some (Value.int .i64 0) := HK21.out.map.1.cell 4 rfl
    have x22_5 : w20.cell? ⟨s.m, 4, none⟩ = some (Value.int .i64 0) := HK21.out.map.1.cell 4 rfl
    have hcap22 : ll ≤ rl.icap := by have h := HK21.out.n1.wf.2.2.1; rw [HLl.out] at h; exact h
    have ci := (HK21.out.n1.items (b := xb) (o := xo) rfl).some (pl) (by show pl < rl.icap * E.sz; have h2 : E.sz = 1 := rfl; rw [h2]; omega)
    have ci2 := (HK21.out.n1.items (b := xb) (o := xo) rfl).some (pl) (by show pl < rl.icap * E.sz; have h2 : E.sz = 1 := rfl; rw [h2]; omega)
    obtain ⟨z1, hz1'⟩ := Option.isSome_iff_exists.1 ci
    obtain ⟨z2, hz2'⟩ := Option.isSome_iff_exists.1 ci2
    have e1 : w20.cell? ⟨xb, xo + pl, none⟩ = some z1 := M_cell hz1'
    have e2 : w20.cell? ⟨xb, xo + pl, none⟩ = some z2 := M_cell hz2'
    have f1 : w20.frozen? ⟨xb, xo + pl, none⟩ = false := M_froz hz1'
    have f2 : w20.frozen? ⟨xb, xo + pl, none⟩ = false := M_froz hz2'
    have hu := Upd.one w20 (b := xb) (o := xo + pl) (Value.int .i64 0) (by exact ci2)
    have K6 := HK21.out.n1.set_item (b := xb) (o := xo) rfl (i := pl) ((0 : Int), ()) (by show _ < List.length rl.items; rw [HLl.out]; omega) (by show _ = _ + _ * 1; rw [Nat.mul_one]) hu
    have HL22 : Hid (List.length (List.set rl.items pl ((0 : Int), ())) = ll) := hidp (by rw [List.length_set]; exact HLl.out)
    have hblt : xb < w20.heap.size := HK21.out.n1.blt (b := xb) (o := xo) rfl
    have hw1 : IntKind.i64.wrap (((ll : Nat) : Int) - 1) = (pl : Int) := by rw [Last.i64_w, IntWalk.wrap64_in _ ⟨by omega, by omega⟩]; omega
    have hb1 : (pl : Int) < ((ll : Nat) : Int) := by omega
    have hb2 : (pl : Int) ≤ ((ll : Nat) : Int) := by omega
    have HC22 : Hid (KS E S wc s [(n, ⟨rn.iso, rn.count, (List.set rn.items j y), (some (nb, no)), rn.icap, some ⟨kn.hdr, (some (kb, ko)), kn.cap, kn.kids⟩⟩), (l, ⟨rl.iso, rl.count, (List.set rl.items pl ((0 : Int), ())), (some (xb, xo)), rl.icap, rl.kids⟩), (q, ⟨rq.iso, (rq.count + 1), (md :: rq.items), (some (gb13, gq13)), gc13, rq.kids⟩)] (w20.setCell ⟨xb, xo + pl, none⟩ (Value.int .i64 0))) := hidp K6
    clear ci ci2 hz1' hz2' hu K6 HK21
    go_wp2_with fail
    refine Last.start_ (S := fun w' => w'.cell? ⟨l, 2, none⟩ = some (.slice (some ⟨xb, xo, none⟩) (ll) rl.icap) ∧ w'.cell? ⟨s.m, 4, none⟩ = some (Value.int .i64 0)) (ds := [15]) #[Z,Z,Z,Z,Z,Z,Z,Z,Z,Z,Z,Z,Z,Z,Z,Z] (by rfl) (by rfl) (by rfl) ?_ (fun hHeld => ?_)
    · go_keep
    refine Last.tk 0 283 #[Y,Z,Z,Z,Z,Z,Z,Z,Z,Z,Z,Z,Z,Z,Z,Z] rfl rfl hHeld ?_
    refine Last.tk 1 284 #[Y,Y,Z,Z,Z,Z,Z,Z,Z,Z,Z,Z,Z,Z,Z,Z] rfl rfl hHeld ?_
    refine Last.tk 2 285 #[Y,Y,Y,Z,Z,Z,Z,Z,Z,Z,Z,Z,Z,Z,Z,Z] rfl rfl hHeld ?_
    refine Last.tk 3 286 #[Y,Y,Y,Y,Z,Z,Z,Z,Z,Z,Z,Z,Z,Z,Z,Z] rfl rfl hHeld ?_
    refine Last.tk 4 287 #[Y,Y,Y,Y,Y,Z,Z,Z,Z,Z,Z,Z,Z,Z,Z,Z] rfl rfl hHeld ?_
    refine Last.tk 5 288 #[Y,Y,Y,Y,Y,Y,Z,Z,Z,Z,Z,Z,Z,Z,Z,Z] rfl rfl hHeld ?_
    refine Last.tk 6 289 #[Y,Y,Y,Y,Y,Y,Y,Z,Z,Z,Z,Z,Z,Z,Z,Z] rfl rfl hHeld ?_
    refine Last.tk 7 290 #[Y,Y,Y,Y,Y,Y,Y,Y,Z,Z,Z,Z,Z,Z,Z,Z] rfl rfl hHeld ?_
    refine Last.tk 8 291 #[Y,Y,Y,Y,Y,Y,Y,Y,Y,Z,Z,Z,Z,Z,Z,Z] rfl rfl hHeld ?_
    refine Last.tk 9 292 #[Y,Y,Y,Y,Y,Y,Y,Y,Y,Y,Z,Z,Z,Z,Z,Z] rfl rfl hHeld ?_
    refine Last.tk 10 293 #[Y,Y,Y,Y,Y,Y,Y,Y,Y,Y,Y,Z,Z,Z,Z,Z] rfl rfl hHeld ?_
    refine Last.tk 11 294 #[Y,Y,Y,Y,Y,Y,Y,Y,Y,Y,Y,Y,Z,Z,Z,Z] rfl rfl hHeld ?_
    refine Last.tk 12 295 #[Y,Y,Y,Y,Y,Y,Y,Y,Y,Y,Y,Y,Y,Z,Z,Z] rfl rfl hHeld ?_
    refine Last.tk 13 296 #[Y,Y,Y,Y,Y,Y,Y,Y,Y,Y,Y,Y,Y,Y,Z,Z] rfl rfl hHeld ?_
    refine Last.tk 14 297 #[Y,Y,Y,Y,Y,Y,Y,Y,Y,Y,Y,Y,Y,Y,Y,Z] rfl rfl hHeld ?_
    refine Last.last_ (i := 15) (N := none) #[Y,Y,Y,Y,Y,Y,Y,Y,Y,Y,Y,Y,Y,Y,Y,Y] rfl rfl (by kernel_rfl) (by decide) (fun K hK => ?_)
    go_simp
    refine hK.out _ _ ?_
    clear hK K
    try simp only [Act.put, setIfInBounds_toArray, set_cons_zero, set_cons_succ]
    refine Last.done_ (by kernel_rfl) ?_
    have K7 := HC22.out.drew
    generalize (w20.setCell ⟨xb, xo + pl, none⟩ (Value.int .i64 0)).drew = w22 at K7 ⊢
    clear HC22 x22_2 x22_4 x22_5 e1 e2 f1 f2 hblt
    have HK23 : Hid (KS E S wc s [(n, ⟨rn.iso, rn.count, (List.set rn.items j y), (some (nb, no)), rn.icap, some ⟨kn.hdr, (some (kb, ko)), kn.cap, kn.kids⟩⟩), (l, ⟨rl.iso, rl.count, (List.set rl.items pl ((0 : Int), ())), (some (xb, xo)), rl.icap, rl.kids⟩), (q, ⟨rq.iso, (rq.count + 1), (md :: rq.items), (some (gb13, gq13)), gc13, rq.kids⟩)] w22) := hidp K7
    clear K7
    have x24_2 : w22.cell? ⟨l, 2, none⟩ = some (.slice (some ⟨xb, xo, none⟩) (ll) rl.icap) := by
      have h : w22.cell? ⟨l, 2, none⟩ = some (sv (some (xb, xo)) (List.length (List.set rl.items pl ((0 : Int), ()))) rl.icap) := HK23.out.n1.cell.2.2.2.1
      rw [HL22.out] at h; exact h
    have f2 := M_froz HK23.out.n1.mem.2
    have hlt : l < w22.heap.size := HK23.out.n1.cell.1
    have hcp : ll ≤ rl.icap := by have h := HK23.out.n1.wf.2.2.1; rw [HL22.out] at h; exact h
    have hcc : ¬ rl.icap < pl := by omega
    have hcd : (pl : Int) ≤ (rl.icap : Int) := by omega
    have K6 := HK23.out.n1.take_items (k := pl) (by show _ ≤ List.length (List.set rl.items pl ((0 : Int), ())); rw [HL22.out]; omega) (Upd.one w22 (b := l) (o := 2) (.slice (some ⟨xb, xo, none⟩) pl rl.icap) (by rw [HK23.out.n1.mem.2]; rfl))
    have HL24 : Hid (List.length (List.take pl (List.set rl.items pl ((0 : Int), ()))) = pl) := hidp (by rw [List.length_take, HL22.out]; omega)
    have HC24 : Hid (KS E S wc s [(n, ⟨rn.iso, rn.count, (List.set rn.items j y), (some (nb, no)), rn.icap, some ⟨kn.hdr, (some (kb, ko)), kn.cap, kn.kids⟩⟩), (l, ⟨rl.iso, rl.count, (List.take pl (List.set rl.items pl ((0 : Int), ()))), (some (xb, xo)), rl.icap, rl.kids⟩), (q, ⟨rq.iso, (rq.count + 1), (md :: rq.items), (some (gb13, gq13)), gc13, rq.kids⟩)] (w22.setCell ⟨l, 2, none⟩ (.slice (some ⟨xb, xo, none⟩) pl rl.icap))) := hidp K6
    clear K6 HK23
    go_wp2_with fail
    refine Last.start_ (S := fun w' => w'.cell? ⟨l, 2, none⟩ = some (.slice (some ⟨xb, xo, none⟩) (ll) rl.icap)) (ds := [14]) #[Z,Z,Z,Z,Z,Z,Z,Z,Z,Z,Z,Z,Z,Z,Z] (by rfl) (by rfl) (by rfl) ?_ (fun hHeld => ?_)
    · go_keep
    refine Last.tk 0 298 #[Y,Z,Z,Z,Z,Z,Z,Z,Z,Z,Z,Z,Z,Z,Z] rfl rfl hHeld ?_
    refine Last.tk 1 299 #[Y,Y,Z,Z,Z,Z,Z,Z,Z,Z,Z,Z,Z,Z,Z] rfl rfl hHeld ?_
    refine Last.tk 2 300 #[Y,Y,Y,Z,Z,Z,Z,Z,Z,Z,Z,Z,Z,Z,Z] rfl rfl hHeld ?_
    refine Last.tk 3 301 #[Y,Y,Y,Y,Z,Z,Z,Z,Z,Z,Z,Z,Z,Z,Z] rfl rfl hHeld ?_
    refine Last.tk 4 302 #[Y,Y,Y,Y,Y,Z,Z,Z,Z,Z,Z,Z,Z,Z,Z] rfl rfl hHeld ?_
    refine Last.tk 5 303 #[Y,Y,Y,Y,Y,Y,Z,Z,Z,Z,Z,Z,Z,Z,Z] rfl rfl hHeld ?_
    refine Last.tk 6 304 #[Y,Y,Y,Y,Y,Y,Y,Z,Z,Z,Z,Z,Z,Z,Z] rfl rfl hHeld ?_
    refine Last.tk 7 305 #[Y,Y,Y,Y,Y,Y,Y,Y,Z,Z,Z,Z,Z,Z,Z] rfl rfl hHeld ?_
    refine Last.tk 8 306 #[Y,Y,Y,Y,Y,Y,Y,Y,Y,Z,Z,Z,Z,Z,Z] rfl rfl hHeld ?_
    refine Last.tk 9 307 #[Y,Y,Y,Y,Y,Y,Y,Y,Y,Y,Z,Z,Z,Z,Z] rfl rfl hHeld ?_
    refine Last.tk 10 308 #[Y,Y,Y,Y,Y,Y,Y,Y,Y,Y,Y,Z,Z,Z,Z] rfl rfl hHeld ?_
    refine Last.tk 11 309 #[Y,Y,Y,Y,Y,Y,Y,Y,Y,Y,Y,Y,Z,Z,Z] rfl rfl hHeld ?_
    refine Last.tk 12 310 #[Y,Y,Y,Y,Y,Y,Y,Y,Y,Y,Y,Y,Y,Z,Z] rfl rfl hHeld ?_
    refine Last.tk 13 311 #[Y,Y,Y,Y,Y,Y,Y,Y,Y,Y,Y,Y,Y,Y,Z] rfl rfl hHeld ?_
    refine Last.last_ (i := 14) (N := none) #[Y,Y,Y,Y,Y,Y,Y,Y,Y,Y,Y,Y,Y,Y,Y] rfl rfl (by kernel_rfl) (by decide) (fun K hK => ?_)
    go_simp
    refine hK.out _ _ ?_
    clear hK K
    try simp only [Act.put, setIfInBounds_toArray, set_cons_zero, set_cons_succ]
    refine Last.done_ (by kernel_rfl) ?_
    have K7 := HC24.out.drew
    generalize (w22.setCell ⟨l, 2, none⟩ (.slice (some ⟨xb, xo, none⟩) pl rl.icap)).drew = w24 at K7 ⊢
    clear HC24 x24_2 f2 hlt hcc hcd hcp
    have hsh : (List.take pl (List.set rl.items pl ((0 : Int), ()))) = (List.take pl rl.items) := take_set_self
    have HLs24 : Hid (List.length (List.take pl rl.items) = pl) := hidp (by rw [← hsh]; exact HL24.out)
    rw [hsh] at K7
    have HK25 : Hid (KS E S wc s [(n, ⟨rn.iso, rn.count, (List.set rn.items j y), (some (nb, no)), rn.icap, some ⟨kn.hdr, (some (kb, ko)), kn.cap, kn.kids⟩⟩), (l, ⟨rl.iso, rl.count, (List.take pl rl.items), (some (xb, xo)), rl.icap, rl.kids⟩), (q, ⟨rq.iso, (rq.count + 1), (md :: rq.items), (some (gb13, gq13)), gc13, rq.kids⟩)] w24) := hidp K7
    clear K7 hsh
    clear hw1 hb1 hb2
    have x26_1 : w24.cell? ⟨l, 1, none⟩ = some (.int .i64 rl.count) := HK25.out.n1.cell.2.2.1
    have f1 := M_froz HK25.out.n1.mem.1
    have hlt : l < w24.heap.size := HK25.out.n1.cell.1
    have K6 := HK25.out.n1.count (rl.count - 1) (Upd.one w24 (b := l) (o := 1) (.int .i64 (rl.count - 1)) (by rw [HK25.out.n1.mem.1]; rfl))
    have HC26 : Hid (KS E S wc s [(n, ⟨rn.iso, rn.count, (List.set rn.items j y), (some (nb, no)), rn.icap, some ⟨kn.hdr, (some (kb, ko)), kn.cap, kn.kids⟩⟩), (l, ⟨rl.iso, (rl.count - 1), (List.take pl rl.items), (some (xb, xo)), rl.icap, rl.kids⟩), (q, ⟨rq.iso, (rq.count + 1), (md :: rq.items), (some (gb13, gq13)), gc13, rq.kids⟩)] (w24.setCell ⟨l, 1, none⟩ (.int .i64 (rl.count - 1)))) := hidp K6
    clear K6 HK25
    go_wp2_with fail
    have K7 := HC26.out
    generalize (w24.setCell ⟨l, 1, none⟩ (.int .i64 (rl.count - 1))) = w26 at K7 ⊢
    clear HC26 x26_1 f1 hlt
    have HK27 : Hid (KS E S wc s [(n, ⟨rn.iso, rn.count, (List.set rn.items j y), (some (nb, no)), rn.icap, some ⟨kn.hdr, (some (kb, ko)), kn.cap, kn.kids⟩⟩), (l, ⟨rl.iso, (rl.count - 1), (List.take pl rl.items), (some (xb, xo)), rl.icap, rl.kids⟩), (q, ⟨rq.iso, (rq.count + 1), (md :: rq.items), (some (gb13, gq13)), gc13, rq.kids⟩)] w26) := hidp K7
    clear K7
    have c3 : w26.cell? ⟨l, 3, none⟩ = some (pv none) := by have h := HK27.out.n1.cell.2.2.2.2; dsimp only at h; rw [H1.out] at h; exact h
    go_wp2_with fail
    refine (leaf_raw c3).mono ?_
    rintro e w' ⟨rfl, rfl⟩
    clear c3
    go_wp2
    go_end0
    exact ⟨rfl, pl, _, _, HPL.out, HK27.out⟩
end Go.Proofs.Ytbjhnefienjncaa.Bt.IU
