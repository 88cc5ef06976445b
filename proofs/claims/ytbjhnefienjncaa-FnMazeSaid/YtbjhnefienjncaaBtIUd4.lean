/- Maps of numbers (sets): delete in a node that has children, where the item itself is found: the last item below it takes its place. -/
import Derived.Test.YtbjhnefienjncaaBtIUd3
namespace Go.Proofs.Ytbjhnefienjncaa.Bt.IU
set_option linter.unusedVariables false
set_option linter.unusedSimpArgs false
open Go Go.RowKit Go.Proofs.Ytbjhnefienjncaa.Bt
open Go.Proofs.Ytbjhnefienjncaa.Bt.Last (Y Z)
open _root_.List (setIfInBounds_toArray set_cons_zero set_cons_succ)

section
variable {I : Type} {E : Enc I} {S0 : Nat → Prop} {w0 w : World} {s0 : Sto I} {BX : List (Nat × List Value)} {x : Nat × List Value} {L : List (Nat × NodeR I)}
/-- A block is not looked at any more. -/
theorem KB.less (K : KB E S0 w0 s0 (x :: BX) L w) : KB E S0 w0 s0 BX L w := by
  obtain ⟨S, s, R, h, a, b, c, d, e, f⟩ := K
  exact ⟨S, s, R, h, a, b, c, d, e, fun p hp => f p (List.mem_cons_of_mem _ hp)⟩
end

variable {S : Nat → Prop} {w : World} {s : Sto It}

/-- What 'delete' leaves where it has found the item in a node with children. -/
def MidPost (n p i : Nat) (y0 : It) (r : NodeR It) (S : Nat → Prop) (w : World) (s : Sto It) (D : Sto It → It → Prop) (D2 : (Nat → Option (NodeR It)) → It → Prop) (e : Ending) (w' : World) : Prop :=
  ∃ S' s', Ext S w S' w' ∧ RepS E S' w' s' ∧ s'.m = s.m ∧ s'.mp = s.mp ∧ e = .returned (.tuple #[.agg #[Value.int .i64 y0.1], .bool true]) ∧ ∃ m, (D2 s'.nd m ∨ ∃ s3, D s3 m ∧ s'.nd n = some { r with items := r.items.set i m, count := r.count - 1 } ∧ (∀ z, z ≠ n → s'.nd z = s3.nd z) ∧ ∀ rp, s3.nd p = some rp → ¬ (rp.items.length : Int) < s.mp.mn)
/-- The child's call has taken its last item m. -/
def Mid (bp : Nat) (y0 : It) (n i : Nat) (r : NodeR It) (S : Nat → Prop) (w : World) (s : Sto It) (D : Sto It → It → Prop) (m : It) (wx : World) : Prop :=
  ∃ s3 : Sto It, s3.m = s.m ∧ s3.mp = s.mp ∧ KB E S w s3 [(bp, [Value.int .i64 y0.1]), (w.heap.size, [Value.int .i64 0])] [(n, { r with items := r.items.set i m })] wx ∧ D s3 m

set_option maxHeartbeats 40000000 in
set_option maxRecDepth 100000 in
/-- 'delete' in a node with children, the item found. -/
theorem del_mid (R : RepS E S w s) {A : Addr} {n : Nat} {r : NodeR It} {k : KidR} {x y : It} {i ln : Nat} (hA : w.cell? A = some (pv (some n))) (hn : s.nd n = some r) (hi : r.iso = s.mp.iso) (hk : r.kids = some k) {kb ko : Nat} (hkb : k.base = some (kb, ko)) {nb no : Nat} (hnb : r.ib = some (nb, no)) (hln : r.items.length = ln) (hl9 : ln ≤ 100000) (hkl : k.kids.length = ln + 1)
    {p : Nat} (hp : k.kids[i]? = some (some p)) (hc : 0 ≤ r.count) (hc2 : r.count ≤ 100000000000)
    (hsrt : Srt lt r.items) (hpos : pos lt r.items x = i) (hfnd : fnd lt r.items x = true) (hy : r.items[i]? = some y)
    {D : Sto It → It → Prop} (hD : ∀ s' y, D s' y → ∃ rp lp, s'.nd p = some rp ∧ rp.items.length = lp ∧ lp ≤ 100000 ∧ p ≠ n)
    {D2 : (Nat → Option (NodeR It)) → It → Prop} (hreb : ∀ (S6 : Nat → Prop) (w6 : World) (s3 s6 : Sto It) (m : It), D s3 m → RepS E S6 w6 s6 → Ext S w S6 w6 → s6.m = s.m → s6.mp = s.mp → s6.nd n = some { r with items := r.items.set i m, count := r.count - 1 } → (∀ z, z ≠ n → s6.nd z = s3.nd z) → (∀ rp, s3.nd p = some rp → (rp.items.length : Int) < s.mp.mn) →
      Calls Try.prog 138 #[.pointer (some ⟨s.m, 0, none⟩), .pointer (some ⟨n, 0, none⟩), .int .i64 i] w6 (fun e w' => e = .returned (.tuple #[]) ∧ ∃ S' s', Ext S6 w6 S' w' ∧ RepS E S' w' s' ∧ s'.m = s.m ∧ s'.mp = s.mp ∧ D2 s'.nd m))
    (hcall : ∀ (S2 : Nat → Prop) (w2 : World) (s2 : Sto It) (x' : It), RepS E S2 w2 s2 → Ext S w S2 w2 → (∀ z, s2.nd z = s.nd z) → s2.m = s.m → s2.mp = s.mp → w2.cell? ⟨kb, ko + i, none⟩ = some (pv (some p)) → Calls Try.prog 98 #[.pointer (some ⟨s.m, 0, none⟩), .pointer (some ⟨kb, ko + i, none⟩), .bool true, Value.int .i64 x'.1] w2 (CallD n r s (fun _ => False) D S2 w2)) :
    Calls Try.prog 98 #[.pointer (some ⟨s.m, 0, none⟩), .pointer (some A), .bool false, Value.int .i64 x.1] w (MidPost n p i y r S w s D D2) := by
  have hAlt : A.block < w.heap.size := World.block_lt_of_cell? w _ hA
  have hil : i < ln := by rw [← hln]; exact (List.getElem?_eq_some_iff.1 hy).1
  have i0' : (0 : Int) ≤ (i : Int) := by omega
  have i1' : (i : Int) < (ln : Int) := by omega
  have HLn := hidp hln
  have HR := hidp R
  have HN := hidp hn
  have HKN := hidp hk
  have HKB := hidp hkb
  have HKL := hidp hkl
  have HPP := hidp hp
  have HIB := hidp hnb
  have HY := hidp hy
  have HREB := hidp hreb
  have HSR := hidp (And.intro hsrt (And.intro hpos hfnd))
  have HISO := hidp (isoLoad_own (R.alloc (.cells #[Value.int .i64 0] 120)) (A := A) ((World.cell?_alloc_lt _ _ _ hAlt).trans hA) hn hi true)
  have HS0 : Hid (KB E S w s [(w.heap.size, [Value.int .i64 0])] [(n, r)] (w.alloc (.cells #[Value.int .i64 0] 120))) := hidp ((KB.start R (fun a r' h => by
    simp only [List.mem_cons, List.not_mem_nil, or_false, Prod.mk.injEq] at h
    obtain ⟨rfl, rfl⟩ := h
    exact hn) (by simp)).box [Value.int .i64 0] 120)
  have HCC : Hid (∀ (BX : List (Nat × List Value)) (w5 : World), KB E S w s BX [(n, r)] w5 → Calls Try.prog 98 #[.pointer (some ⟨s.m, 0, none⟩), .pointer (some ⟨kb, ko + i, none⟩), .bool true, Value.int .i64 0] w5 (fun e w' => ∃ m del, e = .returned (.tuple #[.agg #[Value.int .i64 m.1], .bool del]) ∧ ∃ s3 : Sto It, s3.m = s.m ∧ s3.mp = s.mp ∧ KB E S w s3 BX [(n, r)] w' ∧ D s3 m)) := hidp (by
    intro BX w5 K5
    obtain ⟨S2, s2, R2, hE2, hL2, _, hm2, hmp2, hnd2, hbx⟩ := K5.ex
    have hn2 := hL2 n r (by simp)
    refine (hcall S2 w5 s2 ((0 : Int), ()) R2 hE2 (fun z => ?_) hm2 hmp2 (M_cell (R2.kid hn2 hk hkb hp))).mono ?_
    · by_cases hz : z = n
      · rw [hz, hn2, hn]
      · exact hnd2 z (by simpa using hz)
    rintro e w' ⟨S', s', y, del, rfl, hE', R', hm', hmp', hn', h1, h2⟩
    cases del with
    | false => exact (h1 rfl).1.elim
    | true => exact ⟨y, true, rfl, s', hm', hmp', KB.call hE2 hbx hE' R' hn', h2 rfl⟩)
  clear R hA hn hi hk hkb hnb hln hkl hp hcall hreb hy hAlt hsrt hpos hfnd
  go_enter Try.func98, Try.ntmps98
  go_wp2_with fail
  refine HISO.out.mono ?_
  rintro e w' ⟨rfl, a1, rfl⟩
  have K1 := HS0.out.drewN a1
  have HRw := hidp ((HR.out.alloc (.cells #[Value.int .i64 0] 120)).drewN a1)
  generalize (w.alloc (.cells #[Value.int .i64 0] 120)).drewN a1 = w1 at K1 HRw ⊢
  have HK1 := hidp K1
  clear K1 HISO HS0
  have HSE := hidp (search_is HRw.out HN.out HSR.out.1 (by rw [HLn.out]; omega) x)
  rw [HSR.out.2.1, HSR.out.2.2] at HSE
  go_wp2_with fail
  refine HSE.out.mono ?_
  rintro e w' ⟨rfl, m, rfl⟩
  have K1 := HK1.out.drewN m
  have HRw2 := hidp (HRw.out.drewN m)
  generalize w1.drewN m = w2 at K1 HRw2 ⊢
  have n3 : w2.cell? ⟨n, 3, none⟩ = some (pv (some k.hdr)) := by rw [(ncell HRw2.out HN.out).2.2.2.2, HKN.out]; rfl
  have HK2 := hidp K1
  clear K1 HK1 HRw HSE HSR
  go_wp2_with fail
  refine (leaf_raw n3).mono ?_
  rintro e w' ⟨rfl, rfl⟩
  clear n3
  have HK3 : Hid (KB E S w s [(w2.heap.size, [Value.int .i64 0]), (w.heap.size, [Value.int .i64 0])] [(n, r)] (w2.alloc (.cells #[Value.int .i64 0] 120))) := hidp (HK2.out.box [Value.int .i64 0] 120)
  have hbz : w.heap.size < w2.heap.size := (HK2.out.bx (b := w.heap.size) (vs := [Value.int .i64 0]) (by simp)).1
  have hnb : ¬ w2.heap.size = n := fun e => by have h := (ncell HRw2.out HN.out).1; omega
  have hnh : ¬ w2.heap.size = k.hdr := fun e => by have h := (HRw2.out.hdr HN.out HKN.out).1; omega
  have hnm : ¬ w2.heap.size = s.m := fun e => by have h := HK2.out.map.1.1; omega
  clear HK2 HRw2
  go_upto_if 100 with (fail)
  try rw [show (⟨#[]⟩ : ByteArray) = ByteArray.empty from rfl]
  generalize (w2.alloc (.cells #[Value.int .i64 0] 120)) = w3 at HK3 ⊢
  generalize w2.heap.size = bp at HK3 hbz hnb hnh hnm ⊢
  go_cut [11, 15] from 16 to 168 (fun u v wx => u = .int .i64 i ∧ v = .bool true ∧ ∃ m, Hid (Mid bp y n i r S w s D m wx))
  case first =>
    have kk := (show KB E S w s [(bp, [Value.int .i64 0]), (w.heap.size, [Value.int .i64 0])] ([] ++ (n, r) :: []) w3 from HK3.out)
    have n2 : w3.cell? ⟨n, 2, none⟩ = some (.slice (some ⟨nb, no, none⟩) ln r.icap) := by
      have h := kk.cell.2.2.2.1
      rw [HIB.out, HLn.out] at h; exact h
    have cy := M_cell (kitemB kk (b := nb) (o := no) HIB.out (i := i) HY.out).1
    
    have b0 := (HK3.out.bx (b := bp) (vs := [Value.int .i64 0]) (by simp)).cell 0 rfl
    have g0 := (HK3.out.bx (b := bp) (vs := [Value.int .i64 0]) (by simp)).froz 0 rfl
    
    
    have HK4 : Hid (KB E S w s [(bp, [Value.int .i64 y.1]), (w.heap.size, [Value.int .i64 0])] [(n, r)] (w3.setCell ⟨bp, 0, none⟩ (Value.int .i64 y.1))) := hidp (KB.set_box (vs' := [Value.int .i64 y.1]) HK3.out (Upd.one w3 (b := bp) (o := 0) (Value.int .i64 y.1) (by rw [(HK3.out.bx (b := bp) (vs := [Value.int .i64 0]) (by simp)).2 0 _ rfl]; rfl)) (fun p' hp' => by simp only [List.mem_cons, List.not_mem_nil, or_false] at hp'; rw [hp']; show w.heap.size ≠ bp; omega))
    clear kk HK3
    go_wp2_with fail
    clear n2 cy b0 g0 
    generalize (w3.setCell ⟨bp, 0, none⟩ (Value.int .i64 y.1)) = w4 at HK4 ⊢
    obtain ⟨N, hN⟩ : ∃ N, N = ln + 1 := ⟨_, rfl⟩
    have HNN := hidp hN
    have i1n : (i : Int) < (N : Int) := by omega
    clear hN
    have HKF : Hid (∀ (s3 : Sto It) (BX : List (Nat × List Value)) (w5 : World), s3.m = s.m → s3.mp = s.mp → KB E S w s3 BX [(n, r)] w5 → w5.cell? ⟨n, 3, none⟩ = some (.pointer (some ⟨k.hdr, 0, none⟩)) ∧ w5.cell? ⟨k.hdr, 0, none⟩ = some (.slice (some ⟨kb, ko, none⟩) N k.cap) ∧ w5.cell? ⟨s.m, 4, none⟩ = some (Value.int .i64 0)) := hidp (by
      intro s3 BX w5 hm3 hmp3 K5
      have kk := (show KB E S w s3 BX ([] ++ (n, r) :: []) w5 from K5)
      refine ⟨by rw [kk.cell.2.2.2.2, HKN.out]; rfl, ?_, by rw [← hm3]; exact K5.map.1.cell 4 rfl⟩
      have h := M_cell (kk.hdr HKN.out).2
      rw [HKB.out, HKL.out, ← HNN.out] at h; exact h)
    obtain ⟨n3, h0, x5⟩ := HKF.out s _ w4 rfl rfl HK4.out
    have q1 : ¬ n = w4.heap.size := (World.new_ne w4 _ n3).symm
    have q1' : ¬ w4.heap.size = n := World.new_ne w4 _ n3
    have q2 : ¬ k.hdr = w4.heap.size := (World.new_ne w4 _ h0).symm
    have q2' : ¬ w4.heap.size = k.hdr := World.new_ne w4 _ h0
    have q3 : ¬ s.m = w4.heap.size := (World.new_ne w4 _ x5).symm
    have q3' : ¬ w4.heap.size = s.m := World.new_ne w4 _ x5
    go_region_held3 (fun w' => w'.cell? ⟨n, 3, none⟩ = some (.pointer (some ⟨k.hdr, 0, none⟩)) ∧ w'.cell? ⟨k.hdr, 0, none⟩ = some (.slice (some ⟨kb, ko, none⟩) N k.cap) ∧ w'.cell? ⟨s.m, 4, none⟩ = some (Value.int .i64 0)) (go_keep)
      ((go_at_call 98
        first
        | (refine (HCC.out _ (w4.alloc (.cells #[Value.int .i64 0] 120)).drew (HK4.out.box [Value.int .i64 0] 120).drew).mono ?_
           rintro e w5 ⟨m, del, rfl, s3, hm3, hmp3, K5, hd5⟩
           obtain ⟨k1, k2, k3⟩ := HKF.out s3 _ w5 hm3 hmp3 K5
           have b1 := (K5.bx (b := w4.heap.size) (vs := [Value.int .i64 0]) (by simp)).cell 0 rfl
           have g1 := (K5.bx (b := w4.heap.size) (vs := [Value.int .i64 0]) (by simp)).froz 0 rfl
           
           
           have HX := hidp (And.intro hm3 (And.intro hmp3 (And.intro K5 hd5)))
           clear hm3 hmp3 K5 hd5)
        | (refine (HCC.out _ w4.drew HK4.out.drew).mono ?_
           rintro e w5 ⟨m, del, rfl, s3, hm3, hmp3, K5, hd5⟩
           obtain ⟨k1, k2, k3⟩ := HKF.out s3 _ w5 hm3 hmp3 K5
           have q1 : ¬ n = w5.heap.size := (World.new_ne w5 _ k1).symm
           have q1' : ¬ w5.heap.size = n := World.new_ne w5 _ k1
           have q2 : ¬ k.hdr = w5.heap.size := (World.new_ne w5 _ k2).symm
           have q2' : ¬ w5.heap.size = k.hdr := World.new_ne w5 _ k2
           have q3 : ¬ s.m = w5.heap.size := (World.new_ne w5 _ k3).symm
           have q3' : ¬ w5.heap.size = s.m := World.new_ne w5 _ k3
           have HX := hidp (And.intro hm3 (And.intro hmp3 (And.intro K5 hd5)))
           clear hm3 hmp3 K5 hd5)))
    · go_wp2_with fail
      have hbq : ¬ w5.heap.size = bp := fun e => by have h := (HX.out.2.2.1.bx (b := bp) (vs := [Value.int .i64 y.1]) (by simp)).1; omega
      have K6 := HX.out.2.2.1.box [Value.int .i64 m.1] 120
      have HY6 := hidp (And.intro HX.out.1 (And.intro HX.out.2.1 HX.out.2.2.2))
      clear HX k1 k2 k3 q1 q2 q3 q1' q2' q3'
      generalize (w5.alloc (.cells #[Value.int .i64 m.1] 120)) = w6 at K6 ⊢
      generalize w5.heap.size = bq at K6 hbq ⊢
      have kk := (show KB E S w s3 [(bq, [Value.int .i64 m.1]), (bp, [Value.int .i64 y.1]), (w.heap.size, [Value.int .i64 0])] ([] ++ (n, r) :: []) w6 from K6)
      have n2 : w6.cell? ⟨n, 2, none⟩ = some (.slice (some ⟨nb, no, none⟩) ln r.icap) := by
        have h := kk.cell.2.2.2.1
        rw [HIB.out, HLn.out] at h; exact h
      have x4 := (K6.bx (b := bq) (vs := [Value.int .i64 m.1]) (by simp)).cell 0 rfl
      
      have hcap : ln ≤ r.icap := by have h := kk.wf.2.2.1; rw [HLn.out] at h; exact h
      have ci := (kk.items (b := nb) (o := no) HIB.out).some (i) (by show i < r.icap * E.sz; have h2 : E.sz = 1 := rfl; rw [h2]; omega)
      have ci2 := (kk.items (b := nb) (o := no) HIB.out).some (i) (by show i < r.icap * E.sz; have h2 : E.sz = 1 := rfl; rw [h2]; omega)
      obtain ⟨z1, hz1'⟩ := Option.isSome_iff_exists.1 ci
      obtain ⟨z2, hz2'⟩ := Option.isSome_iff_exists.1 ci2
      have e1 : w6.cell? ⟨nb, no + i, none⟩ = some z1 := M_cell hz1'
      have e2 : w6.cell? ⟨nb, no + i, none⟩ = some z2 := M_cell hz2'
      have f1 : w6.frozen? ⟨nb, no + i, none⟩ = false := M_froz hz1'
      have f2 : w6.frozen? ⟨nb, no + i, none⟩ = false := M_froz hz2'
      have hu := Upd.one w6 (b := nb) (o := no + i) (Value.int .i64 m.1) (by exact ci2)
      have K7 := kk.set_item (b := nb) (o := no) HIB.out (i := i) m (by rw [HLn.out]; omega) (by show _ = _ + _ * 1; rw [Nat.mul_one]) hu
      have hblt : nb < w6.heap.size := kk.blt (b := nb) (o := no) HIB.out
      have HC : Hid (KB E S w s3 [(bp, [Value.int .i64 y.1]), (w.heap.size, [Value.int .i64 0])] [(n, { r with items := r.items.set i m })] (w6.setCell ⟨nb, no + i, none⟩ (Value.int .i64 m.1))) := hidp (KB.less K7)
      clear ci ci2 hz1' hz2' hu K7 kk K6
      refine Last.start_ (S := fun w' => w'.cell? ⟨n, 2, none⟩ = some (.slice (some ⟨nb, no, none⟩) ln r.icap) ∧ w'.cell? ⟨bq, 0, none⟩ = some (Value.int .i64 m.1)) (ds := [7]) #[Z,Z,Z,Z,Z,Z,Z,Z] (by rfl) (by rfl) (by rfl) ?_ (fun hHeld => ?_)
      · go_keep
      refine Last.tk 0 147 #[Y,Z,Z,Z,Z,Z,Z,Z] rfl rfl hHeld ?_
      refine Last.tk 1 148 #[Y,Y,Z,Z,Z,Z,Z,Z] rfl rfl hHeld ?_
      refine Last.tk 2 149 #[Y,Y,Y,Z,Z,Z,Z,Z] rfl rfl hHeld ?_
      refine Last.tk 3 150 #[Y,Y,Y,Y,Z,Z,Z,Z] rfl rfl hHeld ?_
      refine Last.tk 4 151 #[Y,Y,Y,Y,Y,Z,Z,Z] rfl rfl hHeld ?_
      refine Last.tk 5 152 #[Y,Y,Y,Y,Y,Y,Z,Z] rfl rfl hHeld ?_
      refine Last.tk 6 153 #[Y,Y,Y,Y,Y,Y,Y,Z] rfl rfl hHeld ?_
      refine Last.last_ (i := 7) (N := none) #[Y,Y,Y,Y,Y,Y,Y,Y] rfl rfl (by kernel_rfl) (by decide) (fun K hK => ?_)
      go_simp
      refine hK.out _ _ ?_
      clear hK K
      try simp only [Act.put, setIfInBounds_toArray, set_cons_zero, set_cons_succ]
      refine Last.done_ (by kernel_rfl) ?_
      go_wp2
      go_meet
      exact ⟨rfl, rfl, m, hidp ⟨s3, HY6.out.1, HY6.out.2.1, HC.out.drew, HY6.out.2.2⟩⟩
    · go_wp2_with fail
      have hbq : ¬ w4.heap.size = bp := fun e => by have h := (HK4.out.bx (b := bp) (vs := [Value.int .i64 y.1]) (by simp)).1; omega
      have hbq2 : ¬ w4.heap.size = w.heap.size := fun e => by have h := (HK4.out.bx (b := w.heap.size) (vs := [Value.int .i64 0]) (by simp)).1; omega
      have K6 := KB.set_box (vs' := [Value.int .i64 m.1]) HX.out.2.2.1 (Upd.one w5 (b := w4.heap.size) (o := 0) (Value.int .i64 m.1) (by rw [(HX.out.2.2.1.bx (b := w4.heap.size) (vs := [Value.int .i64 0]) (by simp)).2 0 _ rfl]; rfl)) (fun p' hp' => by
        simp only [List.mem_cons, List.not_mem_nil, or_false] at hp'
        rcases hp' with rfl | rfl
        · exact fun e => hbq e.symm
        · exact fun e => hbq2 e.symm)
      have HY6 := hidp (And.intro HX.out.1 (And.intro HX.out.2.1 HX.out.2.2.2))
      clear HX k1 k2 k3 b1 g1 
      generalize (w5.setCell ⟨w4.heap.size, 0, none⟩ (Value.int .i64 m.1)) = w6 at K6 ⊢
      generalize w4.heap.size = bq at K6 hbq ⊢
      have kk := (show KB E S w s3 [(bq, [Value.int .i64 m.1]), (bp, [Value.int .i64 y.1]), (w.heap.size, [Value.int .i64 0])] ([] ++ (n, r) :: []) w6 from K6)
      have n2 : w6.cell? ⟨n, 2, none⟩ = some (.slice (some ⟨nb, no, none⟩) ln r.icap) := by
        have h := kk.cell.2.2.2.1
        rw [HIB.out, HLn.out] at h; exact h
      have x4 := (K6.bx (b := bq) (vs := [Value.int .i64 m.1]) (by simp)).cell 0 rfl
      
      have hcap : ln ≤ r.icap := by have h := kk.wf.2.2.1; rw [HLn.out] at h; exact h
      have ci := (kk.items (b := nb) (o := no) HIB.out).some (i) (by show i < r.icap * E.sz; have h2 : E.sz = 1 := rfl; rw [h2]; omega)
      have ci2 := (kk.items (b := nb) (o := no) HIB.out).some (i) (by show i < r.icap * E.sz; have h2 : E.sz = 1 := rfl; rw [h2]; omega)
      obtain ⟨z1, hz1'⟩ := Option.isSome_iff_exists.1 ci
      obtain ⟨z2, hz2'⟩ := Option.isSome_iff_exists.1 ci2
      have e1 : w6.cell? ⟨nb, no + i, none⟩ = some z1 := M_cell hz1'
      have e2 : w6.cell? ⟨nb, no + i, none⟩ = some z2 := M_cell hz2'
      have f1 : w6.frozen? ⟨nb, no + i, none⟩ = false := M_froz hz1'
      have f2 : w6.frozen? ⟨nb, no + i, none⟩ = false := M_froz hz2'
      have hu := Upd.one w6 (b := nb) (o := no + i) (Value.int .i64 m.1) (by exact ci2)
      have K7 := kk.set_item (b := nb) (o := no) HIB.out (i := i) m (by rw [HLn.out]; omega) (by show _ = _ + _ * 1; rw [Nat.mul_one]) hu
      have hblt : nb < w6.heap.size := kk.blt (b := nb) (o := no) HIB.out
      have HC : Hid (KB E S w s3 [(bp, [Value.int .i64 y.1]), (w.heap.size, [Value.int .i64 0])] [(n, { r with items := r.items.set i m })] (w6.setCell ⟨nb, no + i, none⟩ (Value.int .i64 m.1))) := hidp (KB.less K7)
      clear ci ci2 hz1' hz2' hu K7 kk K6
      refine Last.start_ (S := fun w' => w'.cell? ⟨n, 2, none⟩ = some (.slice (some ⟨nb, no, none⟩) ln r.icap) ∧ w'.cell? ⟨bq, 0, none⟩ = some (Value.int .i64 m.1)) (ds := [7]) #[Z,Z,Z,Z,Z,Z,Z,Z] (by rfl) (by rfl) (by rfl) ?_ (fun hHeld => ?_)
      · go_keep
      refine Last.tk 0 147 #[Y,Z,Z,Z,Z,Z,Z,Z] rfl rfl hHeld ?_
      refine Last.tk 1 148 #[Y,Y,Z,Z,Z,Z,Z,Z] rfl rfl hHeld ?_
      refine Last.tk 2 149 #[Y,Y,Y,Z,Z,Z,Z,Z] rfl rfl hHeld ?_
      refine Last.tk 3 150 #[Y,Y,Y,Y,Z,Z,Z,Z] rfl rfl hHeld ?_
      refine Last.tk 4 151 #[Y,Y,Y,Y,Y,Z,Z,Z] rfl rfl hHeld ?_
      refine Last.tk 5 152 #[Y,Y,Y,Y,Y,Y,Z,Z] rfl rfl hHeld ?_
      refine Last.tk 6 153 #[Y,Y,Y,Y,Y,Y,Y,Z] rfl rfl hHeld ?_
      refine Last.last_ (i := 7) (N := none) #[Y,Y,Y,Y,Y,Y,Y,Y] rfl rfl (by kernel_rfl) (by decide) (fun K hK => ?_)
      go_simp
      refine hK.out _ _ ?_
      clear hK K
      try simp only [Act.put, setIfInBounds_toArray, set_cons_zero, set_cons_succ]
      refine Last.done_ (by kernel_rfl) ?_
      go_wp2
      go_meet
      exact ⟨rfl, rfl, m, hidp ⟨s3, HY6.out.1, HY6.out.2.1, HC.out.drew, HY6.out.2.2⟩⟩
  case rest =>
    obtain ⟨rfl, rfl, m, HD⟩ := hcut
    clear HCC
    obtain ⟨s3, hm3, hmp3, K4, hq2⟩ := HD.out
    have HQ := hidp (And.intro hm3 (And.intro hmp3 hq2))
    obtain ⟨rp, lp, hrp, hlp, hlp9, hpn⟩ := hD s3 m hq2
    have kk := (show KB E S w s3 [(bp, [Value.int .i64 y.1]), (w.heap.size, [Value.int .i64 0])] ([] ++ (n, { r with items := r.items.set i m }) :: []) wc from K4)
    have x1 : wc.cell? ⟨n, 1, none⟩ = some (.int .i64 r.count) := kk.cell.2.2.1
    have f1 := M_froz kk.mem.1
    have hlt : n < wc.heap.size := kk.cell.1
    have hwc : IntKind.i64.wrap (r.count - 1) = r.count - 1 := by rw [Last.i64_w]; exact IntWalk.wrap64_in _ ⟨by omega, by omega⟩
    have K5 : KB E S w s3 [(bp, [Value.int .i64 y.1]), (w.heap.size, [Value.int .i64 0])] [(n, { r with items := r.items.set i m, count := r.count - 1 })] (wc.setCell ⟨n, 1, none⟩ (.int .i64 (r.count - 1))) := kk.count (r.count - 1) (Upd.one wc (b := n) (o := 1) (.int .i64 (r.count - 1)) (by rw [kk.mem.1]; rfl))
    have HK5 := hidp K5
    clear K4 K5 kk hm3 hmp3 hq2 HD
    go_wp2_with fail
    generalize (wc.setCell ⟨n, 1, none⟩ (.int .i64 (r.count - 1))) = w5 at HK5 ⊢
    clear x1 f1 hlt hwc
    obtain ⟨S5, s5, R5, hE5, hL5, hnd5, hm5, hmp5, ho5, hbx5⟩ := HK5.out.ex
    have hn5 : s5.nd n = some { r with items := r.items.set i m, count := r.count - 1 } := hL5 _ _ (by simp)
    have hp5 : s5.nd p = some rp := (ho5 p (by simpa using hpn)).trans hrp
    have n3 : w5.cell? ⟨n, 3, none⟩ = some (.pointer (some ⟨k.hdr, 0, none⟩)) := by rw [(ncell R5 hn5).2.2.2.2]; show some (pv (r.kids.map (·.hdr))) = _; rw [HKN.out]; rfl
    obtain ⟨N, hN⟩ : ∃ N, N = ln + 1 := ⟨_, rfl⟩
    have h0 : w5.cell? ⟨k.hdr, 0, none⟩ = some (.slice (some ⟨kb, ko, none⟩) N k.cap) := by
      have := (R5.hdr hn5 (k := k) HKN.out).cell 0 rfl
      rw [HKB.out, HKL.out, ← hN] at this; exact this
    have c0 : w5.cell? ⟨kb, ko + i, none⟩ = some (.pointer (some ⟨p, 0, none⟩)) := M_cell (R5.kid hn5 (k := k) HKN.out HKB.out HPP.out)
    have hi : i < N := by have h := (List.getElem?_eq_some_iff.1 HPP.out).1; rw [HKL.out, ← hN] at h; exact h
    have i0'' : (0 : Int) ≤ (i : Int) := by omega
    have i1'' : (i : Int) < (N : Int) := by omega
    obtain ⟨bq, p2⟩ : ∃ bq, w5.cell? ⟨p, 2, none⟩ = some (.slice bq lp rp.icap) := ⟨_, by rw [(ncell R5 hp5).2.2.2.1, hlp]; rfl⟩
    have m5 : w5.cell? ⟨s.m, 5, none⟩ = some (.int .i64 s.mp.mn) := by
      have h := (HK5.out.map).1.cell 5 (v := .int .i64 s3.mp.mn) rfl
      rw [HQ.out.1, HQ.out.2.1] at h; exact h
    have HRP := hidp (And.intro hrp hlp)
    clear hN hL5 hnd5 hm5 hmp5 ho5 hbx5 hE5 R5 hn5 hp5 hrp hlp
    by_cases hmn : (lp : Int) < s.mp.mn
    · go_wp2_with fail
      go_quiet (fail)
      have K6 := HK5.out.drewN nq
      generalize w5.drewN nq = w6 at K6 ⊢
      have HRB : Hid (Calls Try.prog 138 #[.pointer (some ⟨s.m, 0, none⟩), .pointer (some ⟨n, 0, none⟩), .int .i64 i] w6 (fun e w' => e = .returned (.tuple #[]) ∧ ∃ s7, s7.m = s.m ∧ s7.mp = s.mp ∧ D2 s7.nd m ∧ KB E S w s7 [(bp, [Value.int .i64 y.1]), (w.heap.size, [Value.int .i64 0])] [] w')) := hidp (by
        obtain ⟨S6, s6, R6, hE6, hL6, hnd6, hm6, hmp6, ho6, hbx6⟩ := K6.ex
        refine (HREB.out S6 w6 s3 s6 m HQ.out.2.2 R6 hE6 (hm6.trans HQ.out.1) (hmp6.trans HQ.out.2.1) (hL6 _ _ (by simp)) (fun z hz => ho6 z (by simpa using hz)) (fun rp' h => by rw [HRP.out.1] at h; obtain rfl := Option.some.inj h; rw [HRP.out.2]; exact hmn)).mono ?_
        rintro e w' ⟨rfl, S', s', hE', R', hm', hmp', h2⟩
        exact ⟨rfl, s', hm', hmp', h2, S', s', R', hE6.trans hE', fun a r' h => by simp at h, by simp, rfl, rfl, fun _ _ => rfl, hbx6.step hE'⟩)
      clear K6 HK5 n3 h0 c0 p2 m5 hmn
      go_wp2_with fail
      refine HRB.out.mono ?_
      rintro e w7 ⟨rfl, s7, hm7, hmp7, h7, K7⟩
      have HD2 := hidp (And.intro hm7 (And.intro hmp7 h7))
      clear hm7 hmp7 h7 HRB
      have b1 := (K7.bx (b := bp) (vs := [Value.int .i64 y.1]) (by simp)).cell 0 rfl
      have b0 := (K7.bx (b := w.heap.size) (vs := [Value.int .i64 0]) (by simp)).cell 0 rfl
      have g0 := (K7.bx (b := w.heap.size) (vs := [Value.int .i64 0]) (by simp)).froz 0 rfl
      
      
      
      have KF := KB.set_box (vs' := [Value.int .i64 y.1]) K7.swap (Upd.one w7 (b := w.heap.size) (o := 0) (Value.int .i64 y.1) (by rw [(K7.bx (b := w.heap.size) (vs := [Value.int .i64 0]) (by simp)).2 0 _ rfl]; rfl)) (fun p' hp' => by simp only [List.mem_cons, List.not_mem_nil, or_false] at hp'; rw [hp']; show bp ≠ w.heap.size; omega)
      have d0 := (KF.bx (b := w.heap.size) (vs := [Value.int .i64 y.1]) (by simp)).cell 0 rfl
      
      have HKF := hidp KF
      clear KF K7
      go_wp2
      refine bodyPost_ret (v := .tuple #[.agg #[Value.int .i64 y.1], .bool true]) (by simp [results, Try.results98, go_sem, d0]) rfl ?_
      obtain ⟨S', s', R', hE', hL', hnd', hm', hmp', ho', _⟩ := HKF.out
      refine ⟨S', s', hE', R', hm'.trans HD2.out.1, hmp'.trans HD2.out.2.1, rfl, m, .inl ?_⟩
      rw [show s'.nd = s7.nd from funext fun z => ho' z (by simp)]; exact HD2.out.2.2
    · go_wp2_with fail
      go_quiet (fail)
      have K7 := HK5.out.drewN nq
      generalize w5.drewN nq = w7 at K7 ⊢
      clear HK5 n3 h0 c0 p2 m5
      have b1 := (K7.bx (b := bp) (vs := [Value.int .i64 y.1]) (by simp)).cell 0 rfl
      have b0 := (K7.bx (b := w.heap.size) (vs := [Value.int .i64 0]) (by simp)).cell 0 rfl
      have g0 := (K7.bx (b := w.heap.size) (vs := [Value.int .i64 0]) (by simp)).froz 0 rfl
      
      
      
      have KF := KB.set_box (vs' := [Value.int .i64 y.1]) K7.swap (Upd.one w7 (b := w.heap.size) (o := 0) (Value.int .i64 y.1) (by rw [(K7.bx (b := w.heap.size) (vs := [Value.int .i64 0]) (by simp)).2 0 _ rfl]; rfl)) (fun p' hp' => by simp only [List.mem_cons, List.not_mem_nil, or_false] at hp'; rw [hp']; show bp ≠ w.heap.size; omega)
      have d0 := (KF.bx (b := w.heap.size) (vs := [Value.int .i64 y.1]) (by simp)).cell 0 rfl
      
      have HKF := hidp KF
      clear KF K7
      go_wp2
      refine bodyPost_ret (v := .tuple #[.agg #[Value.int .i64 y.1], .bool true]) (by simp [results, Try.results98, go_sem, d0]) rfl ?_
      obtain ⟨S', s', R', hE', hL', hnd', hm', hmp', ho', _⟩ := HKF.out
      exact ⟨S', s', hE', R', hm'.trans HQ.out.1, hmp'.trans HQ.out.2.1, rfl, m, .inr ⟨s3, HQ.out.2.2, hL' _ _ (by simp), fun z hz => ho' z (by simpa using hz), fun rp' h => by rw [HRP.out.1] at h; obtain rfl := Option.some.inj h; rw [HRP.out.2]; omega⟩⟩
end Go.Proofs.Ytbjhnefienjncaa.Bt.IU
