/- Maps of numbers (sets): delete in a node that has children, down to the child and back. -/
import Derived.Test.YtbjhnefienjncaaBtIUd2
namespace Go.Proofs.Ytbjhnefienjncaa.Bt.IU
set_option linter.unusedVariables false
set_option linter.unusedSimpArgs false
open Go Go.RowKit Go.Proofs.Ytbjhnefienjncaa.Bt

section
variable {I : Type} {E : Enc I} {S0 S : Nat → Prop} {w0 w : World} {s0 s : Sto I} {BX : List (Nat × List Value)}
/-- What a call has left, with the blocks at hand. -/
theorem KB.call {S2 S3 : Nat → Prop} {w2 w3 : World} {s3 : Sto I} (hE2 : Ext S0 w0 S2 w2) (hbx : Boxes S2 w0 w2 BX) (hE3 : Ext S2 w2 S3 w3) (R3 : RepS E S3 w3 s3) {n : Nat} {r : NodeR I} (hn : s3.nd n = some r) : KB E S0 w0 s3 BX [(n, r)] w3 :=
  ⟨S3, s3, R3, hE2.trans hE3, fun a r' h => by
    simp only [List.mem_cons, List.not_mem_nil, or_false, Prod.mk.injEq] at h
    obtain ⟨rfl, rfl⟩ := h
    exact hn, by simp, rfl, rfl, fun _ _ => rfl, hbx.step hE3⟩
end

variable {S : Nat → Prop} {w : World} {s : Sto It}

/-- What the call at the child leaves: nothing was deleted, or y. -/
def CallD (n : Nat) (r : NodeR It) (s : Sto It) (Dn : Sto It → Prop) (D : Sto It → It → Prop) (S2 : Nat → Prop) (w2 : World) (e : Ending) (w' : World) : Prop :=
  ∃ S' s' y del, e = .returned (.tuple #[.agg #[Value.int .i64 y.1], .bool del]) ∧ Ext S2 w2 S' w' ∧ RepS E S' w' s' ∧ s'.m = s.m ∧ s'.mp = s.mp ∧ s'.nd n = some r ∧ (del = false → Dn s' ∧ y = ((0 : Int), ())) ∧ (del = true → D s' y)
/-- The same, with what the call at hand has laid. -/
def Downed (bp : Nat) (n : Nat) (r : NodeR It) (S : Nat → Prop) (w : World) (s : Sto It) (Dn : Sto It → Prop) (D : Sto It → It → Prop) (y : It) (del : Bool) (wx : World) : Prop :=
  ∃ s3 : Sto It, s3.m = s.m ∧ s3.mp = s.mp ∧ KB E S w s3 [(bp, [Value.int .i64 y.1]), (w.heap.size, [Value.int .i64 0])] [(n, r)] wx ∧ (del = false → Dn s3 ∧ y = ((0 : Int), ())) ∧ (del = true → D s3 y)

/-- .. ahead of the store of the result. -/
def Downed0 (bp : Nat) (n : Nat) (r : NodeR It) (S : Nat → Prop) (w : World) (s : Sto It) (Dn : Sto It → Prop) (D : Sto It → It → Prop) (y : It) (del : Bool) (wx : World) : Prop :=
  ∃ s3 : Sto It, s3.m = s.m ∧ s3.mp = s.mp ∧ KB E S w s3 [(bp, [Value.int .i64 0]), (w.heap.size, [Value.int .i64 0])] [(n, r)] wx ∧ (del = false → Dn s3 ∧ y = ((0 : Int), ())) ∧ (del = true → D s3 y)

/-- What 'delete' in a node with children leaves. -/
def DownPost (n p : Nat) (r : NodeR It) (S : Nat → Prop) (w : World) (s : Sto It) (Dn : Sto It → Prop) (D : Sto It → It → Prop) (D2 : (Nat → Option (NodeR It)) → It → Prop) (e : Ending) (w' : World) : Prop :=
  ∃ S' s', Ext S w S' w' ∧ RepS E S' w' s' ∧ s'.m = s.m ∧ s'.mp = s.mp ∧ ((e = .returned (.tuple #[.agg #[Value.int .i64 0], .bool false]) ∧ ∃ s3, Dn s3 ∧ s'.nd n = some r ∧ ∀ z, z ≠ n → s'.nd z = s3.nd z) ∨
    ∃ y, e = .returned (.tuple #[.agg #[Value.int .i64 y.1], .bool true]) ∧ (D2 s'.nd y ∨ ∃ s3, D s3 y ∧ s'.nd n = some { r with count := r.count - 1 } ∧ (∀ z, z ≠ n → s'.nd z = s3.nd z) ∧ ∀ rp, s3.nd p = some rp → ¬ (rp.items.length : Int) < s.mp.mn))

set_option maxHeartbeats 40000000 in
set_option maxRecDepth 100000 in
/-- 'delete' in a node with children: the way down. -/
theorem del_down (R : RepS E S w s) {A : Addr} {n : Nat} {r : NodeR It} {k : KidR} {mxf : Bool} {x : It} {i ci ln : Nat} (hA : w.cell? A = some (pv (some n))) (hn : s.nd n = some r) (hi : r.iso = s.mp.iso) (hk : r.kids = some k) {kb ko : Nat} (hkb : k.base = some (kb, ko)) (hln : r.items.length = ln) (hl9 : ln ≤ 100000) (hkl : k.kids.length = ln + 1)
    {p : Nat} (hp : k.kids[ci]? = some (some p)) (hc : 0 ≤ r.count) (hc2 : r.count ≤ 100000000000)
    (hm : (mxf = true ∧ i + 1 = ln ∧ ci = ln) ∨ (mxf = false ∧ Srt lt r.items ∧ pos lt r.items x = i ∧ fnd lt r.items x = false ∧ ci = i))
    {Dn : Sto It → Prop} {D : Sto It → It → Prop} (hD : ∀ s' y, D s' y → ∃ rp lp, s'.nd p = some rp ∧ rp.items.length = lp ∧ lp ≤ 100000 ∧ p ≠ n)
    {D2 : (Nat → Option (NodeR It)) → It → Prop} (hreb : ∀ (S6 : Nat → Prop) (w6 : World) (s3 s6 : Sto It) (y : It), D s3 y → RepS E S6 w6 s6 → Ext S w S6 w6 → s6.m = s.m → s6.mp = s.mp → s6.nd n = some { r with count := r.count - 1 } → (∀ z, z ≠ n → s6.nd z = s3.nd z) → (∀ rp, s3.nd p = some rp → (rp.items.length : Int) < s.mp.mn) →
      Calls Try.prog 138 #[.pointer (some ⟨s.m, 0, none⟩), .pointer (some ⟨n, 0, none⟩), .int .i64 ci] w6 (fun e w' => e = .returned (.tuple #[]) ∧ ∃ S' s', Ext S6 w6 S' w' ∧ RepS E S' w' s' ∧ s'.m = s.m ∧ s'.mp = s.mp ∧ D2 s'.nd y))
    (hcall : ∀ (S2 : Nat → Prop) (w2 : World) (s2 : Sto It) (x' : It), RepS E S2 w2 s2 → Ext S w S2 w2 → (∀ z, s2.nd z = s.nd z) → s2.m = s.m → s2.mp = s.mp → (mxf = false → x' = x) → w2.cell? ⟨kb, ko + ci, none⟩ = some (pv (some p)) → Calls Try.prog 98 #[.pointer (some ⟨s.m, 0, none⟩), .pointer (some ⟨kb, ko + ci, none⟩), .bool mxf, Value.int .i64 x'.1] w2 (CallD n r s Dn D S2 w2)) :
    Calls Try.prog 98 #[.pointer (some ⟨s.m, 0, none⟩), .pointer (some A), .bool mxf, Value.int .i64 x.1] w (DownPost n p r S w s Dn D D2) := by
  have hAlt : A.block < w.heap.size := World.block_lt_of_cell? w _ hA
  have HLn := hidp hln
  have HM := hidp hm
  have HR := hidp R
  have HN := hidp hn
  have HKN := hidp hk
  have HKB := hidp hkb
  have HKL := hidp hkl
  have HPP := hidp hp
  have HCALL := hidp hcall
  have HREB := hidp hreb
  have HISO := hidp (isoLoad_own (R.alloc (.cells #[Value.int .i64 0] 120)) (A := A) ((World.cell?_alloc_lt _ _ _ hAlt).trans hA) hn hi true)
  have HS0 : Hid (KB E S w s [(w.heap.size, [Value.int .i64 0])] [] (w.alloc (.cells #[Value.int .i64 0] 120))) := hidp ((KB.start R (fun a r' h => by simp at h) (by simp)).box [Value.int .i64 0] 120)
  clear R hA hn hi hk hkb hln hkl hp hm hcall hreb hAlt
  go_enter Try.func98, Try.ntmps98
  go_wp2_with fail
  refine HISO.out.mono ?_
  rintro e w' ⟨rfl, a1, rfl⟩
  have K1 := HS0.out.drewN a1
  have HRw := hidp ((HR.out.alloc (.cells #[Value.int .i64 0] 120)).drewN a1)
  generalize (w.alloc (.cells #[Value.int .i64 0] 120)).drewN a1 = w1 at K1 HRw ⊢
  have HK1 := hidp K1
  clear K1 HISO HS0
  go_upto_if 21 with (fail)
  go_cut [11, 12] from 21 to 34 (fun u v wx => u = .int .i64 i ∧ v = .bool mxf ∧ ∃ m, wx = w1.drewN m)
  case first =>
    rcases HM.out with ⟨rfl, hi1, _⟩ | ⟨rfl, hsrt, hpos, hfnd, _⟩
    · obtain ⟨ba, n2⟩ : ∃ ba, w1.cell? ⟨n, 2, none⟩ = some (.slice ba ln r.icap) := ⟨_, by rw [(ncell HRw.out HN.out).2.2.2.1, HLn.out]; rfl⟩
      have hw : IntKind.i64.wrap ((ln : Int) - 1) = (i : Int) := by rw [Last.i64_w, IntWalk.wrap64_in _ ⟨by omega, by omega⟩]; omega
      go_wp2
      go_meet
      exact ⟨by go_num, rfl, 0, rfl⟩
    · have HSE := hidp (search_is HRw.out HN.out hsrt (by rw [HLn.out]; omega) x)
      rw [hpos, hfnd] at HSE
      clear hsrt hpos hfnd
      go_wp2_with fail
      refine HSE.out.mono ?_
      rintro e w' ⟨rfl, a2, rfl⟩
      go_wp2
      go_meet
      exact ⟨rfl, rfl, a2, rfl⟩
  case rest =>
    obtain ⟨rfl, rfl, m, rfl⟩ := hcut
    have K1 := HK1.out.drewN m
    have HRw2 := hidp (HRw.out.drewN m)
    generalize w1.drewN m = w2 at K1 HRw2 ⊢
    have n3 : w2.cell? ⟨n, 3, none⟩ = some (pv (some k.hdr)) := by rw [(ncell HRw2.out HN.out).2.2.2.2, HKN.out]; rfl
    have HK2 := hidp K1
    clear K1 HK1 HRw
    go_wp2_with fail
    refine (leaf_raw n3).mono ?_
    rintro e w' ⟨rfl, rfl⟩
    clear n3
    have HK3 : Hid (KB E S w s [(w2.heap.size, [Value.int .i64 0]), (w.heap.size, [Value.int .i64 0])] [] (w2.alloc (.cells #[Value.int .i64 0] 120))) := hidp (HK2.out.box [Value.int .i64 0] 120)
    have HRw3 := hidp (HRw2.out.alloc (.cells #[Value.int .i64 0] 120))
    have hbz : w.heap.size < w2.heap.size := (HK2.out.bx (b := w.heap.size) (vs := [Value.int .i64 0]) (by simp)).1
    have hnb : ¬ w2.heap.size = n := fun e => by have h := (ncell HRw2.out HN.out).1; omega
    have hnh : ¬ w2.heap.size = k.hdr := fun e => by have h := (HRw2.out.hdr HN.out HKN.out).1; omega
    have hnm : ¬ w2.heap.size = s.m := fun e => by have h := HK2.out.map.1.1; omega
    clear HK2 HRw2
    go_upto_if 100 with (fail)
    try rw [show (⟨#[]⟩ : ByteArray) = ByteArray.empty from rfl]
    generalize (w2.alloc (.cells #[Value.int .i64 0] 120)) = w3 at HK3 HRw3 ⊢
    generalize w2.heap.size = bp at HK3 hbz hnb hnh hnm ⊢
    go_cut [11, 15] from 16 to 168 (fun u v wx => u = .int .i64 ci ∧ ∃ y del, v = .bool del ∧ Hid (Downed bp n r S w s Dn D y del wx))
    case first =>
      obtain ⟨N, hN⟩ : ∃ N, N = ln + 1 := ⟨_, rfl⟩
      have HNN := hidp hN
      have n3 : w3.cell? ⟨n, 3, none⟩ = some (.pointer (some ⟨k.hdr, 0, none⟩)) := by rw [(ncell HRw3.out HN.out).2.2.2.2, HKN.out]; rfl
      have h0 : w3.cell? ⟨k.hdr, 0, none⟩ = some (.slice (some ⟨kb, ko, none⟩) N k.cap) := by
        have := (HRw3.out.hdr HN.out HKN.out).cell 0 rfl
        rw [HKB.out, HKL.out, ← hN] at this; exact this
      have c0 : w3.cell? ⟨kb, ko + ci, none⟩ = some (pv (some p)) := M_cell (HRw3.out.kid HN.out HKN.out HKB.out HPP.out)
      have hci : ci < ln + 1 := by have h := (List.getElem?_eq_some_iff.1 HPP.out).1; rw [HKL.out] at h; exact h
      have ci0 : (0 : Int) ≤ (ci : Int) := by omega
      have ci1 : (ci : Int) < (N : Int) := by omega
      clear hN
      rcases HM.out with ⟨rfl, hi1, hci2⟩ | ⟨rfl, hsrt, hpos, hfnd, hci2⟩
      · subst hci2
        have HCC : Hid (Calls Try.prog 98 #[.pointer (some ⟨s.m, 0, none⟩), .pointer (some ⟨kb, ko + ci, none⟩), .bool true, Value.int .i64 0] w3.drew (fun e w' => ∃ y del, e = .returned (.tuple #[.agg #[Value.int .i64 y.1], .bool del]) ∧ Downed0 bp n r S w s Dn D y del w')) := hidp (by
          obtain ⟨S2, s2, R2, hE2, _, _, hm2, hmp2, hnd2, hbx⟩ := HK3.out.drew.ex
          refine (HCALL.out S2 w3.drew s2 ((0 : Int), ()) R2 hE2 (fun z => hnd2 z (by simp)) hm2 hmp2 (fun h => by cases h) c0).mono ?_
          rintro e w' ⟨S', s', y, del, rfl, hE', R', hm', hmp', hn', h1, h2⟩
          exact ⟨y, del, rfl, s', hm', hmp', KB.call hE2 hbx hE' R' hn', h1, h2⟩)
        have x5 : w3.cell? ⟨s.m, 4, none⟩ = some (Value.int .i64 0) := HK3.out.map.1.cell 4 rfl
        have hwi : IntKind.i64.wrap ((i : Int) + 1) = (ci : Int) := by rw [Last.i64_w, IntWalk.wrap64_in _ ⟨by omega, by omega⟩]; omega
        have HFA : Hid (∀ (y : It) (del : Bool) (w4 : World), Downed0 bp n r S w s Dn D y del w4 → w4.cell? ⟨n, 3, none⟩ = some (.pointer (some ⟨k.hdr, 0, none⟩)) ∧ w4.cell? ⟨k.hdr, 0, none⟩ = some (.slice (some ⟨kb, ko, none⟩) N k.cap) ∧ w4.cell? ⟨s.m, 4, none⟩ = some (Value.int .i64 0) ∧ w4.cell? ⟨bp, 0, none⟩ = some (Value.int .i64 0) ∧ w4.frozen? ⟨bp, 0, none⟩ = false ∧ Downed bp n r S w s Dn D y del (w4.setCell ⟨bp, 0, none⟩ (Value.int .i64 y.1))) := hidp (by
          rintro y del w4 ⟨s3, hm3, hmp3, K4, hq1, hq2⟩
          have kk := (show KB E S w s3 [(bp, [Value.int .i64 0]), (w.heap.size, [Value.int .i64 0])] ([] ++ (n, r) :: []) w4 from K4)
          refine ⟨by rw [kk.cell.2.2.2.2, HKN.out]; rfl, ?_, by rw [← hm3]; exact K4.map.1.cell 4 rfl, (K4.bx (b := bp) (vs := [Value.int .i64 0]) (by simp)).cell 0 rfl, (K4.bx (b := bp) (vs := [Value.int .i64 0]) (by simp)).froz 0 rfl, s3, hm3, hmp3, KB.set_box (vs' := [Value.int .i64 y.1]) K4 (Upd.one w4 (b := bp) (o := 0) (Value.int .i64 y.1) (by rw [(K4.bx (b := bp) (vs := [Value.int .i64 0]) (by simp)).2 0 _ rfl]; rfl)) (fun p' hp' => by simp only [List.mem_cons, List.not_mem_nil, or_false] at hp'; rw [hp']; show w.heap.size ≠ bp; omega), hq1, hq2⟩
          have h := M_cell (kk.hdr HKN.out).2
          rw [HKB.out, HKL.out, ← HNN.out] at h; exact h)
        have hnb' : ¬ n = bp := fun e => hnb e.symm
        have hnh' : ¬ k.hdr = bp := fun e => hnh e.symm
        have hnm' : ¬ s.m = bp := fun e => hnm e.symm
        clear HCALL c0
        go_wp2_with fail
        go_region_held3 (fun w' => w'.cell? ⟨n, 3, none⟩ = some (.pointer (some ⟨k.hdr, 0, none⟩)) ∧ w'.cell? ⟨k.hdr, 0, none⟩ = some (.slice (some ⟨kb, ko, none⟩) N k.cap) ∧ w'.cell? ⟨s.m, 4, none⟩ = some (Value.int .i64 0)) (go_keep)
          ((go_at_call 98
            refine HCC.out.mono ?_
            rintro e w4 ⟨y, del, rfl, hd4⟩
            obtain ⟨k1, k2, k3, k4, k5, hx4⟩ := HFA.out y del w4 hd4
            have HX := hidp hx4
            clear hd4 hx4))
        clear HFA HCC
        go_wp2
        go_meet
        exact ⟨rfl, y, del, rfl, HX⟩
      · clear hsrt hpos hfnd
        have HCC : Hid (Calls Try.prog 98 #[.pointer (some ⟨s.m, 0, none⟩), .pointer (some ⟨kb, ko + ci, none⟩), .bool false, Value.int .i64 x.1] w3 (fun e w' => ∃ y del, e = .returned (.tuple #[.agg #[Value.int .i64 y.1], .bool del]) ∧ Downed0 bp n r S w s Dn D y del w')) := hidp (by
          obtain ⟨S2, s2, R2, hE2, _, _, hm2, hmp2, hnd2, hbx⟩ := HK3.out.ex
          refine (HCALL.out S2 w3 s2 x R2 hE2 (fun z => hnd2 z (by simp)) hm2 hmp2 (fun _ => rfl) c0).mono ?_
          rintro e w' ⟨S', s', y, del, rfl, hE', R', hm', hmp', hn', h1, h2⟩
          exact ⟨y, del, rfl, s', hm', hmp', KB.call hE2 hbx hE' R' hn', h1, h2⟩)
        clear HCALL
        subst hci2
        go_wp2_with fail
        refine HCC.out.mono ?_
        rintro e w4 ⟨y, del, rfl, s3, hm3, hmp3, K4, hq1, hq2⟩
        have b1 := (K4.bx (b := bp) (vs := [Value.int .i64 0]) (by simp)).cell 0 rfl
        have g1 := (K4.bx (b := bp) (vs := [Value.int .i64 0]) (by simp)).froz 0 rfl
        
        
        have HX : Hid (Downed bp n r S w s Dn D y del (w4.setCell ⟨bp, 0, none⟩ (Value.int .i64 y.1))) := hidp ⟨s3, hm3, hmp3, KB.set_box (vs' := [Value.int .i64 y.1]) K4 (Upd.one w4 (b := bp) (o := 0) (Value.int .i64 y.1) (by rw [(K4.bx (b := bp) (vs := [Value.int .i64 0]) (by simp)).2 0 _ rfl]; rfl)) (fun p' hp' => by simp only [List.mem_cons, List.not_mem_nil, or_false] at hp'; rw [hp']; show w.heap.size ≠ bp; omega), hq1, hq2⟩
        clear hm3 hmp3 K4 hq1 hq2 HCC n3 h0 c0
        go_wp2
        go_meet
        exact ⟨rfl, y, del, rfl, HX⟩
    case rest =>
      obtain ⟨rfl, y, del, rfl, HD⟩ := hcut
      clear HM HCALL HRw3 HK3
      cases del with
      | false =>
        obtain ⟨s3, hm3, hmp3, K4, hq1, _⟩ := HD.out
        have HQ := hidp (And.intro hm3 (And.intro hmp3 (hq1 rfl).1))
        have K5 := K4.swap
        have x4 : wc.cell? ⟨s.m, 4, none⟩ = some (Value.int .i64 0) := by rw [← hm3]; exact K4.map.1.cell 4 rfl
        have x5 : wc.cell? ⟨s.m, 4, none⟩ = some (Value.int .i64 0) := by rw [← hm3]; exact K4.map.1.cell 4 rfl
        have b0 := (K5.bx (b := w.heap.size) (vs := [Value.int .i64 0]) (by simp)).cell 0 rfl
        have g0 := (K5.bx (b := w.heap.size) (vs := [Value.int .i64 0]) (by simp)).froz 0 rfl
        
        
        have KF := KB.set_box (vs' := [Value.int .i64 0]) K5 (Upd.one wc (b := w.heap.size) (o := 0) (Value.int .i64 0) (by rw [(K5.bx (b := w.heap.size) (vs := [Value.int .i64 0]) (by simp)).2 0 _ rfl]; rfl)) (fun p' hp' => by simp only [List.mem_cons, List.not_mem_nil, or_false] at hp'; rw [hp']; show bp ≠ w.heap.size; omega)
        have d0 := (KF.bx (b := w.heap.size) (vs := [Value.int .i64 0]) (by simp)).cell 0 rfl
        
        have HKF := hidp KF
        clear KF K4 K5 hm3 hmp3 hq1 HD
        go_wp2
        refine bodyPost_ret (v := .tuple #[.agg #[Value.int .i64 0], .bool false]) (by simp [results, Try.results98, go_sem, d0]) rfl ?_
        obtain ⟨S', s', R', hE', hL', hnd', hm', hmp', ho', _⟩ := HKF.out
        exact ⟨S', s', hE', R', hm'.trans HQ.out.1, hmp'.trans HQ.out.2.1, .inl ⟨rfl, s3, HQ.out.2.2, hL' _ _ (by simp), fun z hz => ho' z (by simpa using hz)⟩⟩
      | true =>
        obtain ⟨s3, hm3, hmp3, K4, _, hq2⟩ := HD.out
        have HQ := hidp (And.intro hm3 (And.intro hmp3 (hq2 rfl)))
        obtain ⟨rp, lp, hrp, hlp, hlp9, hpn⟩ := hD s3 y (hq2 rfl)
        have kk := (show KB E S w s3 [(bp, [Value.int .i64 y.1]), (w.heap.size, [Value.int .i64 0])] ([] ++ (n, r) :: []) wc from K4)
        have x1 : wc.cell? ⟨n, 1, none⟩ = some (.int .i64 r.count) := kk.cell.2.2.1
        have f1 := M_froz kk.mem.1
        have hlt : n < wc.heap.size := kk.cell.1
        have hwc : IntKind.i64.wrap (r.count - 1) = r.count - 1 := by rw [Last.i64_w]; exact IntWalk.wrap64_in _ ⟨by omega, by omega⟩
        have K5 : KB E S w s3 [(bp, [Value.int .i64 y.1]), (w.heap.size, [Value.int .i64 0])] [(n, { r with count := r.count - 1 })] (wc.setCell ⟨n, 1, none⟩ (.int .i64 (r.count - 1))) := kk.count (r.count - 1) (Upd.one wc (b := n) (o := 1) (.int .i64 (r.count - 1)) (by rw [kk.mem.1]; rfl))
        have HK5 := hidp K5
        clear K4 K5 kk hm3 hmp3 hq2 HD
        go_wp2_with fail
        generalize (wc.setCell ⟨n, 1, none⟩ (.int .i64 (r.count - 1))) = w5 at HK5 ⊢
        clear x1 f1 hlt hwc
        obtain ⟨S5, s5, R5, hE5, hL5, hnd5, hm5, hmp5, ho5, hbx5⟩ := HK5.out.ex
        have hn5 : s5.nd n = some { r with count := r.count - 1 } := hL5 _ _ (by simp)
        have hp5 : s5.nd p = some rp := (ho5 p (by simpa using hpn)).trans hrp
        have n3 : w5.cell? ⟨n, 3, none⟩ = some (.pointer (some ⟨k.hdr, 0, none⟩)) := by rw [(ncell R5 hn5).2.2.2.2]; show some (pv (r.kids.map (·.hdr))) = _; rw [HKN.out]; rfl
        obtain ⟨N, hN⟩ : ∃ N, N = ln + 1 := ⟨_, rfl⟩
        have h0 : w5.cell? ⟨k.hdr, 0, none⟩ = some (.slice (some ⟨kb, ko, none⟩) N k.cap) := by
          have := (R5.hdr hn5 (k := k) HKN.out).cell 0 rfl
          rw [HKB.out, HKL.out, ← hN] at this; exact this
        have c0 : w5.cell? ⟨kb, ko + ci, none⟩ = some (.pointer (some ⟨p, 0, none⟩)) := M_cell (R5.kid hn5 (k := k) HKN.out HKB.out HPP.out)
        have hci : ci < N := by have h := (List.getElem?_eq_some_iff.1 HPP.out).1; rw [HKL.out, ← hN] at h; exact h
        have ci0 : (0 : Int) ≤ (ci : Int) := by omega
        have ci1 : (ci : Int) < (N : Int) := by omega
        obtain ⟨bq, p2⟩ : ∃ bq, w5.cell? ⟨p, 2, none⟩ = some (.slice bq lp rp.icap) := ⟨_, by rw [(ncell R5 hp5).2.2.2.1, hlp]; rfl⟩
        have m5 : w5.cell? ⟨s.m, 5, none⟩ = some (.int .i64 s.mp.mn) := by
          have h := (HK5.out.map).1.cell 5 (v := .int .i64 s3.mp.mn) rfl
          rw [HQ.out.1, HQ.out.2.1] at h; exact h
        have HRP := hidp (And.intro hrp hlp)
        clear hN hL5 hnd5 hm5 hmp5 ho5 hbx5 hE5 R5 hn5 hp5 hrp hlp
        by_cases hmn : (lp : Int) < s.mp.mn
        · go_wp2_with fail
          go_quiet (fail)
          have K6 := HK5.out.drewN nq
          generalize w5.drewN nq = w6 at K6 ⊢
          have HRB : Hid (Calls Try.prog 138 #[.pointer (some ⟨s.m, 0, none⟩), .pointer (some ⟨n, 0, none⟩), .int .i64 ci] w6 (fun e w' => e = .returned (.tuple #[]) ∧ ∃ s7, s7.m = s.m ∧ s7.mp = s.mp ∧ D2 s7.nd y ∧ KB E S w s7 [(bp, [Value.int .i64 y.1]), (w.heap.size, [Value.int .i64 0])] [] w')) := hidp (by
            obtain ⟨S6, s6, R6, hE6, hL6, hnd6, hm6, hmp6, ho6, hbx6⟩ := K6.ex
            refine (HREB.out S6 w6 s3 s6 y HQ.out.2.2 R6 hE6 (hm6.trans HQ.out.1) (hmp6.trans HQ.out.2.1) (hL6 _ _ (by simp)) (fun z hz => ho6 z (by simpa using hz)) (fun rp' h => by rw [HRP.out.1] at h; obtain rfl := Option.some.inj h; rw [HRP.out.2]; exact hmn)).mono ?_
            rintro e w' ⟨rfl, S', s', hE', R', hm', hmp', h2⟩
            exact ⟨rfl, s', hm', hmp', h2, S', s', R', hE6.trans hE', fun a r' h => by simp at h, by simp, rfl, rfl, fun _ _ => rfl, hbx6.step hE'⟩)
          clear K6 HK5 n3 h0 c0 p2 m5 hmn
          go_wp2_with fail
          refine HRB.out.mono ?_
          rintro e w7 ⟨rfl, s7, hm7, hmp7, h7, K7⟩
          have HD2 := hidp (And.intro hm7 (And.intro hmp7 h7))
          clear hm7 hmp7 h7 HRB
          have b1 := (K7.bx (b := bp) (vs := [Value.int .i64 y.1]) (by simp)).cell 0 rfl
          have b0 := (K7.bx (b := w.heap.size) (vs := [Value.int .i64 0]) (by simp)).cell 0 rfl
          have g0 := (K7.bx (b := w.heap.size) (vs := [Value.int .i64 0]) (by simp)).froz 0 rfl
          
          
          
          have KF := KB.set_box (vs' := [Value.int .i64 y.1]) K7.swap (Upd.one w7 (b := w.heap.size) (o := 0) (Value.int .i64 y.1) (by rw [(K7.bx (b := w.heap.size) (vs := [Value.int .i64 0]) (by simp)).2 0 _ rfl]; rfl)) (fun p' hp' => by simp only [List.mem_cons, List.not_mem_nil, or_false] at hp'; rw [hp']; show bp ≠ w.heap.size; omega)
          have d0 := (KF.bx (b := w.heap.size) (vs := [Value.int .i64 y.1]) (by simp)).cell 0 rfl
          
          have HKF := hidp KF
          clear KF K7
          go_wp2
          refine bodyPost_ret (v := .tuple #[.agg #[Value.int .i64 y.1], .bool true]) (by simp [results, Try.results98, go_sem, d0]) rfl ?_
          obtain ⟨S', s', R', hE', hL', hnd', hm', hmp', ho', _⟩ := HKF.out
          refine ⟨S', s', hE', R', hm'.trans HD2.out.1, hmp'.trans HD2.out.2.1, .inr ⟨y, rfl, .inl ?_⟩⟩
          rw [show s'.nd = s7.nd from funext fun z => ho' z (by simp)]; exact HD2.out.2.2
        · go_wp2_with fail
          go_quiet (fail)
          have K7 := HK5.out.drewN nq
          generalize w5.drewN nq = w7 at K7 ⊢
          clear HK5 n3 h0 c0 p2 m5
          have b1 := (K7.bx (b := bp) (vs := [Value.int .i64 y.1]) (by simp)).cell 0 rfl
          have b0 := (K7.bx (b := w.heap.size) (vs := [Value.int .i64 0]) (by simp)).cell 0 rfl
          have g0 := (K7.bx (b := w.heap.size) (vs := [Value.int .i64 0]) (by simp)).froz 0 rfl
          
          
          
          have KF := KB.set_box (vs' := [Value.int .i64 y.1]) K7.swap (Upd.one w7 (b := w.heap.size) (o := 0) (Value.int .i64 y.1) (by rw [(K7.bx (b := w.heap.size) (vs := [Value.int .i64 0]) (by simp)).2 0 _ rfl]; rfl)) (fun p' hp' => by simp only [List.mem_cons, List.not_mem_nil, or_false] at hp'; rw [hp']; show bp ≠ w.heap.size; omega)
          have d0 := (KF.bx (b := w.heap.size) (vs := [Value.int .i64 y.1]) (by simp)).cell 0 rfl
          
          have HKF := hidp KF
          clear KF K7
          go_wp2
          refine bodyPost_ret (v := .tuple #[.agg #[Value.int .i64 y.1], .bool true]) (by simp [results, Try.results98, go_sem, d0]) rfl ?_
          obtain ⟨S', s', R', hE', hL', hnd', hm', hmp', ho', _⟩ := HKF.out
          exact ⟨S', s', hE', R', hm'.trans HQ.out.1, hmp'.trans HQ.out.2.1, .inr ⟨y, rfl, .inr ⟨s3, HQ.out.2.2, hL' _ _ (by simp), fun z hz => ho' z (by simpa using hz), fun rp' h => by rw [HRP.out.1] at h; obtain rfl := Option.some.inj h; rw [HRP.out.2]; omega⟩⟩⟩
end Go.Proofs.Ytbjhnefienjncaa.Bt.IU
