/- Maps of numbers (sets): an item is deleted in a leaf. -/
import Derived.Test.YtbjhnefienjncaaBtIUe
import Derived.Test.YtbjhnefienjncaaBtIUr
import Derived.Test.YtbjhnefienjncaaBtKb
import Derived.Test.YtbjhnefienjncaaBtLast
import Derived.Deep.RegionHeld3
import Derived.Deep.DeepCutAuto
namespace Go.Proofs.Ytbjhnefienjncaa.Bt.IU
set_option linter.unusedVariables false
set_option linter.unusedSimpArgs false
open Go Go.RowKit Go.Proofs.Ytbjhnefienjncaa.Bt
open Go.Proofs.Ytbjhnefienjncaa.Bt.Last (Y Z)
open _root_.List (setIfInBounds_toArray set_cons_zero set_cons_succ)

variable {S : Nat → Prop} {w : World} {s : Sto It}

section
variable {S0 : Nat → Prop} {w0 w : World} {s0 : Sto It} {BX : List (Nat × List Value)} {A B : List (Nat × NodeR It)} {a : Nat} {r : NodeR It}
/-- The cells of an item. -/
theorem kitemB (K : KB E S0 w0 s0 BX (A ++ (a, r) :: B) w) {b o : Nat} (hb : r.ib = some (b, o)) {i : Nat} {x : It} (hx : r.items[i]? = some x) :
    M w b (o + i) = some (Value.int .i64 x.1) ∧ M w b (o + i) = some (Value.int .i64 x.1) := by
  have h := K.item hb hx (j := 0) (v := Value.int .i64 x.1) rfl
  rw [show o + (i * E.sz + 0) = o + i by show o + (i * 1 + 0) = o + i; omega] at h
  exact ⟨h, h⟩
end

set_option maxHeartbeats 40000000 in
set_option maxRecDepth 100000 in
/-- 'delete' of an item that is there, in a leaf. -/
theorem del_leaf (R : RepS E S w s) {A : Addr} {n : Nat} {r : NodeR It} {mxf : Bool} {x y : It} {i ln : Nat} (hA : w.cell? A = some (pv (some n))) (hn : s.nd n = some r) (hi : r.iso = s.mp.iso) (hk : r.kids = none) {nb no : Nat} (hnb : r.ib = some (nb, no)) (hln : r.items.length = ln) (hl9 : ln ≤ 100000) (hy : r.items[i]? = some y) (hc : 0 ≤ r.count) (hc2 : r.count ≤ 100000000000)
    (hm : (mxf = true ∧ i + 1 = ln) ∨ (mxf = false ∧ Srt lt r.items ∧ pos lt r.items x = i ∧ fnd lt r.items x = true)) :
    Calls Try.prog 98 #[.pointer (some ⟨s.m, 0, none⟩), .pointer (some A), .bool mxf, Value.int .i64 x.1] w (fun e w' => e = .returned (.tuple #[.agg #[Value.int .i64 y.1], .bool true]) ∧ ∃ BX, KB E S w s BX [(n, ⟨r.iso, r.count - 1, List.take i r.items ++ List.drop (i + 1) r.items, some (nb, no), r.icap, none⟩)] w') := by
  have hAlt : A.block < w.heap.size := World.block_lt_of_cell? w _ hA
  have hil : i < ln := by rw [← hln]; exact (List.getElem?_eq_some_iff.1 hy).1
  obtain ⟨p, hp⟩ : ∃ p, ln = p + 1 := ⟨ln - 1, by omega⟩
  have hp1 : p + 1 ≤ ln := by omega
  have hp2 : ln ≤ p + 1 := by omega
  have er : r = ⟨r.iso, r.count, r.items, some (nb, no), r.icap, none⟩ := by
    obtain ⟨a1, a2, a3, a4, a5, a6⟩ := r
    simp only at hnb hk
    subst hnb; subst hk; rfl
  have HP := hidp hp
  have HLn := hidp hln
  have HY := hidp hy
  have HM := hidp hm
  have HR := hidp R
  have HN := hidp hn
  have HKN := hidp hk
  have HISO := hidp (isoLoad_own (R.alloc (.cells #[Value.int .i64 0] 120)) (A := A) ((World.cell?_alloc_lt _ _ _ hAlt).trans hA) hn hi true)
  have HS0 : Hid (KB E S w s [(w.heap.size, [Value.int .i64 0])] [(n, ⟨r.iso, r.count, r.items, some (nb, no), r.icap, none⟩)] (w.alloc (.cells #[Value.int .i64 0] 120))) := hidp ((KB.start R (fun a r' h => by
    simp only [List.mem_cons, List.not_mem_nil, or_false, Prod.mk.injEq] at h
    obtain ⟨rfl, rfl⟩ := h
    rw [← er]; exact hn) (by simp)).box [Value.int .i64 0] 120)
  obtain ⟨i0, hi0, hz0, hz1, hz2⟩ := info_parts infoP
  have HI0 := hidp hi0
  have HZ0 := hidp hz0
  have HZ1 := hidp hz1
  have HZ2 := hidp hz2
  have i0' : (0 : Int) ≤ (i : Int) := by omega
  have i1' : (i : Int) < (ln : Int) := by omega
  clear R hA hn hi hk hnb hln hy hm hp er hi0 hz0 hz1 hz2 hAlt
  go_enter Try.func98, Try.ntmps98
  go_wp2_with fail
  refine HISO.out.mono ?_
  rintro e w' ⟨rfl, a1, rfl⟩
  have K1 := HS0.out.drewN a1
  have HRw := hidp ((HR.out.alloc (.cells #[Value.int .i64 0] 120)).drewN a1)
  generalize (w.alloc (.cells #[Value.int .i64 0] 120)).drewN a1 = w1 at K1 HRw ⊢
  have HK1 := hidp K1
  clear K1 HISO HS0
  go_upto_if 21 with (fail)
  go_cut [11, 12] from 21 to 34 (fun u v wx => u = .int .i64 i ∧ v = .bool true ∧ ∃ m, wx = w1.drewN m)
  case first =>
    rcases HM.out with ⟨rfl, hi1⟩ | ⟨rfl, hsrt, hpos, hfnd⟩
    · obtain ⟨ba, n2⟩ : ∃ ba, w1.cell? ⟨n, 2, none⟩ = some (.slice ba ln r.icap) := ⟨_, by rw [(ncell HRw.out HN.out).2.2.2.1, HLn.out]; rfl⟩
      have hw : IntKind.i64.wrap ((ln : Int) - 1) = (i : Int) := by rw [Last.i64_w, IntWalk.wrap64_in _ ⟨by omega, by omega⟩]; omega
      go_wp2
      go_meet
      exact ⟨by go_num, rfl, 0, rfl⟩
    · have HSE := hidp (search_is HRw.out HN.out hsrt (by rw [HLn.out]; omega) x)
      rw [hpos, hfnd] at HSE
      clear hsrt hpos hfnd
      go_wp2_with fail
      refine HSE.out.mono ?_
      rintro e w' ⟨rfl, a2, rfl⟩
      go_wp2
      go_meet
      exact ⟨rfl, rfl, a2, rfl⟩
  case rest =>
    obtain ⟨rfl, rfl, m, rfl⟩ := hcut
    have K1 := HK1.out.drewN m
    have HRw2 := hidp (HRw.out.drewN m)
    generalize w1.drewN m = w2 at K1 HRw2 ⊢
    have n3 : w2.cell? ⟨n, 3, none⟩ = some (pv none) := by rw [(ncell HRw2.out HN.out).2.2.2.2, HKN.out]; rfl
    have HK2 := hidp K1
    clear K1 HK1 HRw HM
    go_wp2_with fail
    refine (leaf_raw n3).mono ?_
    rintro e w' ⟨rfl, rfl⟩
    clear n3
    have x2 : w2.cell? ⟨n, 2, none⟩ = some (.slice (some ⟨nb, no, none⟩) (ln) r.icap) := by
      have h : w2.cell? ⟨n, 2, none⟩ = some (sv (some (nb, no)) (List.length r.items) r.icap) := HK2.out.n0.cell.2.2.2.1
      rw [HLn.out] at h; exact h
    have cy := M_cell (kitemB HK2.out.n0 (b := nb) (o := no) rfl (i := i) HY.out).1
    
    have HK3 : Hid (KB E S w s [(w2.heap.size, [Value.int .i64 y.1]), (w.heap.size, [Value.int .i64 0])] [(n, ⟨r.iso, r.count, r.items, (some (nb, no)), r.icap, none⟩)] (w2.alloc (.cells #[Value.int .i64 y.1] 120))) := hidp (HK2.out.box [Value.int .i64 y.1] 120)
    have hbz : w.heap.size < w2.heap.size := (HK2.out.bx (b := w.heap.size) (vs := [Value.int .i64 0]) (by simp)).1
    go_wp2_with fail
    clear HK2 HRw2 x2 cy
    
    generalize (w2.alloc (.cells #[Value.int .i64 y.1] 120)) = w3 at HK3 ⊢
    generalize w2.heap.size = bp at HK3 hbz ⊢
    have x11_2 : w3.cell? ⟨n, 2, none⟩ = some (.slice (some ⟨nb, no, none⟩) (ln) r.icap) := by
      have h : w3.cell? ⟨n, 2, none⟩ = some (sv (some (nb, no)) (List.length r.items) r.icap) := HK3.out.n0.cell.2.2.2.1
      rw [HLn.out] at h; exact h
    have hcap11 : ln ≤ r.icap := by have h := HK3.out.n0.wf.2.2.1; rw [HLn.out] at h; exact h
    have hw1 : IntKind.i64.wrap ((i : Int) + 1) = (i : Int) + 1 := by rw [Last.i64_w]; exact IntWalk.wrap64_in _ ⟨by omega, by omega⟩
    have hb0 : (0 : Int) ≤ (i : Int) := by omega
    have hb1 : (0 : Int) ≤ (i : Int) + 1 := by omega
    have hb2 : (i : Int) ≤ ((ln : Nat) : Int) := by omega
    have hb3 : (i : Int) + 1 ≤ ((ln : Nat) : Int) := by omega
    have hnc : ¬ r.icap = i := by omega
    go_wp2_with fail
    go_region_held3 (fun w' => w'.cell? ⟨n, 2, none⟩ = some (.slice (some ⟨nb, no, none⟩) (ln) r.icap)) (go_keep)
      ((refine step_copy (by rfl) _ _ _ _ (by rfl) 120 i0 1 Try.underlying181 HI0.out HZ1.out nb (no + i) (ln - i) (r.icap - i) ?hd nb (no + (i + 1)) (ln - (i + 1)) (r.icap - (i + 1)) ?hx (itemCells E (List.drop (i + 1) r.items)) ?hn (fun j' v hj => (by have h9 := HK3.out.drew.n0.src (b := nb) (o := no) (i := i + 1) (m := []) rfl (List.append_nil _).symm (by rw [HLn.out]; omega) hj; rw [show (i + 1) * E.sz = i + 1 from Nat.mul_one _] at h9; exact h9)) ?hc (itemCells_one _) ?_
        case hd => (simp [Act.eval]; try omega)
        case hx => (simp [Act.eval]; try omega)
        case hn =>
          have e : Nat.min (ln - (i + 1)) (ln - i) = ln - (i + 1) := Nat.min_eq_left (by omega)
          rw [itemCells_length, List.length_drop, HLn.out, e]; rfl
        case hc =>
          intro j' hj
          rw [itemCells_length, List.length_drop, HLn.out] at hj
          have h := (HK3.out.drew.n0.items (b := nb) (o := no) rfl).some (i + j') (by show i + j' < r.icap * E.sz; have h2 : E.sz = 1 := rfl; rw [h2] at hj ⊢; omega)
          rw [Nat.add_assoc]; exact h
        intro w11a hu6
        have K6 := HK3.out.drew.n0.set_items (b := nb) (o := no) rfl (i := i) (List.drop (i + 1) r.items) (by show _ ≤ List.length r.items; rw [List.length_drop, HLn.out]; omega) (by show _ = _ + _ * 1; rw [Nat.mul_one]) hu6
        have HL11 : Hid (List.length (List.take i r.items ++ List.drop (i + 1) r.items ++ List.drop (i + (List.drop (i + 1) r.items).length) r.items) = ln) := hidp (by simp only [List.length_append, List.length_take, List.length_drop, HLn.out]; omega)
        have HC11 : Hid (KB E S w s [(bp, [Value.int .i64 y.1]), (w.heap.size, [Value.int .i64 0])] [(n, ⟨r.iso, r.count, (List.take i r.items ++ List.drop (i + 1) r.items ++ List.drop (i + (List.drop (i + 1) r.items).length) r.items), (some (nb, no)), r.icap, none⟩)] w11a) := hidp K6
        clear K6 hu6
        have y11_2 : w11a.cell? ⟨n, 2, none⟩ = some (.slice (some ⟨nb, no, none⟩) (ln) r.icap) := by
          have h : w11a.cell? ⟨n, 2, none⟩ = some (sv (some (nb, no)) (List.length (List.take i r.items ++ List.drop (i + 1) r.items ++ List.drop (i + (List.drop (i + 1) r.items).length) r.items)) r.icap) := HC11.out.n0.cell.2.2.2.1
          rw [HL11.out] at h; exact h))
    generalize (if r.icap = i + 1 then (some ⟨nb, no, none⟩ : Option Addr) else some ⟨nb, no + (i + 1), none⟩) = zz11
    clear HK3 x11_2 hw1 hb0 hb1 hb2 hb3 hnc
    clear y11_2
    have x12_2 : w11a.cell? ⟨n, 2, none⟩ = some (.slice (some ⟨nb, no, none⟩) (ln) r.icap) := by
      have h : w11a.cell? ⟨n, 2, none⟩ = some (sv (some (nb, no)) (List.length (List.take i r.items ++ List.drop (i + 1) r.items ++ List.drop (i + (List.drop (i + 1) r.items).length) r.items)) r.icap) := HC11.out.n0.cell.2.2.2.1
      rw [HL11.out] at h; exact h
    have x12_4 : w11a.cell? ⟨s.m, 4, none⟩ = some (Value.int .i64 0) := HC11.out.map.1.cell 4 rfl
    have x12_5 : w11a.cell? ⟨s.m, 4, none⟩ = some (Value.int .i64 0) := HC11.out.map.1.cell 4 rfl
    have hcap12 : ln ≤ r.icap := by have h := HC11.out.n0.wf.2.2.1; rw [HL11.out] at h; exact h
    have ci := (HC11.out.n0.items (b := nb) (o := no) rfl).some (p) (by show p < r.icap * E.sz; have h2 : E.sz = 1 := rfl; rw [h2]; omega)
    have ci2 := (HC11.out.n0.items (b := nb) (o := no) rfl).some (p) (by show p < r.icap * E.sz; have h2 : E.sz = 1 := rfl; rw [h2]; omega)
    obtain ⟨z1, hz1'⟩ := Option.isSome_iff_exists.1 ci
    obtain ⟨z2, hz2'⟩ := Option.isSome_iff_exists.1 ci2
    have e1 : w11a.cell? ⟨nb, no + p, none⟩ = some z1 := M_cell hz1'
    have e2 : w11a.cell? ⟨nb, no + p, none⟩ = some z2 := M_cell hz2'
    have f1 : w11a.frozen? ⟨nb, no + p, none⟩ = false := M_froz hz1'
    have f2 : w11a.frozen? ⟨nb, no + p, none⟩ = false := M_froz hz2'
    have hu := Upd.one w11a (b := nb) (o := no + p) (Value.int .i64 0) (by exact ci2)
    have K6 := HC11.out.n0.set_item (b := nb) (o := no) rfl (i := p) ((0 : Int), ()) (by show _ < List.length (List.take i r.items ++ List.drop (i + 1) r.items ++ List.drop (i + (List.drop (i + 1) r.items).length) r.items); rw [HL11.out]; omega) (by show _ = _ + _ * 1; rw [Nat.mul_one]) hu
    have HL12 : Hid (List.length (List.set (List.take i r.items ++ List.drop (i + 1) r.items ++ List.drop (i + (List.drop (i + 1) r.items).length) r.items) p ((0 : Int), ())) = ln) := hidp (by rw [List.length_set]; exact HL11.out)
    have hblt : nb < w11a.heap.size := HC11.out.n0.blt (b := nb) (o := no) rfl
    have hw1 : IntKind.i64.wrap (((ln : Nat) : Int) - 1) = (p : Int) := by rw [Last.i64_w, IntWalk.wrap64_in _ ⟨by omega, by omega⟩]; omega
    have hb1 : (p : Int) < ((ln : Nat) : Int) := by omega
    have hb2 : (p : Int) ≤ ((ln : Nat) : Int) := by omega
    have HC12 : Hid (KB E S w s [(bp, [Value.int .i64 y.1]), (w.heap.size, [Value.int .i64 0])] [(n, ⟨r.iso, r.count, (List.set (List.take i r.items ++ List.drop (i + 1) r.items ++ List.drop (i + (List.drop (i + 1) r.items).length) r.items) p ((0 : Int), ())), (some (nb, no)), r.icap, none⟩)] (w11a.setCell ⟨nb, no + p, none⟩ (Value.int .i64 0))) := hidp K6
    clear ci ci2 hz1' hz2' hu K6 HC11
    go_wp2_with fail
    refine Last.start_ (S := fun w' => w'.cell? ⟨n, 2, none⟩ = some (.slice (some ⟨nb, no, none⟩) (ln) r.icap) ∧ w'.cell? ⟨s.m, 4, none⟩ = some (Value.int .i64 0)) (ds := [15]) #[Z,Z,Z,Z,Z,Z,Z,Z,Z,Z,Z,Z,Z,Z,Z,Z] (by rfl) (by rfl) (by rfl) ?_ (fun hHeld => ?_)
    · go_keep
    refine Last.tk 0 59 #[Y,Z,Z,Z,Z,Z,Z,Z,Z,Z,Z,Z,Z,Z,Z,Z] rfl rfl hHeld ?_
    refine Last.tk 1 60 #[Y,Y,Z,Z,Z,Z,Z,Z,Z,Z,Z,Z,Z,Z,Z,Z] rfl rfl hHeld ?_
    refine Last.tk 2 61 #[Y,Y,Y,Z,Z,Z,Z,Z,Z,Z,Z,Z,Z,Z,Z,Z] rfl rfl hHeld ?_
    refine Last.tk 3 62 #[Y,Y,Y,Y,Z,Z,Z,Z,Z,Z,Z,Z,Z,Z,Z,Z] rfl rfl hHeld ?_
    refine Last.tk 4 63 #[Y,Y,Y,Y,Y,Z,Z,Z,Z,Z,Z,Z,Z,Z,Z,Z] rfl rfl hHeld ?_
    refine Last.tk 5 64 #[Y,Y,Y,Y,Y,Y,Z,Z,Z,Z,Z,Z,Z,Z,Z,Z] rfl rfl hHeld ?_
    refine Last.tk 6 65 #[Y,Y,Y,Y,Y,Y,Y,Z,Z,Z,Z,Z,Z,Z,Z,Z] rfl rfl hHeld ?_
    refine Last.tk 7 66 #[Y,Y,Y,Y,Y,Y,Y,Y,Z,Z,Z,Z,Z,Z,Z,Z] rfl rfl hHeld ?_
    refine Last.tk 8 67 #[Y,Y,Y,Y,Y,Y,Y,Y,Y,Z,Z,Z,Z,Z,Z,Z] rfl rfl hHeld ?_
    refine Last.tk 9 68 #[Y,Y,Y,Y,Y,Y,Y,Y,Y,Y,Z,Z,Z,Z,Z,Z] rfl rfl hHeld ?_
    refine Last.tk 10 69 #[Y,Y,Y,Y,Y,Y,Y,Y,Y,Y,Y,Z,Z,Z,Z,Z] rfl rfl hHeld ?_
    refine Last.tk 11 70 #[Y,Y,Y,Y,Y,Y,Y,Y,Y,Y,Y,Y,Z,Z,Z,Z] rfl rfl hHeld ?_
    refine Last.tk 12 71 #[Y,Y,Y,Y,Y,Y,Y,Y,Y,Y,Y,Y,Y,Z,Z,Z] rfl rfl hHeld ?_
    refine Last.tk 13 72 #[Y,Y,Y,Y,Y,Y,Y,Y,Y,Y,Y,Y,Y,Y,Z,Z] rfl rfl hHeld ?_
    refine Last.tk 14 73 #[Y,Y,Y,Y,Y,Y,Y,Y,Y,Y,Y,Y,Y,Y,Y,Z] rfl rfl hHeld ?_
    refine Last.last_ (i := 15) (N := none) #[Y,Y,Y,Y,Y,Y,Y,Y,Y,Y,Y,Y,Y,Y,Y,Y] rfl rfl (by kernel_rfl) (by decide) (fun K hK => ?_)
    go_simp
    refine hK.out _ _ ?_
    clear hK K
    try simp only [Act.put, setIfInBounds_toArray, set_cons_zero, set_cons_succ]
    refine Last.done_ (by kernel_rfl) ?_
    have K7 := HC12.out.drew
    generalize (w11a.setCell ⟨nb, no + p, none⟩ (Value.int .i64 0)).drew = w12 at K7 ⊢
    clear HC12 x12_2 x12_4 x12_5 e1 e2 f1 f2 hblt
    have HK13 : Hid (KB E S w s [(bp, [Value.int .i64 y.1]), (w.heap.size, [Value.int .i64 0])] [(n, ⟨r.iso, r.count, (List.set (List.take i r.items ++ List.drop (i + 1) r.items ++ List.drop (i + (List.drop (i + 1) r.items).length) r.items) p ((0 : Int), ())), (some (nb, no)), r.icap, none⟩)] w12) := hidp K7
    clear K7
    have x14_2 : w12.cell? ⟨n, 2, none⟩ = some (.slice (some ⟨nb, no, none⟩) (ln) r.icap) := by
      have h : w12.cell? ⟨n, 2, none⟩ = some (sv (some (nb, no)) (List.length (List.set (List.take i r.items ++ List.drop (i + 1) r.items ++ List.drop (i + (List.drop (i + 1) r.items).length) r.items) p ((0 : Int), ()))) r.icap) := HK13.out.n0.cell.2.2.2.1
      rw [HL12.out] at h; exact h
    have f2 := M_froz HK13.out.n0.mem.2
    have hlt : n < w12.heap.size := HK13.out.n0.cell.1
    have hcp : ln ≤ r.icap := by have h := HK13.out.n0.wf.2.2.1; rw [HL12.out] at h; exact h
    have hcc : ¬ r.icap < p := by omega
    have hcd : (p : Int) ≤ (r.icap : Int) := by omega
    have K6 := HK13.out.n0.take_items (k := p) (by show _ ≤ List.length (List.set (List.take i r.items ++ List.drop (i + 1) r.items ++ List.drop (i + (List.drop (i + 1) r.items).length) r.items) p ((0 : Int), ())); rw [HL12.out]; omega) (Upd.one w12 (b := n) (o := 2) (.slice (some ⟨nb, no, none⟩) p r.icap) (by rw [HK13.out.n0.mem.2]; rfl))
    have HL14 : Hid (List.length (List.take p (List.set (List.take i r.items ++ List.drop (i + 1) r.items ++ List.drop (i + (List.drop (i + 1) r.items).length) r.items) p ((0 : Int), ()))) = p) := hidp (by rw [List.length_take, HL12.out]; omega)
    have HC14 : Hid (KB E S w s [(bp, [Value.int .i64 y.1]), (w.heap.size, [Value.int .i64 0])] [(n, ⟨r.iso, r.count, (List.take p (List.set (List.take i r.items ++ List.drop (i + 1) r.items ++ List.drop (i + (List.drop (i + 1) r.items).length) r.items) p ((0 : Int), ()))), (some (nb, no)), r.icap, none⟩)] (w12.setCell ⟨n, 2, none⟩ (.slice (some ⟨nb, no, none⟩) p r.icap))) := hidp K6
    clear K6 HK13
    go_wp2_with fail
    refine Last.start_ (S := fun w' => w'.cell? ⟨n, 2, none⟩ = some (.slice (some ⟨nb, no, none⟩) (ln) r.icap)) (ds := [14]) #[Z,Z,Z,Z,Z,Z,Z,Z,Z,Z,Z,Z,Z,Z,Z] (by rfl) (by rfl) (by rfl) ?_ (fun hHeld => ?_)
    · go_keep
    refine Last.tk 0 74 #[Y,Z,Z,Z,Z,Z,Z,Z,Z,Z,Z,Z,Z,Z,Z] rfl rfl hHeld ?_
    refine Last.tk 1 75 #[Y,Y,Z,Z,Z,Z,Z,Z,Z,Z,Z,Z,Z,Z,Z] rfl rfl hHeld ?_
    refine Last.tk 2 76 #[Y,Y,Y,Z,Z,Z,Z,Z,Z,Z,Z,Z,Z,Z,Z] rfl rfl hHeld ?_
    refine Last.tk 3 77 #[Y,Y,Y,Y,Z,Z,Z,Z,Z,Z,Z,Z,Z,Z,Z] rfl rfl hHeld ?_
    refine Last.tk 4 78 #[Y,Y,Y,Y,Y,Z,Z,Z,Z,Z,Z,Z,Z,Z,Z] rfl rfl hHeld ?_
    refine Last.tk 5 79 #[Y,Y,Y,Y,Y,Y,Z,Z,Z,Z,Z,Z,Z,Z,Z] rfl rfl hHeld ?_
    refine Last.tk 6 80 #[Y,Y,Y,Y,Y,Y,Y,Z,Z,Z,Z,Z,Z,Z,Z] rfl rfl hHeld ?_
    refine Last.tk 7 81 #[Y,Y,Y,Y,Y,Y,Y,Y,Z,Z,Z,Z,Z,Z,Z] rfl rfl hHeld ?_
    refine Last.tk 8 82 #[Y,Y,Y,Y,Y,Y,Y,Y,Y,Z,Z,Z,Z,Z,Z] rfl rfl hHeld ?_
    refine Last.tk 9 83 #[Y,Y,Y,Y,Y,Y,Y,Y,Y,Y,Z,Z,Z,Z,Z] rfl rfl hHeld ?_
    refine Last.tk 10 84 #[Y,Y,Y,Y,Y,Y,Y,Y,Y,Y,Y,Z,Z,Z,Z] rfl rfl hHeld ?_
    refine Last.tk 11 85 #[Y,Y,Y,Y,Y,Y,Y,Y,Y,Y,Y,Y,Z,Z,Z] rfl rfl hHeld ?_
    refine Last.tk 12 86 #[Y,Y,Y,Y,Y,Y,Y,Y,Y,Y,Y,Y,Y,Z,Z] rfl rfl hHeld ?_
    refine Last.tk 13 87 #[Y,Y,Y,Y,Y,Y,Y,Y,Y,Y,Y,Y,Y,Y,Z] rfl rfl hHeld ?_
    refine Last.last_ (i := 14) (N := none) #[Y,Y,Y,Y,Y,Y,Y,Y,Y,Y,Y,Y,Y,Y,Y] rfl rfl (by kernel_rfl) (by decide) (fun K hK => ?_)
    go_simp
    refine hK.out _ _ ?_
    clear hK K
    try simp only [Act.put, setIfInBounds_toArray, set_cons_zero, set_cons_succ]
    refine Last.done_ (by kernel_rfl) ?_
    have K7 := HC14.out.drew
    generalize (w12.setCell ⟨n, 2, none⟩ (.slice (some ⟨nb, no, none⟩) p r.icap)).drew = w14 at K7 ⊢
    clear HC14 x14_2 f2 hlt hcc hcd hcp
    have hsh : (List.take p (List.set (List.take i r.items ++ List.drop (i + 1) r.items ++ List.drop (i + (List.drop (i + 1) r.items).length) r.items) p ((0 : Int), ()))) = (List.take i r.items ++ List.drop (i + 1) r.items) := cut_shift (HLn.out.trans HP.out) (by omega)
    have HLs14 : Hid (List.length (List.take i r.items ++ List.drop (i + 1) r.items) = p) := hidp (by rw [← hsh]; exact HL14.out)
    rw [hsh] at K7
    have HK15 : Hid (KB E S w s [(bp, [Value.int .i64 y.1]), (w.heap.size, [Value.int .i64 0])] [(n, ⟨r.iso, r.count, (List.take i r.items ++ List.drop (i + 1) r.items), (some (nb, no)), r.icap, none⟩)] w14) := hidp K7
    clear K7 hsh
    clear hw1 hb1 hb2
    have x1 : w14.cell? ⟨n, 1, none⟩ = some (.int .i64 r.count) := HK15.out.n0.cell.2.2.1
    have f1 := M_froz HK15.out.n0.mem.1
    have hlt : n < w14.heap.size := HK15.out.n0.cell.1
    have K6 := HK15.out.n0.count (r.count - 1) (Upd.one w14 (b := n) (o := 1) (.int .i64 (r.count - 1)) (by rw [HK15.out.n0.mem.1]; rfl))
    have HC : Hid (KB E S w s [(bp, [Value.int .i64 y.1]), (w.heap.size, [Value.int .i64 0])] [(n, ⟨r.iso, (r.count - 1), (List.take i r.items ++ List.drop (i + 1) r.items), (some (nb, no)), r.icap, none⟩)] (w14.setCell ⟨n, 1, none⟩ (.int .i64 (r.count - 1)))) := hidp K6
    have b1 := (HC.out.bx (b := bp) (vs := [Value.int .i64 y.1]) (by simp)).cell 0 rfl
    have b0 := (HC.out.bx (b := w.heap.size) (vs := [Value.int .i64 0]) (by simp)).cell 0 rfl
    have g0 := (HC.out.bx (b := w.heap.size) (vs := [Value.int .i64 0]) (by simp)).froz 0 rfl
    
    
    
    have hwc : IntKind.i64.wrap (r.count - 1) = r.count - 1 := by rw [Last.i64_w]; exact IntWalk.wrap64_in _ ⟨by omega, by omega⟩
    have hb0 : w.heap.size < (w14.setCell ⟨n, 1, none⟩ (.int .i64 (r.count - 1))).heap.size := by have h := (HC.out.bx (b := w.heap.size) (vs := [Value.int .i64 0]) (by simp)).1; simpa using h
    clear K6 HK15
    have KF := KB.set_box (vs' := [Value.int .i64 y.1]) HC.out.swap (Upd.one (w14.setCell ⟨n, 1, none⟩ (.int .i64 (r.count - 1))) (b := w.heap.size) (o := 0) (Value.int .i64 y.1) (by rw [(HC.out.bx (b := w.heap.size) (vs := [Value.int .i64 0]) (by simp)).2 0 _ rfl]; rfl)) (fun p' hp' => by simp only [List.mem_cons, List.not_mem_nil, or_false] at hp'; rw [hp']; show bp ≠ w.heap.size; omega)
    have d0 := (KF.bx (b := w.heap.size) (vs := [Value.int .i64 y.1]) (by simp)).cell 0 rfl
    
    have HKF := hidp KF
    clear KF
    go_wp2
    refine bodyPost_ret (v := .tuple #[.agg #[Value.int .i64 y.1], .bool true]) (by simp [results, Try.results98, go_sem, d0]) rfl ?_
    exact ⟨rfl, _, HKF.out⟩
end Go.Proofs.Ytbjhnefienjncaa.Bt.IU
