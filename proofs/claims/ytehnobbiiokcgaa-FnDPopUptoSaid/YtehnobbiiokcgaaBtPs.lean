/- Nodes as data: PopMin and PopMax of a map that stands on a node. Nodes as data: DPop. Nodes as data: the law FnDPop. -/
import Derived.Test.YtehnobbiiokcgaaBtNx
import Derived.Test.YtehnobbiiokcgaaBtOb
import Derived.Test.YtehnobbiiokcgaaBtOj
import Derived.Test.YtehnobbiiokcgaaBtOk
import Derived.Deep.RegionHeld3
import Derived.Test.YtehnobbiiokcgaaBtOi
namespace Go.Proofs.Ytehnobbiiokcgaa.Bt.II
set_option linter.unusedVariables false
set_option linter.unusedSimpArgs false
open Go Go.RowKit Go.Proofs.Ytehnobbiiokcgaa.Bt
variable {S : Nat → Prop} {w : World} {s : Sto It}
set_option maxHeartbeats 1000000 in
set_option maxRecDepth 100000 in
/-- 'PopMin' of a map without a node. -/
theorem popMin_none (R : RepS E S w s) (hr : s.mp.root = none) : Calls Try.prog 67 #[.pointer (some ⟨s.m, 0, none⟩)] w (fun e w' => e = .returned (.tuple #[.int .i64 0, .int .i64 0, .bool false]) ∧ ∃ d, w' = w.drewN d) := by
  obtain ⟨_, _, _, m2, _⟩ := mcell R
  have m2' : w.cell? ⟨s.m, 2, none⟩ = some (.pointer none) := by rw [m2, hr]; rfl
  have m4 : w.cell? ⟨s.m, 4, none⟩ = some (.int .i64 0) := R.map.cell 4 rfl
  have m5 : w.cell? ⟨s.m, 5, none⟩ = some (.int .i64 0) := R.map.cell 5 rfl
  clear R hr m2
  go_enter Try.func67, Try.ntmps67
  go_wp2_with fail
  go_quiet (fail)
  go_wp2
  refine bodyPost_ret (v := .tuple #[.int .i64 0, .int .i64 0, .bool false]) (by simp [results, Try.results67, go_sem]) rfl ?_
  exact ⟨rfl, _, rfl⟩
set_option maxHeartbeats 1000000 in
set_option maxRecDepth 100000 in
/-- 'PopMax' of a map without a node. -/
theorem popMax_none (R : RepS E S w s) (hr : s.mp.root = none) : Calls Try.prog 66 #[.pointer (some ⟨s.m, 0, none⟩)] w (fun e w' => e = .returned (.tuple #[.int .i64 0, .int .i64 0, .bool false]) ∧ ∃ d, w' = w.drewN d) := by
  obtain ⟨_, _, _, m2, _⟩ := mcell R
  have m2' : w.cell? ⟨s.m, 2, none⟩ = some (.pointer none) := by rw [m2, hr]; rfl
  have m4 : w.cell? ⟨s.m, 4, none⟩ = some (.int .i64 0) := R.map.cell 4 rfl
  have m5 : w.cell? ⟨s.m, 5, none⟩ = some (.int .i64 0) := R.map.cell 5 rfl
  clear R hr m2
  go_enter Try.func66, Try.ntmps66
  go_wp2_with fail
  go_quiet (fail)
  go_wp2
  refine bodyPost_ret (v := .tuple #[.int .i64 0, .int .i64 0, .bool false]) (by simp [results, Try.results66, go_sem]) rfl ?_
  exact ⟨rfl, _, rfl⟩
end Go.Proofs.Ytehnobbiiokcgaa.Bt.II
namespace Go.Proofs.Ytehnobbiiokcgaa.Bt.ND
set_option linter.unusedVariables false
set_option linter.unusedSimpArgs false
open Go Go.RowKit Go.Proofs.Ytehnobbiiokcgaa.Bt

theorem hgt_of {mn mx lo h : Nat} {t : BT Im h} (hlo : 1 ≤ lo) (hok : BT.ok mn mx lo h t) : hgt (ofBT h t) = h + 1 := by
  have h1 : ¬ (ofBT h t).1.length = 0 := by
    rw [ofBT_its]
    cases h with
    | zero => have h2 : lo ≤ List.length t := hok.1; show ¬ List.length t = 0; omega
    | succ h => have h2 : lo ≤ t.1.length := hok.1; show ¬ t.1.length = 0; omega
  unfold hgt
  rw [if_neg h1, ofBT_lev h lo t hok]

/-- The node y holds the items due; it is as high as t, or one level less. -/
structure LessOut (D : Nat) {n : Nat} (t : DT (n + 1)) (due : List Im) {m : Nat} (y : DT (m + 1)) : Prop where
  valid : validB D (m + 1) y = true
  cnts : rc (m + 1) y = true
  all : dAll (m + 1) y = due
  blk : bulk (m + 1) y ≤ 2 * due.length + 2
  less : hgt t = hgt y ∨ hgt t = hgt y + 1
theorem LessOut.nil {D n : Nat} {t : DT (n + 1)} (h : hgt t ≤ 1) : LessOut D t [] (m := 0) ([], [], 0) := by
  refine ⟨rfl, rfl, rfl, ?_, ?_⟩
  · show 1 + 0 + 0 ≤ _; omega
  · have e : ND.hgt (n := 0) ([], [], 0) = 0 := rfl
    omega
/-- The map s holds a tree as 'PopMin' and its kin leave it: what 'fellMap' makes of it. -/
theorem less_of {D : Nat} (hD : 2 ≤ D) (hD2 : D ≤ 400) {n h : Nat} {t : DT (n + 1)} (hv : hgt t = h + 1) {s : Sto II.It} {due : List Im} (hs : Srt II.lt due) (hT : II.TreeH D h s due) :
    ∃ (m : Nat) (y : DT (m + 1)), LessOut D t due y ∧ ∀ (S : Nat → Prop) (w : World), RepS II.E S w s → Calls Try.prog 63 #[.pointer (some ⟨s.m, 0, none⟩)] w (Lifted y w) := by
  rcases hT with ⟨hr, rfl, h0⟩ | ⟨h', r, t', ids, hh, hr, T, hd, hok, rfl⟩
  · exact ⟨0, ([], [], 0), LessOut.nil (by omega), fun S w R => fell_nil R hr⟩
  · have hb := ofBT_bulk (mn := D - 1) (by omega) h' 1 t' (Nat.le_refl _) hok
    have hg := hgt_of (Nat.le_refl _) hok
    exact ⟨h', ofBT h' t', ⟨ofBT_valid hok hs, ofBT_rc h' t', ofBT_all h' t', by omega, by omega⟩, fun S w R => fell_tr (mn := D - 1) (mx := 2 * D - 1) (lo := 1) (by omega) R hr T hok⟩

/-- What 'PopMin' and 'PopMax' leave of a map that stands on t. -/
def PopSt (last : Bool) (D : Nat) {n : Nat} (t : DT (n + 1)) (S : Nat → Prop) (w : World) (s : Sto II.It) (e : Ending) (w' : World) : Prop :=
  ∃ S' s' k v b, e = .returned (.tuple #[.int .i64 k, .int .i64 v, .bool b]) ∧ fdv k v b = ff (endI last (dAll (n + 1) t)) ∧ Ext S w S' w' ∧ RepS II.E S' w' s' ∧ s'.m = s.m ∧
    ∃ (m : Nat) (y : DT (m + 1)), LessOut D t (cutE last (dAll (n + 1) t)) y ∧ ∀ (S : Nat → Prop) (w : World), RepS II.E S w s' → Calls Try.prog 63 #[.pointer (some ⟨s'.m, 0, none⟩)] w (Lifted y w)
theorem PopSt.nil {last : Bool} {D n : Nat} {t : DT (n + 1)} {S : Nat → Prop} {w : World} {s : Sto II.It} (h1 : t.1.length = 0) (h2 : t.2.1.length = 0) (R : RepS II.E S w s) (hr : s.mp.root = none) {e : Ending} {w' : World} (he : e = .returned (.tuple #[.int .i64 0, .int .i64 0, .bool false]) ∧ ∃ d, w' = w.drewN d) : PopSt last D t S w s e w' := by
  obtain ⟨rfl, d, rfl⟩ := he
  rw [PopSt, dAll_nil h1 h2]
  have e0 : endI last ([] : List Im) = none := by cases last <;> rfl
  have e1 : cutE last ([] : List Im) = [] := by cases last <;> rfl
  rw [e0, e1]
  have hg : hgt t = 0 := by unfold hgt; rw [if_pos h1]
  exact ⟨S, s, 0, 0, false, rfl, rfl, (Ext.refl S w).drewN d, R.drewN d, rfl, 0, ([], [], 0), LessOut.nil (by omega), fun S w R => fell_nil R hr⟩
theorem PopSt.of {last : Bool} {D : Nat} (hD : 2 ≤ D) (hD2 : D ≤ 400) {n h : Nat} {t : DT (n + 1)} (V : VTree D t h) {S : Nat → Prop} {w : World} {s : Sto II.It} {e : Ending} {w' : World} (hp : II.PopPost last D h S w s (dAll (n + 1) t) e w') : PopSt last D t S w s e w' := by
  obtain ⟨S', s', x, he, hx, hE, M, hm, _, _, hT⟩ := hp
  exact ⟨S', s', x.1, x.2, true, he, by rw [hx]; rfl, hE, M.rep, hm, less_of hD hD2 V.hgt M.srt hT⟩
theorem popMin_stands {D n : Nat} (hD : 2 ≤ D) (hD2 : D ≤ 400) {t : DT (n + 1)} {S : Nat → Prop} {w : World} {s : Sto II.It} (St : Stands D t S w s) (hb : bulk (n + 1) t ≤ 10000000) :
    Calls Try.prog 67 #[.pointer (some ⟨s.m, 0, none⟩)] w (PopSt false D t S w s) := by
  have hlen := dAll_bulk (n + 1) t
  rcases St.tree with ⟨h1, h2, h3⟩ | ⟨h, m, ids, V, hr, T, hd⟩
  · exact (II.popMin_none St.mp.rep h3).mono fun e w' he => PopSt.nil h1 h2 St.mp.rep h3 he
  · have hM := St.mp
    rw [← V.all] at hM
    have hp := II.popMin_tr hD hD2 hM hr T hd V.ok (by rw [V.all]; omega)
    rw [V.all] at hp
    exact hp.mono fun e w' he => PopSt.of hD hD2 V he
theorem popMax_stands {D n : Nat} (hD : 2 ≤ D) (hD2 : D ≤ 400) {t : DT (n + 1)} {S : Nat → Prop} {w : World} {s : Sto II.It} (St : Stands D t S w s) (hb : bulk (n + 1) t ≤ 10000000) :
    Calls Try.prog 66 #[.pointer (some ⟨s.m, 0, none⟩)] w (PopSt true D t S w s) := by
  have hlen := dAll_bulk (n + 1) t
  rcases St.tree with ⟨h1, h2, h3⟩ | ⟨h, m, ids, V, hr, T, hd⟩
  · exact (II.popMax_none St.mp.rep h3).mono fun e w' he => PopSt.nil h1 h2 St.mp.rep h3 he
  · have hM := St.mp
    rw [← V.all] at hM
    have hp := II.popMax_tr hD hD2 hM hr T hd V.ok (by rw [V.all]; omega)
    rw [V.all] at hp
    exact hp.mono fun e w' he => PopSt.of hD hD2 V he
end Go.Proofs.Ytehnobbiiokcgaa.Bt.ND

namespace Go.Proofs.Ytehnobbiiokcgaa.Bt.ND
set_option linter.unusedVariables false
set_option linter.unusedSimpArgs false
open Go Go.RowKit Go.Proofs.Ytehnobbiiokcgaa.Bt

theorem Fr.put {F : Nat → Prop} {a b : World} (h : Fr F a b) {k o : Nat} (hk : F k) (v : Value) : Fr F a (b.setCell ⟨k, o, none⟩ v) := h.trans (Fr.setCell b k o v) (fun i (hi : i = k) => .inl (hi ▸ hk))

set_option maxHeartbeats 4000000 in
set_option maxRecDepth 100000 in
/-- 'DPop' -/
theorem dpop_is {D : Nat} (hD : 2 ≤ D) (hD2 : D ≤ 400) {n : Nat} {t : DT (n + 1)} (hv : validB D (n + 1) t = true) {w : World} {vi vk : Value} {c : Int} (hN : NodeAt w (n + 1) t vi vk c) (hb : bulk (n + 1) t ≤ 10000000) (last : Bool) :
    Calls Try.prog 31 #[.int .i64 D, .agg #[vi, vk, .int .i64 c], .bool last] w (fun e w' => ∃ m y ui uk c', e = .returned (.tuple #[ff (endI last (dAll (n + 1) t)), .agg #[ui, uk, .int .i64 c']]) ∧ LessOut D t (cutE last (dAll (n + 1) t)) y ∧
      NodeQ (fun b => w.heap.size ≤ b ∧ b < w'.heap.size) w' (m + 1) y ui uk c' ∧ Below w.heap.size w w') := by
  obtain ⟨⟨i1, i2, icap, rfl⟩, q1, q2, kcap, rfl⟩ := hN.vals
  obtain ⟨w1, hw1⟩ : ∃ w1, w1 = ((w.alloc (.cells #[.slice i1 i2 icap, .slice q1 q2 kcap, .int .i64 c] 25)).alloc (.cells #[.int .i64 0, .int .i64 0, .bool false] 37)).alloc (.cells #[.slice none 0 0, .slice none 0 0, .int .i64 0] 25) := ⟨_, rfl⟩
  have hsz1 : w1.heap.size = w.heap.size + 3 := by rw [hw1]; simp
  have hB1 : Below w.heap.size w w1 := by rw [hw1]; exact (((Below.refl _ _).alloc (Nat.le_refl _) _).alloc (by rw [World.size_alloc]; omega) _).alloc (by rw [World.size_alloc, World.size_alloc]; omega) _
  have hx0 : Bx w1 w.heap.size [.slice i1 i2 icap, .slice q1 q2 kcap, .int .i64 c] := by rw [hw1]; exact ((Bx.new w [.slice i1 i2 icap, .slice q1 q2 kcap, .int .i64 c] 25).alloc _).alloc _
  have hx1 : Bx w1 (w.heap.size + 1) [.int .i64 0, .int .i64 0, .bool false] := by
    rw [hw1]
    have h := Bx.new (w.alloc (.cells #[.slice i1 i2 icap, .slice q1 q2 kcap, .int .i64 c] 25)) [.int .i64 0, .int .i64 0, .bool false] 37
    rw [World.size_alloc] at h
    exact h.alloc _
  have hx2 : Bx w1 (w.heap.size + 2) [.slice none 0 0, .slice none 0 0, .int .i64 0] := by
    rw [hw1]
    have h := Bx.new ((w.alloc (.cells #[.slice i1 i2 icap, .slice q1 q2 kcap, .int .i64 c] 25)).alloc (.cells #[.int .i64 0, .int .i64 0, .bool false] 37)) [.slice none 0 0, .slice none 0 0, .int .i64 0] 25
    rw [World.size_alloc, World.size_alloc] at h
    exact h
  have HST := hidp (stand_is hD (by omega) hv (hN.below hB1) hb)
  have HX1 := hidp hx1
  have HX2 := hidp hx2
  have HB1 := hidp hB1
  have HSZ := hidp hsz1
  have y0 := hx0.cell 0 rfl
  have y1 := hx0.cell 1 rfl
  have y2 := hx0.cell 2 rfl
  clear hN hB1 hv hx0 hx1 hx2 hsz1
  obtain ⟨f0, f1, f2, hff⟩ : ∃ (f0 f1 : Int) (f2 : Bool), ff (endI last (dAll (n + 1) t)) = .agg #[.int .i64 f0, .int .i64 f1, .bool f2] := by
    cases endI last (dAll (n + 1) t) with
    | none => exact ⟨0, 0, false, rfl⟩
    | some y => exact ⟨y.1, y.2, true, rfl⟩
  rw [hff]
  have HFF := hidp hff
  clear hff
  go_enter Try.func31, Try.ntmps31
  go_wp2_with fail
  rw [← hw1]
  clear hw1
  refine HST.out.mono ?_
  rintro e w2 ⟨S, s, rfl, St, hb2, hSge⟩
  have hs2 := hb2.size
  obtain ⟨w3, hw3⟩ : ∃ w3, w3 = w2.alloc (.cells #[.int .i64 0, .int .i64 0, .bool false] 37) := ⟨_, rfl⟩
  have hsz3 : w3.heap.size = w2.heap.size + 1 := by rw [hw3]; simp
  have hb23 : Below w2.heap.size w2 w3 := by rw [hw3]; exact (Below.refl _ _).alloc (Nat.le_refl _) _
  have hx9 : Bx w3 w2.heap.size [.int .i64 0, .int .i64 0, .bool false] := by rw [hw3]; exact Bx.new w2 [.int .i64 0, .int .i64 0, .bool false] 37
  have hn9 : ¬ S w2.heap.size := fun h => by have := St.mp.rep.rep.lt _ h; omega
  have hbb3 : Below w1.heap.size w1 w3 := hb2.trans (hb23.mono hs2)
  have HX1b := hidp (Bx.below HX1.out hbb3 (by have := HSZ.out; omega))
  have HX2b := hidp (Bx.below HX2.out hbb3 (by have := HSZ.out; omega))
  have HX9 := hidp hx9
  have HN9 := hidp hn9
  have HB3 := hidp (HB1.out.trans (hbb3.mono HB1.out.size))
  have HST3 := hidp (St.below hb23)
  have HSG : Hid (∀ i, S i → w1.heap.size ≤ i) := hidp hSge
  have HS3 : Hid (w1.heap.size ≤ w2.heap.size ∧ w3.heap.size = w2.heap.size + 1) := hidp ⟨hs2, hsz3⟩
  have HW3 := hidp hw3
  clear hb2 St HST y0 y1 y2 hSge hs2 hb23 hx9 hn9 hbb3 hsz3
  cases last with
  | true =>
    have HPOP := hidp (popMax_stands hD hD2 HST3.out hb)
    go_wp2_with fail
    rw [← hw3]
    clear hw3
    refine HPOP.out.mono ?_
    rintro e w4 ⟨S', s', k, v, b, rfl, hfd, hE, hR, hm, m, y, hO, hfell⟩
    have hb34 : Below w1.heap.size w3 w4 := hE.fr.below (by have := HS3.out; omega) HSG.out
    have HX1c := hidp (Bx.below HX1b.out hb34 (by have := HSZ.out; omega))
    have HX2c := hidp (Bx.below HX2b.out hb34 (by have := HSZ.out; omega))
    have HX9c := hidp (hE.bx HX9.out HN9.out)
    have HN9c := hidp (hE.notin HX9.out.1 HN9.out)
    have HN1c : Hid (¬ S' (w.heap.size + 1)) := hidp (hE.notin HX1b.out.1 (fun h => by have h1 := HSG.out _ h; have h2 := HSZ.out; omega))
    have HB4 := hidp (HB3.out.trans (hb34.mono HB1.out.size))
    have HR4 := hidp hR
    have HOUT := hidp hO
    have HFD : Hid (fdv k v b = .agg #[.int .i64 f0, .int .i64 f1, .bool f2]) := hidp (hfd.trans HFF.out)
    rw [hm] at hfell
    have HFELL := hidp hfell
    clear hfd hE hR hm hO hfell hb34 HPOP HST3
    go_wp2_with fail
    have hpr := pair_is w4 k v b
    rw [HFD.out] at hpr
    refine hpr.mono ?_
    clear hpr
    rintro e w5 ⟨rfl, hb5⟩
    have hx9 := Bx.below HX9c.out hb5 HX9c.out.1
    have hu9 := Bx.upd3 hx9 (.int .i64 f0) (.int .i64 f1) (.bool f2)
    have hR5 := RepS.below HR4.out hb5
    have HR6 := hidp (hR5.upd_out hu9 HN9c.out)
    have HX1d := hidp ((Bx.below HX1c.out hb5 HX1c.out.1).upd hu9 (by have h1 := HS3.out; have h2 := HSZ.out; omega))
    have HX2d := hidp ((Bx.below HX2c.out hb5 HX2c.out.1).upd hu9 (by have h1 := HS3.out; have h2 := HSZ.out; omega))
    have HX9d : Hid (Bx (((w5.setCell ⟨w2.heap.size, 0, none⟩ (.int .i64 f0)).setCell ⟨w2.heap.size, 1, none⟩ (.int .i64 f1)).setCell ⟨w2.heap.size, 2, none⟩ (.bool f2)) w2.heap.size [.int .i64 f0, .int .i64 f1, .bool f2]) := hidp ⟨by rw [hu9.size]; exact hx9.1, fun j u hj => by
      have hl := (List.getElem?_eq_some_iff.1 hj).1
      rw [hu9.cells, if_pos ⟨rfl, Nat.zero_le _, by omega⟩]; simpa using hj⟩
    have HB6 : Hid (Below w.heap.size w (((w5.setCell ⟨w2.heap.size, 0, none⟩ (.int .i64 f0)).setCell ⟨w2.heap.size, 1, none⟩ (.int .i64 f1)).setCell ⟨w2.heap.size, 2, none⟩ (.bool f2))) := hidp ((((HB4.out.trans (hb5.mono HB4.out.size)).setCell (by show w.heap.size ≤ w2.heap.size; have h1 := HS3.out; have h2 := HSZ.out; omega) _).setCell (by show w.heap.size ≤ w2.heap.size; have h1 := HS3.out; have h2 := HSZ.out; omega) _).setCell (by show w.heap.size ≤ w2.heap.size; have h1 := HS3.out; have h2 := HSZ.out; omega) _)
    have k9 := hx9.cell 0 rfl
    have k9b := hx9.cell 1 rfl
    have k9c := hx9.cell 2 rfl
    have f9 := hx9.froz 0 (v := .int .i64 0) rfl
    have f9b := hx9.froz 1 (v := .int .i64 0) rfl
    have f9c := hx9.froz 2 (v := .bool false) rfl
    have hl9 := hx9.1
    clear hx9 hu9 hR5 hb5
    go_wp2_with fail
    clear k9 k9b k9c f9 f9b f9c hl9
    generalize (((w5.setCell ⟨w2.heap.size, 0, none⟩ (.int .i64 f0)).setCell ⟨w2.heap.size, 1, none⟩ (.int .i64 f1)).setCell ⟨w2.heap.size, 2, none⟩ (.bool f2)) = w6 at HR6 HX1d HX2d HX9d HB6 ⊢
    have k0 := HX9d.out.cell 0 rfl
    have k1 := HX9d.out.cell 1 rfl
    have k2 := HX9d.out.cell 2 rfl
    have a0 := HX1d.out.cell 0 rfl
    have a1 := HX1d.out.cell 1 rfl
    have a2 := HX1d.out.cell 2 rfl
    have a0f := HX1d.out.froz 0 (v := .int .i64 0) rfl
    have a1f := HX1d.out.froz 1 (v := .int .i64 0) rfl
    have a2f := HX1d.out.froz 2 (v := .bool false) rfl
    have hla := HX1d.out.1
    have hn1 : ¬ w2.heap.size = w.heap.size + 1 := by have h1 := HS3.out; have h2 := HSZ.out; omega
    have hn2 : ¬ w2.heap.size = w.heap.size + 2 := by have h1 := HS3.out; have h2 := HSZ.out; omega
    have hn1' : ¬ w.heap.size + 1 = w2.heap.size := fun h => hn1 h.symm
    have hn2' : ¬ w.heap.size + 2 = w2.heap.size := fun h => hn2 h.symm
    -- the two worlds in which 'fellMap' may be called
    have HU1 := hidp (Bx.upd3 (w := w6.drew) (b := w.heap.size + 1) HX1d.out.drew (.int .i64 f0) (.int .i64 f1) (.bool f2))
    obtain ⟨wb, hwb⟩ : ∃ wb, wb = (((w6.drew.setCell ⟨w.heap.size + 1, 0, none⟩ (.int .i64 f0)).setCell ⟨w.heap.size + 1, 1, none⟩ (.int .i64 f1)).setCell ⟨w.heap.size + 1, 2, none⟩ (.bool f2)) := ⟨_, rfl⟩
    have HL1 := hidp (HFELL.out S' w6.drew HR6.out.drew)
    have HL2 : Hid (Calls Try.prog 63 #[.pointer (some ⟨s.m, 0, none⟩)] wb (Lifted y wb)) := hidp (HFELL.out S' wb (by rw [hwb]; exact HR6.out.drew.upd_out HU1.out HN1c.out))
    have HXA : Hid (Bx wb (w.heap.size + 1) [.int .i64 f0, .int .i64 f1, .bool f2]) := hidp ⟨by rw [hwb, HU1.out.size]; exact HX1d.out.1, fun j u hj => by
      have hl := (List.getElem?_eq_some_iff.1 hj).1
      rw [hwb, HU1.out.cells, if_pos ⟨rfl, Nat.zero_le _, by omega⟩]; simpa using hj⟩
    have HXB : Hid (Bx wb (w.heap.size + 2) [.slice none 0 0, .slice none 0 0, .int .i64 0]) := hidp (by rw [hwb]; exact HX2d.out.drew.upd HU1.out (by omega))
    have HXC : Hid (Bx wb w2.heap.size [.int .i64 f0, .int .i64 f1, .bool f2]) := hidp (by rw [hwb]; exact HX9d.out.drew.upd HU1.out hn1)
    have HBW : Hid (Below w.heap.size w wb) := hidp (by rw [hwb]; exact ((HB6.out.drew.setCell (by show w.heap.size ≤ w.heap.size + 1; omega) _).setCell (by show w.heap.size ≤ w.heap.size + 1; omega) _).setCell (by show w.heap.size ≤ w.heap.size + 1; omega) _)
    have HSW : Hid (wb.heap.size = w6.heap.size) := hidp (by rw [hwb, HU1.out.size]; rfl)
    rw [hwb] at HL2 HXA HXB HXC HBW HSW
    clear hwb
    go_region_held3 (fun w' => w'.cell? ⟨w2.heap.size, 0, none⟩ = some (.int .i64 f0) ∧ w'.cell? ⟨w2.heap.size, 1, none⟩ = some (.int .i64 f1) ∧ w'.cell? ⟨w2.heap.size, 2, none⟩ = some (.bool f2)) (go_keep)
      ((go_at_call 63
        (first
       | (refine HL1.out.mono ?_
          rintro e w7 ⟨ui, uk, c', rfl, hq, hb7⟩
          have hxa := Bx.below HX1d.out.drew hb7 HX1d.out.1
          have hxb := Bx.below HX2d.out.drew hb7 HX2d.out.1
          have hx9 := Bx.below HX9d.out.drew hb7 HX9d.out.1
          have HBQ := hidp (HB6.out.drew.trans (hb7.mono HB6.out.size))
          obtain ⟨⟨a1, a2, a3, rfl⟩, p1, p2, p3, rfl⟩ := hq.vals
          have j0 := hxb.cell 0 rfl
          have j1 := hxb.cell 1 rfl
          have j2 := hxb.cell 2 rfl
          have g0 := hxb.froz 0 (v := .slice none 0 0) rfl
          have g1 := hxb.froz 1 (v := .slice none 0 0) rfl
          have g2 := hxb.froz 2 (v := .int .i64 0) rfl
          have b0 := hxa.cell 0 rfl
          have b1 := hxa.cell 1 rfl
          have b2 := hxa.cell 2 rfl
          have b0f := hxa.froz 0 (v := .int .i64 0) rfl
          have b1f := hxa.froz 1 (v := .int .i64 0) rfl
          have b2f := hxa.froz 2 (v := .bool false) rfl
          have c0 := hx9.cell 0 rfl
          have c1 := hx9.cell 1 rfl
          have c2 := hx9.cell 2 rfl
          have hl7 := hxb.1
          have hl6 := hxa.1
          have HQF : Hid (∀ wF, Fr (fun i => i = w.heap.size + 1 ∨ i = w.heap.size + 2) w7 wF → NodeQ (fun b => w.heap.size ≤ b ∧ b < wF.heap.size) wF (m + 1) y (.slice a1 a2 a3) (.slice p1 p2 p3) c' ∧ Below w.heap.size w wF) := hidp fun wF hF => by
            have h6 := HX2d.out.1
            have hs := hF.size
            refine ⟨hq.keep hF (fun b hb => ?_), HBQ.out.trans (hF.below (by have := HBQ.out.size; omega) (fun i hi => by omega))⟩
            have hb1 := hb.1
            have hb2 : w6.heap.size ≤ b := hb1
            exact ⟨fun h => by omega, by omega, by have := hb.2; omega⟩
          clear hq hxa hxb hx9 hb7)
       | (refine HL2.out.mono ?_
          rintro e w7 ⟨ui, uk, c', rfl, hq, hb7⟩
          have hxa := Bx.below HXA.out hb7 HXA.out.1
          have hxb := Bx.below HXB.out hb7 HXB.out.1
          have hx9 := Bx.below HXC.out hb7 HXC.out.1
          have HBQ := hidp (HBW.out.trans (hb7.mono HBW.out.size))
          obtain ⟨⟨a1, a2, a3, rfl⟩, p1, p2, p3, rfl⟩ := hq.vals
          have j0 := hxb.cell 0 rfl
          have j1 := hxb.cell 1 rfl
          have j2 := hxb.cell 2 rfl
          have g0 := hxb.froz 0 (v := .slice none 0 0) rfl
          have g1 := hxb.froz 1 (v := .slice none 0 0) rfl
          have g2 := hxb.froz 2 (v := .int .i64 0) rfl
          have b0 := hxa.cell 0 rfl
          have b1 := hxa.cell 1 rfl
          have b2 := hxa.cell 2 rfl
          have b0f := hxa.froz 0 (v := .int .i64 f0) rfl
          have b1f := hxa.froz 1 (v := .int .i64 f1) rfl
          have b2f := hxa.froz 2 (v := .bool f2) rfl
          have c0 := hx9.cell 0 rfl
          have c1 := hx9.cell 1 rfl
          have c2 := hx9.cell 2 rfl
          have hl7 := hxb.1
          have hl6 := hxa.1
          have HQF : Hid (∀ wF, Fr (fun i => i = w.heap.size + 1 ∨ i = w.heap.size + 2) w7 wF → NodeQ (fun b => w.heap.size ≤ b ∧ b < wF.heap.size) wF (m + 1) y (.slice a1 a2 a3) (.slice p1 p2 p3) c' ∧ Below w.heap.size w wF) := hidp fun wF hF => by
            have h6 := HX2d.out.1
            have hs := hF.size
            refine ⟨hq.keep hF (fun b hb => ?_), HBQ.out.trans (hF.below (by have := HBQ.out.size; omega) (fun i hi => by omega))⟩
            have hb1 := hb.1
            have hb2 := HSW.out
            have hb3 : _ ≤ b := hb1
            rw [hb2] at hb3
            exact ⟨fun h => by omega, by omega, by have := hb.2; omega⟩
          clear hq hxa hxb hx9 hb7))))
    all_goals go_wp2
    all_goals refine bodyPost_ret (v := .tuple #[.agg #[.int .i64 f0, .int .i64 f1, .bool f2], .agg #[.slice a1 a2 a3, .slice p1 p2 p3, .int .i64 c']]) (by simp [results, Try.results31, go_sem, b0, b1, b2, b0f, b1f, b2f, j0, j1, j2, g0, g1, g2]) rfl ?_
    all_goals exact ⟨m, y, _, _, c', rfl, HOUT.out, HQF.out _ (by repeat (first | exact Fr.refl _ _ | refine Fr.put ?_ (by simp) _))⟩
  | false =>
    have HPOP := hidp (popMin_stands hD hD2 HST3.out hb)
    go_wp2_with fail
    rw [← hw3]
    clear hw3
    refine HPOP.out.mono ?_
    rintro e w4 ⟨S', s', k, v, b, rfl, hfd, hE, hR, hm, m, y, hO, hfell⟩
    have hb34 : Below w1.heap.size w3 w4 := hE.fr.below (by have := HS3.out; omega) HSG.out
    have HX1c := hidp (Bx.below HX1b.out hb34 (by have := HSZ.out; omega))
    have HX2c := hidp (Bx.below HX2b.out hb34 (by have := HSZ.out; omega))
    have HX9c := hidp (hE.bx HX9.out HN9.out)
    have HN9c := hidp (hE.notin HX9.out.1 HN9.out)
    have HN1c : Hid (¬ S' (w.heap.size + 1)) := hidp (hE.notin HX1b.out.1 (fun h => by have h1 := HSG.out _ h; have h2 := HSZ.out; omega))
    have HB4 := hidp (HB3.out.trans (hb34.mono HB1.out.size))
    have HR4 := hidp hR
    have HOUT := hidp hO
    have HFD : Hid (fdv k v b = .agg #[.int .i64 f0, .int .i64 f1, .bool f2]) := hidp (hfd.trans HFF.out)
    rw [hm] at hfell
    have HFELL := hidp hfell
    clear hfd hE hR hm hO hfell hb34 HPOP HST3
    go_wp2_with fail
    have hpr := pair_is w4 k v b
    rw [HFD.out] at hpr
    refine hpr.mono ?_
    clear hpr
    rintro e w5 ⟨rfl, hb5⟩
    have hx9 := Bx.below HX9c.out hb5 HX9c.out.1
    have hu9 := Bx.upd3 hx9 (.int .i64 f0) (.int .i64 f1) (.bool f2)
    have hR5 := RepS.below HR4.out hb5
    have HR6 := hidp (hR5.upd_out hu9 HN9c.out)
    have HX1d := hidp ((Bx.below HX1c.out hb5 HX1c.out.1).upd hu9 (by have h1 := HS3.out; have h2 := HSZ.out; omega))
    have HX2d := hidp ((Bx.below HX2c.out hb5 HX2c.out.1).upd hu9 (by have h1 := HS3.out; have h2 := HSZ.out; omega))
    have HX9d : Hid (Bx (((w5.setCell ⟨w2.heap.size, 0, none⟩ (.int .i64 f0)).setCell ⟨w2.heap.size, 1, none⟩ (.int .i64 f1)).setCell ⟨w2.heap.size, 2, none⟩ (.bool f2)) w2.heap.size [.int .i64 f0, .int .i64 f1, .bool f2]) := hidp ⟨by rw [hu9.size]; exact hx9.1, fun j u hj => by
      have hl := (List.getElem?_eq_some_iff.1 hj).1
      rw [hu9.cells, if_pos ⟨rfl, Nat.zero_le _, by omega⟩]; simpa using hj⟩
    have HB6 : Hid (Below w.heap.size w (((w5.setCell ⟨w2.heap.size, 0, none⟩ (.int .i64 f0)).setCell ⟨w2.heap.size, 1, none⟩ (.int .i64 f1)).setCell ⟨w2.heap.size, 2, none⟩ (.bool f2))) := hidp ((((HB4.out.trans (hb5.mono HB4.out.size)).setCell (by show w.heap.size ≤ w2.heap.size; have h1 := HS3.out; have h2 := HSZ.out; omega) _).setCell (by show w.heap.size ≤ w2.heap.size; have h1 := HS3.out; have h2 := HSZ.out; omega) _).setCell (by show w.heap.size ≤ w2.heap.size; have h1 := HS3.out; have h2 := HSZ.out; omega) _)
    have k9 := hx9.cell 0 rfl
    have k9b := hx9.cell 1 rfl
    have k9c := hx9.cell 2 rfl
    have f9 := hx9.froz 0 (v := .int .i64 0) rfl
    have f9b := hx9.froz 1 (v := .int .i64 0) rfl
    have f9c := hx9.froz 2 (v := .bool false) rfl
    have hl9 := hx9.1
    clear hx9 hu9 hR5 hb5
    go_wp2_with fail
    clear k9 k9b k9c f9 f9b f9c hl9
    generalize (((w5.setCell ⟨w2.heap.size, 0, none⟩ (.int .i64 f0)).setCell ⟨w2.heap.size, 1, none⟩ (.int .i64 f1)).setCell ⟨w2.heap.size, 2, none⟩ (.bool f2)) = w6 at HR6 HX1d HX2d HX9d HB6 ⊢
    have k0 := HX9d.out.cell 0 rfl
    have k1 := HX9d.out.cell 1 rfl
    have k2 := HX9d.out.cell 2 rfl
    have a0 := HX1d.out.cell 0 rfl
    have a1 := HX1d.out.cell 1 rfl
    have a2 := HX1d.out.cell 2 rfl
    have a0f := HX1d.out.froz 0 (v := .int .i64 0) rfl
    have a1f := HX1d.out.froz 1 (v := .int .i64 0) rfl
    have a2f := HX1d.out.froz 2 (v := .bool false) rfl
    have hla := HX1d.out.1
    have hn1 : ¬ w2.heap.size = w.heap.size + 1 := by have h1 := HS3.out; have h2 := HSZ.out; omega
    have hn2 : ¬ w2.heap.size = w.heap.size + 2 := by have h1 := HS3.out; have h2 := HSZ.out; omega
    have hn1' : ¬ w.heap.size + 1 = w2.heap.size := fun h => hn1 h.symm
    have hn2' : ¬ w.heap.size + 2 = w2.heap.size := fun h => hn2 h.symm
    -- the two worlds in which 'fellMap' may be called
    have HU1 := hidp (Bx.upd3 (w := w6.drew) (b := w.heap.size + 1) HX1d.out.drew (.int .i64 f0) (.int .i64 f1) (.bool f2))
    obtain ⟨wb, hwb⟩ : ∃ wb, wb = (((w6.drew.setCell ⟨w.heap.size + 1, 0, none⟩ (.int .i64 f0)).setCell ⟨w.heap.size + 1, 1, none⟩ (.int .i64 f1)).setCell ⟨w.heap.size + 1, 2, none⟩ (.bool f2)) := ⟨_, rfl⟩
    have HL1 := hidp (HFELL.out S' w6.drew HR6.out.drew)
    have HL2 : Hid (Calls Try.prog 63 #[.pointer (some ⟨s.m, 0, none⟩)] wb (Lifted y wb)) := hidp (HFELL.out S' wb (by rw [hwb]; exact HR6.out.drew.upd_out HU1.out HN1c.out))
    have HXA : Hid (Bx wb (w.heap.size + 1) [.int .i64 f0, .int .i64 f1, .bool f2]) := hidp ⟨by rw [hwb, HU1.out.size]; exact HX1d.out.1, fun j u hj => by
      have hl := (List.getElem?_eq_some_iff.1 hj).1
      rw [hwb, HU1.out.cells, if_pos ⟨rfl, Nat.zero_le _, by omega⟩]; simpa using hj⟩
    have HXB : Hid (Bx wb (w.heap.size + 2) [.slice none 0 0, .slice none 0 0, .int .i64 0]) := hidp (by rw [hwb]; exact HX2d.out.drew.upd HU1.out (by omega))
    have HXC : Hid (Bx wb w2.heap.size [.int .i64 f0, .int .i64 f1, .bool f2]) := hidp (by rw [hwb]; exact HX9d.out.drew.upd HU1.out hn1)
    have HBW : Hid (Below w.heap.size w wb) := hidp (by rw [hwb]; exact ((HB6.out.drew.setCell (by show w.heap.size ≤ w.heap.size + 1; omega) _).setCell (by show w.heap.size ≤ w.heap.size + 1; omega) _).setCell (by show w.heap.size ≤ w.heap.size + 1; omega) _)
    have HSW : Hid (wb.heap.size = w6.heap.size) := hidp (by rw [hwb, HU1.out.size]; rfl)
    rw [hwb] at HL2 HXA HXB HXC HBW HSW
    clear hwb
    go_region_held3 (fun w' => w'.cell? ⟨w2.heap.size, 0, none⟩ = some (.int .i64 f0) ∧ w'.cell? ⟨w2.heap.size, 1, none⟩ = some (.int .i64 f1) ∧ w'.cell? ⟨w2.heap.size, 2, none⟩ = some (.bool f2)) (go_keep)
      ((go_at_call 63
        (first
       | (refine HL1.out.mono ?_
          rintro e w7 ⟨ui, uk, c', rfl, hq, hb7⟩
          have hxa := Bx.below HX1d.out.drew hb7 HX1d.out.1
          have hxb := Bx.below HX2d.out.drew hb7 HX2d.out.1
          have hx9 := Bx.below HX9d.out.drew hb7 HX9d.out.1
          have HBQ := hidp (HB6.out.drew.trans (hb7.mono HB6.out.size))
          obtain ⟨⟨a1, a2, a3, rfl⟩, p1, p2, p3, rfl⟩ := hq.vals
          have j0 := hxb.cell 0 rfl
          have j1 := hxb.cell 1 rfl
          have j2 := hxb.cell 2 rfl
          have g0 := hxb.froz 0 (v := .slice none 0 0) rfl
          have g1 := hxb.froz 1 (v := .slice none 0 0) rfl
          have g2 := hxb.froz 2 (v := .int .i64 0) rfl
          have b0 := hxa.cell 0 rfl
          have b1 := hxa.cell 1 rfl
          have b2 := hxa.cell 2 rfl
          have b0f := hxa.froz 0 (v := .int .i64 0) rfl
          have b1f := hxa.froz 1 (v := .int .i64 0) rfl
          have b2f := hxa.froz 2 (v := .bool false) rfl
          have c0 := hx9.cell 0 rfl
          have c1 := hx9.cell 1 rfl
          have c2 := hx9.cell 2 rfl
          have hl7 := hxb.1
          have hl6 := hxa.1
          have HQF : Hid (∀ wF, Fr (fun i => i = w.heap.size + 1 ∨ i = w.heap.size + 2) w7 wF → NodeQ (fun b => w.heap.size ≤ b ∧ b < wF.heap.size) wF (m + 1) y (.slice a1 a2 a3) (.slice p1 p2 p3) c' ∧ Below w.heap.size w wF) := hidp fun wF hF => by
            have h6 := HX2d.out.1
            have hs := hF.size
            refine ⟨hq.keep hF (fun b hb => ?_), HBQ.out.trans (hF.below (by have := HBQ.out.size; omega) (fun i hi => by omega))⟩
            have hb1 := hb.1
            have hb2 : w6.heap.size ≤ b := hb1
            exact ⟨fun h => by omega, by omega, by have := hb.2; omega⟩
          clear hq hxa hxb hx9 hb7)
       | (refine HL2.out.mono ?_
          rintro e w7 ⟨ui, uk, c', rfl, hq, hb7⟩
          have hxa := Bx.below HXA.out hb7 HXA.out.1
          have hxb := Bx.below HXB.out hb7 HXB.out.1
          have hx9 := Bx.below HXC.out hb7 HXC.out.1
          have HBQ := hidp (HBW.out.trans (hb7.mono HBW.out.size))
          obtain ⟨⟨a1, a2, a3, rfl⟩, p1, p2, p3, rfl⟩ := hq.vals
          have j0 := hxb.cell 0 rfl
          have j1 := hxb.cell 1 rfl
          have j2 := hxb.cell 2 rfl
          have g0 := hxb.froz 0 (v := .slice none 0 0) rfl
          have g1 := hxb.froz 1 (v := .slice none 0 0) rfl
          have g2 := hxb.froz 2 (v := .int .i64 0) rfl
          have b0 := hxa.cell 0 rfl
          have b1 := hxa.cell 1 rfl
          have b2 := hxa.cell 2 rfl
          have b0f := hxa.froz 0 (v := .int .i64 f0) rfl
          have b1f := hxa.froz 1 (v := .int .i64 f1) rfl
          have b2f := hxa.froz 2 (v := .bool f2) rfl
          have c0 := hx9.cell 0 rfl
          have c1 := hx9.cell 1 rfl
          have c2 := hx9.cell 2 rfl
          have hl7 := hxb.1
          have hl6 := hxa.1
          have HQF : Hid (∀ wF, Fr (fun i => i = w.heap.size + 1 ∨ i = w.heap.size + 2) w7 wF → NodeQ (fun b => w.heap.size ≤ b ∧ b < wF.heap.size) wF (m + 1) y (.slice a1 a2 a3) (.slice p1 p2 p3) c' ∧ Below w.heap.size w wF) := hidp fun wF hF => by
            have h6 := HX2d.out.1
            have hs := hF.size
            refine ⟨hq.keep hF (fun b hb => ?_), HBQ.out.trans (hF.below (by have := HBQ.out.size; omega) (fun i hi => by omega))⟩
            have hb1 := hb.1
            have hb2 := HSW.out
            have hb3 : _ ≤ b := hb1
            rw [hb2] at hb3
            exact ⟨fun h => by omega, by omega, by have := hb.2; omega⟩
          clear hq hxa hxb hx9 hb7))))
    all_goals go_wp2
    all_goals refine bodyPost_ret (v := .tuple #[.agg #[.int .i64 f0, .int .i64 f1, .bool f2], .agg #[.slice a1 a2 a3, .slice p1 p2 p3, .int .i64 c']]) (by simp [results, Try.results31, go_sem, b0, b1, b2, b0f, b1f, b2f, j0, j1, j2, g0, g1, g2]) rfl ?_
    all_goals exact ⟨m, y, _, _, c', rfl, HOUT.out, HQF.out _ (by repeat (first | exact Fr.refl _ _ | refine Fr.put ?_ (by simp) _))⟩
end Go.Proofs.Ytehnobbiiokcgaa.Bt.ND

namespace Go.Proofs.Ytehnobbiiokcgaa.Bt.ND
set_option linter.unusedVariables false
set_option linter.unusedSimpArgs false
open Go Go.RowKit Go.Proofs.Ytehnobbiiokcgaa.Bt

/-- 'spec.Cut' at the place at the end. -/
theorem cut_end {l : List Im} (hl : l.length ≤ 10000000) (last : Bool) {i : Int} (hi : i = if last then (l.length : Int) - 1 else 0) {w : World} {u : Value} (h : Its w u l) :
    Calls Try.prog 30 #[u, .int .i64 i] w (fun e w' => ∃ v, e = .returned (.tuple #[v, ff (endI last l)]) ∧ Its w' v (cutE last l) ∧ Below w.heap.size w w') := by
  cases hc : endI last l with
  | none =>
    have h0 : l = [] := by
      cases last with
      | false => exact List.head?_eq_none_iff.1 hc
      | true => exact List.getLast?_eq_none_iff.1 hc
    subst h0
    refine (cut_none h hl (i := i) (by rw [hi]; cases last <;> simp)).mono ?_
    rintro e w' ⟨rfl, hb⟩
    have e1 : cutE last ([] : List Im) = [] := by cases last <;> rfl
    exact ⟨u, rfl, by rw [e1]; exact h.below hb, hb⟩
  | some y =>
    have hp : ∃ p : Nat, i = (p : Int) ∧ l[p]? = some y ∧ l.take p ++ l.drop (p + 1) = cutE last l := by
      cases last with
      | false =>
        have h1 : l.head? = some y := hc
        refine ⟨0, hi, by rw [← List.head?_eq_getElem?]; exact h1, ?_⟩
        show [] ++ l.drop 1 = l.tail
        rw [List.drop_one]; rfl
      | true =>
        have h1 : l.getLast? = some y := hc
        have hn : l ≠ [] := fun e => by rw [e] at h1; cases h1
        have h2 : 0 < l.length := List.length_pos_iff.2 hn
        refine ⟨l.length - 1, ?_, by rw [← List.getLast?_eq_getElem?]; exact h1, ?_⟩
        · rw [hi]; simp; omega
        · rw [List.drop_eq_nil_of_le (by omega), List.append_nil]
          show _ = l.dropLast
          rw [List.dropLast_eq_take]
    obtain ⟨p, rfl, hy, hpe⟩ := hp
    refine (cut_at h hl hy).mono ?_
    rintro e w' ⟨v, rfl, ho⟩
    rw [hpe] at ho
    have h1 := ho.its
    obtain ⟨_, _, _, hb⟩ := ho
    exact ⟨v, rfl, h1, hb⟩

set_option maxHeartbeats 4000000 in
set_option maxRecDepth 100000 in
/-- The law. -/
theorem law_dpop (d : Int) (last : Bool) {n : Nat} {t : DT (n + 1)} {w : World} {vi vk : Value} {c : Int} (hN : NodeAt w (n + 1) t vi vk c) (hb : bulk (n + 1) t ≤ 4000000) :
    Calls Try.prog 8 #[.int .i64 d, .agg #[vi, vk, .int .i64 c], .bool last] w (fun e w' => e = .returned (.bool true) ∧ Below w.heap.size w w') := by
  obtain ⟨⟨i1, i2, icap, rfl⟩, q1, q2, kcap, rfl⟩ := hN.vals
  obtain ⟨w1, hw1⟩ : ∃ w1, w1 = w.alloc (.cells #[.slice i1 i2 icap, .slice q1 q2 kcap, .int .i64 c] 25) := ⟨_, rfl⟩
  have hB1 : Below w.heap.size w w1 := by rw [hw1]; exact (Below.refl _ _).alloc (Nat.le_refl _) _
  have hx0 : Bx w1 w.heap.size [.slice i1 i2 icap, .slice q1 q2 kcap, .int .i64 c] := by rw [hw1]; exact Bx.new w [.slice i1 i2 icap, .slice q1 q2 kcap, .int .i64 c] 25
  have HX0 := hidp hx0
  have HB1 := hidp hB1
  have HN := hidp hN
  have HZ := hidp (fits3_is (hN.below hB1) (by omega))
  have a0 := hx0.cell 0 rfl
  have a1 := hx0.cell 1 rfl
  have a2 := hx0.cell 2 rfl
  clear hx0 hB1 hN
  go_enter Try.func8, Try.ntmps8
  go_wp2_with fail
  rw [← hw1]
  clear hw1
  refine HZ.out.mono ?_
  rintro e w2 ⟨rfl, hb2⟩
  have HX0b := hidp (Bx.below HX0.out hb2 HX0.out.1)
  have HB2 := hidp (HB1.out.trans (hb2.mono HB1.out.size))
  have HV := hidp (validD_is d (HN.out.below HB2.out) (by omega))
  have b0 := HX0b.out.cell 0 rfl
  have b1 := HX0b.out.cell 1 rfl
  have b2 := HX0b.out.cell 2 rfl
  clear hb2 HZ a0 a1 a2
  cases hv : (decide (2 ≤ d ∧ d ≤ 128) && validB d.toNat (n + 1) t) with
  | false =>
    rw [hv] at HV
    go_wp2_with fail
    refine HV.out.mono ?_
    rintro e w3 ⟨rfl, hb3⟩
    have HB3 := hidp (HB2.out.trans (hb3.mono HB2.out.size))
    have HA := hidp (aliveD_is w3)
    clear hb3 HV
    go_wp2_with fail
    refine HA.out.mono ?_
    rintro e w4 ⟨rfl, hb4⟩
    have HB4 := hidp (HB3.out.trans (hb4.mono HB3.out.size))
    clear hb4 HA
    go_wp2
    go_ret
    exact ⟨rfl, HB4.out⟩
  | true =>
    rw [hv] at HV
    rw [Bool.and_eq_true, decide_eq_true_eq] at hv
    obtain ⟨D, rfl⟩ : ∃ D : Nat, d = (D : Int) := ⟨d.toNat, by omega⟩
    obtain ⟨⟨hD1, hD2⟩, hvb⟩ := hv
    have hD1' : 2 ≤ D := by omega
    have hD2' : D ≤ 400 := by omega
    have hvb' : validB D (n + 1) t = true := hvb
    have HVB := hidp hvb'
    clear hvb hvb'
    go_wp2_with fail
    refine HV.out.mono ?_
    rintro e w4 ⟨rfl, hb4⟩
    have HX0d := hidp (Bx.below HX0b.out hb4 HX0b.out.1)
    have HB4 := hidp (HB2.out.trans (hb4.mono HB2.out.size))
    have c0 := HX0d.out.cell 0 rfl
    have c1 := HX0d.out.cell 1 rfl
    have c2 := HX0d.out.cell 2 rfl
    have hlen : (dAll (n + 1) t).length ≤ 4000000 := by have := dAll_bulk (n + 1) t; omega
    have HIT := hidp (items_is (n + 1) t (HN.out.below HB4.out) (by omega))
    clear hb4 HV b0 b1 b2
    go_wp2_with fail
    refine HIT.out.mono ?_
    rintro e w5 ⟨u5, rfl, ho⟩
    have hit5 := ho.its
    obtain ⟨_, _, _, hb5⟩ := ho
    have HX0e := hidp (Bx.below HX0d.out hb5 HX0d.out.1)
    have HB5 := hidp (HB4.out.trans (hb5.mono HB4.out.size))
    have HI5 := hidp hit5
    obtain ⟨ua, ucap, hu5, _, _⟩ := hit5
    subst hu5
    have HCUT := hidp (cut_end (by omega) last rfl HI5.out)
    obtain ⟨f0, f1, f2, hff⟩ : ∃ (f0 f1 : Int) (f2 : Bool), ff (endI last (dAll (n + 1) t)) = .agg #[.int .i64 f0, .int .i64 f1, .bool f2] := by
      cases endI last (dAll (n + 1) t) with
      | none => exact ⟨0, 0, false, rfl⟩
      | some y => exact ⟨y.1, y.2, true, rfl⟩
    have HFF := hidp hff
    rw [hff] at HCUT
    clear hff
    obtain ⟨L, hL⟩ : ∃ L, L = (dAll (n + 1) t).length := ⟨_, rfl⟩
    rw [← hL] at HCUT hlen ⊢
    have hwl : IntKind.i64.wrap ((L : Int) - 1) = (L : Int) - 1 := by rw [Last.i64_w, IntWalk.wrap64_in _ ⟨by omega, by omega⟩]
    have HL := hidp hL
    clear hb5 HIT c0 c1 c2 hL
    cases last with
    | true =>
      go_wp2_with fail
      refine HCUT.out.mono ?_
      rintro e w6 ⟨v6, rfl, hi6, hb6⟩
      obtain ⟨w7, hw7⟩ : ∃ w7, w7 = w6.alloc (.cells #[.int .i64 f0, .int .i64 f1, .bool f2] 37) := ⟨_, rfl⟩
      have hb67 : Below w6.heap.size w6 w7 := by rw [hw7]; exact (Below.refl _ _).alloc (Nat.le_refl _) _
      have hb57 : Below w5.heap.size w5 w7 := hb6.trans (hb67.mono hb6.size)
      have HX0f := hidp (Bx.below HX0e.out hb57 HX0e.out.1)
      have HD7 : Hid (Bx w7 w6.heap.size [.int .i64 f0, .int .i64 f1, .bool f2]) := hidp (by rw [hw7]; exact Bx.new w6 [.int .i64 f0, .int .i64 f1, .bool f2] 37)
      have HI7 := hidp (hi6.below hb67)
      have HB7 := hidp (HB5.out.trans (hb57.mono HB5.out.size))
      have hx6 := Bx.below HX0e.out hb6 HX0e.out.1
      have e0 := hx6.cell 0 rfl
      have e1 := hx6.cell 1 rfl
      have e2 := hx6.cell 2 rfl
      have hl6 := hx6.1
      have HDP := hidp (dpop_is hD1' hD2' HVB.out (HN.out.below HB7.out) (by omega) true)
      rw [HFF.out] at HDP
      clear hi6 hb6 hb67 hb57 HCUT hwl hx6
      go_wp2_with fail
      rw [← hw7]
      clear hw7
      refine HDP.out.mono ?_
      rintro e w8 ⟨m, y, ui, uk, c', rfl, hO, hq, hb8⟩
      obtain ⟨⟨a1, a2, a3, rfl⟩, p1, p2, p3, rfl⟩ := hq.vals
      have hNy := hq.at
      obtain ⟨w9, hw9⟩ : ∃ w9, w9 = (w8.alloc (.cells #[.int .i64 f0, .int .i64 f1, .bool f2] 37)).alloc (.cells #[.slice a1 a2 a3, .slice p1 p2 p3, .int .i64 c'] 25) := ⟨_, rfl⟩
      have hs8 := hb8.size
      have hy0 : Bx w9 w8.heap.size [.int .i64 f0, .int .i64 f1, .bool f2] := by rw [hw9]; exact (Bx.new w8 [.int .i64 f0, .int .i64 f1, .bool f2] 37).alloc _
      have hy1 : Bx w9 (w8.heap.size + 1) [.slice a1 a2 a3, .slice p1 p2 p3, .int .i64 c'] := by
        rw [hw9]
        have h := Bx.new (w8.alloc (.cells #[.int .i64 f0, .int .i64 f1, .bool f2] 37)) [.slice a1 a2 a3, .slice p1 p2 p3, .int .i64 c'] 25
        rw [World.size_alloc] at h
        exact h
      have hb89 : Below w8.heap.size w8 w9 := by rw [hw9]; exact ((Below.refl _ _).alloc (Nat.le_refl _) _).alloc (by rw [World.size_alloc]; omega) _
      have hb79 : Below w7.heap.size w7 w9 := hb8.trans (hb89.mono hs8)
      have HY0 := hidp hy0
      have HY1 := hidp hy1
      have HX8 := hidp (Bx.below HX0f.out hb79 HX0f.out.1)
      have HD8 := hidp (Bx.below HD7.out hb79 HD7.out.1)
      have HI8 := hidp (HI7.out.below hb79)
      have HB9 := hidp (HB7.out.trans (hb79.mono HB7.out.size))
      have HNY := hidp (hNy.below hb89)
      have HW9 := hidp hw9
      have HOUT := hidp hO
      have hblk : bulk (m + 1) y ≤ 10000000 := by
        have h1 := hO.blk
        have h2 := cutE_length true (dAll (n + 1) t)
        have h3 := HL.out
        omega
      have HBK := hidp hblk
      obtain ⟨hy, hhy⟩ : ∃ hy : Nat, hgt y = hy := ⟨_, rfl⟩
      obtain ⟨hx, hhx⟩ : ∃ hx : Nat, hgt t = hx := ⟨_, rfl⟩
      have hgr : hx = hy ∨ hx = hy + 1 := by
        have h1 := hO.less
        rw [hhx, hhy] at h1
        exact h1
      have hyl : hy ≤ 10000000 := by
        have h1 := lev_bulk (m + 1) y
        rw [← hhy]; unfold hgt
        split
        · omega
        · omega
      have HHH := hidp (And.intro hhy hhx)
      have k0 := hy1.cell 0 rfl
      have k1 := hy1.cell 1 rfl
      have k2 := hy1.cell 2 rfl
      have l0 := HX8.out.cell 0 rfl
      have l1 := HX8.out.cell 1 rfl
      have l2 := HX8.out.cell 2 rfl
      have hl1 := hy1.1
      have hl0 := HX8.out.1
      clear hq hO hNy hb8 hb89 hb79 hy0 hy1 hhy hhx hblk e0 e1 e2 hl6 HDP
      go_wp2_with fail
      rw [← hw9]
      clear hw9
      have HNHX : Hid (∀ w', Below w9.heap.size w9 w' → Calls Try.prog 16 #[.agg #[.slice i1 i2 icap, .slice q1 q2 kcap, .int .i64 c]] w' (fun e w2 => e = .returned (.int .i64 (hx : Nat)) ∧ Below w'.heap.size w' w2)) := hidp fun w' hb' => by
        have h := nodeHeight_is (HN.out.below (HB9.out.trans (hb'.mono HB9.out.size))) (by omega)
        rw [HHH.out.2] at h
        exact h
      have HNHY : Hid (∀ w', Below w9.heap.size w9 w' → Calls Try.prog 16 #[.agg #[.slice a1 a2 a3, .slice p1 p2 p3, .int .i64 c']] w' (fun e w2 => e = .returned (.int .i64 (hy : Nat)) ∧ Below w'.heap.size w' w2)) := hidp fun w' hb' => by
        have h := nodeHeight_is (HNY.out.below hb') HBK.out
        rw [HHH.out.1] at h
        exact h
      rcases hgr with hgr | hgr
      · rw [hgr] at HNHX
        clear hgr
        have hwr : IntKind.i64.wrap (((hy : Nat) : Int) - (hy : Int)) = 0 := by rw [Last.i64_w, IntWalk.wrap64_in _ ⟨by omega, by omega⟩]; omega
        go_region_held3 (fun w' => w'.cell? ⟨w8.heap.size + 1, 0, none⟩ = some (.slice a1 a2 a3) ∧ w'.cell? ⟨w8.heap.size + 1, 1, none⟩ = some (.slice p1 p2 p3) ∧ w'.cell? ⟨w8.heap.size + 1, 2, none⟩ = some (.int .i64 c') ∧ w'.cell? ⟨w.heap.size, 0, none⟩ = some (.slice i1 i2 icap) ∧ w'.cell? ⟨w.heap.size, 1, none⟩ = some (.slice q1 q2 kcap) ∧ w'.cell? ⟨w.heap.size, 2, none⟩ = some (.int .i64 c)) (go_keep)
          ((first
            | (go_at_call 16
               refine (HNHY.out _ HBA.out).mono ?_
               rintro e w10 ⟨rfl, hb10⟩
               have HYc := hidp (Bx.below HYb.out hb10 HYb.out.1)
               have HXc := hidp (Bx.below HXb.out hb10 HXb.out.1)
               have HBC := hidp (HBA.out.trans (hb10.mono HBA.out.size))
               have r0 := HYc.out.cell 0 rfl
               have r1 := HYc.out.cell 1 rfl
               have r2 := HYc.out.cell 2 rfl
               have s0 := HXc.out.cell 0 rfl
               have s1 := HXc.out.cell 1 rfl
               have s2 := HXc.out.cell 2 rfl
               clear hb10)
            | (go_at_call 16
               refine (HNHX.out _ HBA.out).mono ?_
               rintro e w10 ⟨rfl, hb10⟩
               have HYc := hidp (Bx.below HYb.out hb10 HYb.out.1)
               have HXc := hidp (Bx.below HXb.out hb10 HXb.out.1)
               have HBC := hidp (HBA.out.trans (hb10.mono HBA.out.size))
               have r0 := HYc.out.cell 0 rfl
               have r1 := HYc.out.cell 1 rfl
               have r2 := HYc.out.cell 2 rfl
               have s0 := HXc.out.cell 0 rfl
               have s1 := HXc.out.cell 1 rfl
               have s2 := HXc.out.cell 2 rfl
               clear hb10)
            | (go_at_call 16
               refine (HNHX.out _ (Below.refl _ _).drew).mono ?_
               rintro e wa ⟨rfl, hba⟩
               have HYb := hidp (Bx.below HY1.out.drew hba hl1)
               have HXb := hidp (Bx.below HX8.out.drew hba hl0)
               have HBA := hidp ((Below.refl w9.heap.size w9).drew.trans hba)
               have m0 := HYb.out.cell 0 rfl
               have m1 := HYb.out.cell 1 rfl
               have m2 := HYb.out.cell 2 rfl
               have o0 := HXb.out.cell 0 rfl
               have o1 := HXb.out.cell 1 rfl
               have o2 := HXb.out.cell 2 rfl
               clear hba)
            | (go_at_call 16
               refine (HNHY.out _ (Below.refl _ _).drew).mono ?_
               rintro e wa ⟨rfl, hba⟩
               have HYb := hidp (Bx.below HY1.out.drew hba hl1)
               have HXb := hidp (Bx.below HX8.out.drew hba hl0)
               have HBA := hidp ((Below.refl w9.heap.size w9).drew.trans hba)
               have m0 := HYb.out.cell 0 rfl
               have m1 := HYb.out.cell 1 rfl
               have m2 := HYb.out.cell 2 rfl
               have o0 := HXb.out.cell 0 rfl
               have o1 := HXb.out.cell 1 rfl
               have o2 := HXb.out.cell 2 rfl
               clear hba)))
        have HYF := hidp (Bx.below HY0.out HBC.out HY0.out.1)
        have HDF := hidp (Bx.below HD8.out HBC.out HD8.out.1)
        have t0 := HYF.out.cell 0 rfl
        have t1 := HYF.out.cell 1 rfl
        have t2 := HYF.out.cell 2 rfl
        have v0 := HDF.out.cell 0 rfl
        have v1 := HDF.out.cell 1 rfl
        have v2 := HDF.out.cell 2 rfl
        have HHO := hidp (holds_is (D := D) hD1' (by omega) HOUT.out.valid HOUT.out.cnts (HNY.out.below HBC.out) HBK.out (u := v6) (by rw [HOUT.out.all]; exact HI8.out.below HBC.out))
        clear k0 k1 k2 l0 l1 l2 s0 s1 s2
        go_wp2_with fail
        refine HHO.out.mono ?_
        rintro e w11 ⟨rfl, hb11⟩
        have HB11 := hidp (HB9.out.trans ((HBC.out.trans (hb11.mono HBC.out.size)).mono HB9.out.size))
        clear hb11 HHO r0 r1 r2 t0 t1 t2 v0 v1 v2
        go_wp2_with fail
        refine (aliveD_is w11).mono ?_
        rintro e w12 ⟨rfl, hb12⟩
        have HB12 := hidp (HB11.out.trans (hb12.mono HB11.out.size))
        clear hb12
        go_wp2
        go_ret
        exact ⟨rfl, HB12.out⟩
      · rw [hgr] at HNHX
        clear hgr
        have hwr : IntKind.i64.wrap (((hy + 1 : Nat) : Int) - (hy : Int)) = 1 := by rw [Last.i64_w, IntWalk.wrap64_in _ ⟨by omega, by omega⟩]; omega
        go_region_held3 (fun w' => w'.cell? ⟨w8.heap.size + 1, 0, none⟩ = some (.slice a1 a2 a3) ∧ w'.cell? ⟨w8.heap.size + 1, 1, none⟩ = some (.slice p1 p2 p3) ∧ w'.cell? ⟨w8.heap.size + 1, 2, none⟩ = some (.int .i64 c') ∧ w'.cell? ⟨w.heap.size, 0, none⟩ = some (.slice i1 i2 icap) ∧ w'.cell? ⟨w.heap.size, 1, none⟩ = some (.slice q1 q2 kcap) ∧ w'.cell? ⟨w.heap.size, 2, none⟩ = some (.int .i64 c)) (go_keep)
          ((first
            | (go_at_call 16
               refine (HNHY.out _ HBA.out).mono ?_
               rintro e w10 ⟨rfl, hb10⟩
               have HYc := hidp (Bx.below HYb.out hb10 HYb.out.1)
               have HXc := hidp (Bx.below HXb.out hb10 HXb.out.1)
               have HBC := hidp (HBA.out.trans (hb10.mono HBA.out.size))
               have r0 := HYc.out.cell 0 rfl
               have r1 := HYc.out.cell 1 rfl
               have r2 := HYc.out.cell 2 rfl
               have s0 := HXc.out.cell 0 rfl
               have s1 := HXc.out.cell 1 rfl
               have s2 := HXc.out.cell 2 rfl
               clear hb10)
            | (go_at_call 16
               refine (HNHX.out _ HBA.out).mono ?_
               rintro e w10 ⟨rfl, hb10⟩
               have HYc := hidp (Bx.below HYb.out hb10 HYb.out.1)
               have HXc := hidp (Bx.below HXb.out hb10 HXb.out.1)
               have HBC := hidp (HBA.out.trans (hb10.mono HBA.out.size))
               have r0 := HYc.out.cell 0 rfl
               have r1 := HYc.out.cell 1 rfl
               have r2 := HYc.out.cell 2 rfl
               have s0 := HXc.out.cell 0 rfl
               have s1 := HXc.out.cell 1 rfl
               have s2 := HXc.out.cell 2 rfl
               clear hb10)
            | (go_at_call 16
               refine (HNHX.out _ (Below.refl _ _).drew).mono ?_
               rintro e wa ⟨rfl, hba⟩
               have HYb := hidp (Bx.below HY1.out.drew hba hl1)
               have HXb := hidp (Bx.below HX8.out.drew hba hl0)
               have HBA := hidp ((Below.refl w9.heap.size w9).drew.trans hba)
               have m0 := HYb.out.cell 0 rfl
               have m1 := HYb.out.cell 1 rfl
               have m2 := HYb.out.cell 2 rfl
               have o0 := HXb.out.cell 0 rfl
               have o1 := HXb.out.cell 1 rfl
               have o2 := HXb.out.cell 2 rfl
               clear hba)
            | (go_at_call 16
               refine (HNHY.out _ (Below.refl _ _).drew).mono ?_
               rintro e wa ⟨rfl, hba⟩
               have HYb := hidp (Bx.below HY1.out.drew hba hl1)
               have HXb := hidp (Bx.below HX8.out.drew hba hl0)
               have HBA := hidp ((Below.refl w9.heap.size w9).drew.trans hba)
               have m0 := HYb.out.cell 0 rfl
               have m1 := HYb.out.cell 1 rfl
               have m2 := HYb.out.cell 2 rfl
               have o0 := HXb.out.cell 0 rfl
               have o1 := HXb.out.cell 1 rfl
               have o2 := HXb.out.cell 2 rfl
               clear hba)))
        have HYF := hidp (Bx.below HY0.out HBC.out HY0.out.1)
        have HDF := hidp (Bx.below HD8.out HBC.out HD8.out.1)
        have t0 := HYF.out.cell 0 rfl
        have t1 := HYF.out.cell 1 rfl
        have t2 := HYF.out.cell 2 rfl
        have v0 := HDF.out.cell 0 rfl
        have v1 := HDF.out.cell 1 rfl
        have v2 := HDF.out.cell 2 rfl
        have HHO := hidp (holds_is (D := D) hD1' (by omega) HOUT.out.valid HOUT.out.cnts (HNY.out.below HBC.out) HBK.out (u := v6) (by rw [HOUT.out.all]; exact HI8.out.below HBC.out))
        clear k0 k1 k2 l0 l1 l2 s0 s1 s2
        go_wp2_with fail
        refine HHO.out.mono ?_
        rintro e w11 ⟨rfl, hb11⟩
        have HB11 := hidp (HB9.out.trans ((HBC.out.trans (hb11.mono HBC.out.size)).mono HB9.out.size))
        clear hb11 HHO r0 r1 r2 t0 t1 t2 v0 v1 v2
        go_wp2_with fail
        refine (aliveD_is w11).mono ?_
        rintro e w12 ⟨rfl, hb12⟩
        have HB12 := hidp (HB11.out.trans (hb12.mono HB11.out.size))
        clear hb12
        go_wp2
        go_ret
        exact ⟨rfl, HB12.out⟩
    | false =>
      go_wp2_with fail
      refine HCUT.out.mono ?_
      rintro e w6 ⟨v6, rfl, hi6, hb6⟩
      obtain ⟨w7, hw7⟩ : ∃ w7, w7 = w6.alloc (.cells #[.int .i64 f0, .int .i64 f1, .bool f2] 37) := ⟨_, rfl⟩
      have hb67 : Below w6.heap.size w6 w7 := by rw [hw7]; exact (Below.refl _ _).alloc (Nat.le_refl _) _
      have hb57 : Below w5.heap.size w5 w7 := hb6.trans (hb67.mono hb6.size)
      have HX0f := hidp (Bx.below HX0e.out hb57 HX0e.out.1)
      have HD7 : Hid (Bx w7 w6.heap.size [.int .i64 f0, .int .i64 f1, .bool f2]) := hidp (by rw [hw7]; exact Bx.new w6 [.int .i64 f0, .int .i64 f1, .bool f2] 37)
      have HI7 := hidp (hi6.below hb67)
      have HB7 := hidp (HB5.out.trans (hb57.mono HB5.out.size))
      have hx6 := Bx.below HX0e.out hb6 HX0e.out.1
      have e0 := hx6.cell 0 rfl
      have e1 := hx6.cell 1 rfl
      have e2 := hx6.cell 2 rfl
      have hl6 := hx6.1
      have HDP := hidp (dpop_is hD1' hD2' HVB.out (HN.out.below HB7.out) (by omega) false)
      rw [HFF.out] at HDP
      clear hi6 hb6 hb67 hb57 HCUT hwl hx6
      go_wp2_with fail
      rw [← hw7]
      clear hw7
      refine HDP.out.mono ?_
      rintro e w8 ⟨m, y, ui, uk, c', rfl, hO, hq, hb8⟩
      obtain ⟨⟨a1, a2, a3, rfl⟩, p1, p2, p3, rfl⟩ := hq.vals
      have hNy := hq.at
      obtain ⟨w9, hw9⟩ : ∃ w9, w9 = (w8.alloc (.cells #[.int .i64 f0, .int .i64 f1, .bool f2] 37)).alloc (.cells #[.slice a1 a2 a3, .slice p1 p2 p3, .int .i64 c'] 25) := ⟨_, rfl⟩
      have hs8 := hb8.size
      have hy0 : Bx w9 w8.heap.size [.int .i64 f0, .int .i64 f1, .bool f2] := by rw [hw9]; exact (Bx.new w8 [.int .i64 f0, .int .i64 f1, .bool f2] 37).alloc _
      have hy1 : Bx w9 (w8.heap.size + 1) [.slice a1 a2 a3, .slice p1 p2 p3, .int .i64 c'] := by
        rw [hw9]
        have h := Bx.new (w8.alloc (.cells #[.int .i64 f0, .int .i64 f1, .bool f2] 37)) [.slice a1 a2 a3, .slice p1 p2 p3, .int .i64 c'] 25
        rw [World.size_alloc] at h
        exact h
      have hb89 : Below w8.heap.size w8 w9 := by rw [hw9]; exact ((Below.refl _ _).alloc (Nat.le_refl _) _).alloc (by rw [World.size_alloc]; omega) _
      have hb79 : Below w7.heap.size w7 w9 := hb8.trans (hb89.mono hs8)
      have HY0 := hidp hy0
      have HY1 := hidp hy1
      have HX8 := hidp (Bx.below HX0f.out hb79 HX0f.out.1)
      have HD8 := hidp (Bx.below HD7.out hb79 HD7.out.1)
      have HI8 := hidp (HI7.out.below hb79)
      have HB9 := hidp (HB7.out.trans (hb79.mono HB7.out.size))
      have HNY := hidp (hNy.below hb89)
      have HW9 := hidp hw9
      have HOUT := hidp hO
      have hblk : bulk (m + 1) y ≤ 10000000 := by
        have h1 := hO.blk
        have h2 := cutE_length false (dAll (n + 1) t)
        have h3 := HL.out
        omega
      have HBK := hidp hblk
      obtain ⟨hy, hhy⟩ : ∃ hy : Nat, hgt y = hy := ⟨_, rfl⟩
      obtain ⟨hx, hhx⟩ : ∃ hx : Nat, hgt t = hx := ⟨_, rfl⟩
      have hgr : hx = hy ∨ hx = hy + 1 := by
        have h1 := hO.less
        rw [hhx, hhy] at h1
        exact h1
      have hyl : hy ≤ 10000000 := by
        have h1 := lev_bulk (m + 1) y
        rw [← hhy]; unfold hgt
        split
        · omega
        · omega
      have HHH := hidp (And.intro hhy hhx)
      have k0 := hy1.cell 0 rfl
      have k1 := hy1.cell 1 rfl
      have k2 := hy1.cell 2 rfl
      have l0 := HX8.out.cell 0 rfl
      have l1 := HX8.out.cell 1 rfl
      have l2 := HX8.out.cell 2 rfl
      have hl1 := hy1.1
      have hl0 := HX8.out.1
      clear hq hO hNy hb8 hb89 hb79 hy0 hy1 hhy hhx hblk e0 e1 e2 hl6 HDP
      go_wp2_with fail
      rw [← hw9]
      clear hw9
      have HNHX : Hid (∀ w', Below w9.heap.size w9 w' → Calls Try.prog 16 #[.agg #[.slice i1 i2 icap, .slice q1 q2 kcap, .int .i64 c]] w' (fun e w2 => e = .returned (.int .i64 (hx : Nat)) ∧ Below w'.heap.size w' w2)) := hidp fun w' hb' => by
        have h := nodeHeight_is (HN.out.below (HB9.out.trans (hb'.mono HB9.out.size))) (by omega)
        rw [HHH.out.2] at h
        exact h
      have HNHY : Hid (∀ w', Below w9.heap.size w9 w' → Calls Try.prog 16 #[.agg #[.slice a1 a2 a3, .slice p1 p2 p3, .int .i64 c']] w' (fun e w2 => e = .returned (.int .i64 (hy : Nat)) ∧ Below w'.heap.size w' w2)) := hidp fun w' hb' => by
        have h := nodeHeight_is (HNY.out.below hb') HBK.out
        rw [HHH.out.1] at h
        exact h
      rcases hgr with hgr | hgr
      · rw [hgr] at HNHX
        clear hgr
        have hwr : IntKind.i64.wrap (((hy : Nat) : Int) - (hy : Int)) = 0 := by rw [Last.i64_w, IntWalk.wrap64_in _ ⟨by omega, by omega⟩]; omega
        go_region_held3 (fun w' => w'.cell? ⟨w8.heap.size + 1, 0, none⟩ = some (.slice a1 a2 a3) ∧ w'.cell? ⟨w8.heap.size + 1, 1, none⟩ = some (.slice p1 p2 p3) ∧ w'.cell? ⟨w8.heap.size + 1, 2, none⟩ = some (.int .i64 c') ∧ w'.cell? ⟨w.heap.size, 0, none⟩ = some (.slice i1 i2 icap) ∧ w'.cell? ⟨w.heap.size, 1, none⟩ = some (.slice q1 q2 kcap) ∧ w'.cell? ⟨w.heap.size, 2, none⟩ = some (.int .i64 c)) (go_keep)
          ((first
            | (go_at_call 16
               refine (HNHY.out _ HBA.out).mono ?_
               rintro e w10 ⟨rfl, hb10⟩
               have HYc := hidp (Bx.below HYb.out hb10 HYb.out.1)
               have HXc := hidp (Bx.below HXb.out hb10 HXb.out.1)
               have HBC := hidp (HBA.out.trans (hb10.mono HBA.out.size))
               have r0 := HYc.out.cell 0 rfl
               have r1 := HYc.out.cell 1 rfl
               have r2 := HYc.out.cell 2 rfl
               have s0 := HXc.out.cell 0 rfl
               have s1 := HXc.out.cell 1 rfl
               have s2 := HXc.out.cell 2 rfl
               clear hb10)
            | (go_at_call 16
               refine (HNHX.out _ HBA.out).mono ?_
               rintro e w10 ⟨rfl, hb10⟩
               have HYc := hidp (Bx.below HYb.out hb10 HYb.out.1)
               have HXc := hidp (Bx.below HXb.out hb10 HXb.out.1)
               have HBC := hidp (HBA.out.trans (hb10.mono HBA.out.size))
               have r0 := HYc.out.cell 0 rfl
               have r1 := HYc.out.cell 1 rfl
               have r2 := HYc.out.cell 2 rfl
               have s0 := HXc.out.cell 0 rfl
               have s1 := HXc.out.cell 1 rfl
               have s2 := HXc.out.cell 2 rfl
               clear hb10)
            | (go_at_call 16
               refine (HNHX.out _ (Below.refl _ _).drew).mono ?_
               rintro e wa ⟨rfl, hba⟩
               have HYb := hidp (Bx.below HY1.out.drew hba hl1)
               have HXb := hidp (Bx.below HX8.out.drew hba hl0)
               have HBA := hidp ((Below.refl w9.heap.size w9).drew.trans hba)
               have m0 := HYb.out.cell 0 rfl
               have m1 := HYb.out.cell 1 rfl
               have m2 := HYb.out.cell 2 rfl
               have o0 := HXb.out.cell 0 rfl
               have o1 := HXb.out.cell 1 rfl
               have o2 := HXb.out.cell 2 rfl
               clear hba)
            | (go_at_call 16
               refine (HNHY.out _ (Below.refl _ _).drew).mono ?_
               rintro e wa ⟨rfl, hba⟩
               have HYb := hidp (Bx.below HY1.out.drew hba hl1)
               have HXb := hidp (Bx.below HX8.out.drew hba hl0)
               have HBA := hidp ((Below.refl w9.heap.size w9).drew.trans hba)
               have m0 := HYb.out.cell 0 rfl
               have m1 := HYb.out.cell 1 rfl
               have m2 := HYb.out.cell 2 rfl
               have o0 := HXb.out.cell 0 rfl
               have o1 := HXb.out.cell 1 rfl
               have o2 := HXb.out.cell 2 rfl
               clear hba)))
        have HYF := hidp (Bx.below HY0.out HBC.out HY0.out.1)
        have HDF := hidp (Bx.below HD8.out HBC.out HD8.out.1)
        have t0 := HYF.out.cell 0 rfl
        have t1 := HYF.out.cell 1 rfl
        have t2 := HYF.out.cell 2 rfl
        have v0 := HDF.out.cell 0 rfl
        have v1 := HDF.out.cell 1 rfl
        have v2 := HDF.out.cell 2 rfl
        have HHO := hidp (holds_is (D := D) hD1' (by omega) HOUT.out.valid HOUT.out.cnts (HNY.out.below HBC.out) HBK.out (u := v6) (by rw [HOUT.out.all]; exact HI8.out.below HBC.out))
        clear k0 k1 k2 l0 l1 l2 s0 s1 s2
        go_wp2_with fail
        refine HHO.out.mono ?_
        rintro e w11 ⟨rfl, hb11⟩
        have HB11 := hidp (HB9.out.trans ((HBC.out.trans (hb11.mono HBC.out.size)).mono HB9.out.size))
        clear hb11 HHO r0 r1 r2 t0 t1 t2 v0 v1 v2
        go_wp2_with fail
        refine (aliveD_is w11).mono ?_
        rintro e w12 ⟨rfl, hb12⟩
        have HB12 := hidp (HB11.out.trans (hb12.mono HB11.out.size))
        clear hb12
        go_wp2
        go_ret
        exact ⟨rfl, HB12.out⟩
      · rw [hgr] at HNHX
        clear hgr
        have hwr : IntKind.i64.wrap (((hy + 1 : Nat) : Int) - (hy : Int)) = 1 := by rw [Last.i64_w, IntWalk.wrap64_in _ ⟨by omega, by omega⟩]; omega
        go_region_held3 (fun w' => w'.cell? ⟨w8.heap.size + 1, 0, none⟩ = some (.slice a1 a2 a3) ∧ w'.cell? ⟨w8.heap.size + 1, 1, none⟩ = some (.slice p1 p2 p3) ∧ w'.cell? ⟨w8.heap.size + 1, 2, none⟩ = some (.int .i64 c') ∧ w'.cell? ⟨w.heap.size, 0, none⟩ = some (.slice i1 i2 icap) ∧ w'.cell? ⟨w.heap.size, 1, none⟩ = some (.slice q1 q2 kcap) ∧ w'.cell? ⟨w.heap.size, 2, none⟩ = some (.int .i64 c)) (go_keep)
          ((first
            | (go_at_call 16
               refine (HNHY.out _ HBA.out).mono ?_
               rintro e w10 ⟨rfl, hb10⟩
               have HYc := hidp (Bx.below HYb.out hb10 HYb.out.1)
               have HXc := hidp (Bx.below HXb.out hb10 HXb.out.1)
               have HBC := hidp (HBA.out.trans (hb10.mono HBA.out.size))
               have r0 := HYc.out.cell 0 rfl
               have r1 := HYc.out.cell 1 rfl
               have r2 := HYc.out.cell 2 rfl
               have s0 := HXc.out.cell 0 rfl
               have s1 := HXc.out.cell 1 rfl
               have s2 := HXc.out.cell 2 rfl
               clear hb10)
            | (go_at_call 16
               refine (HNHX.out _ HBA.out).mono ?_
               rintro e w10 ⟨rfl, hb10⟩
               have HYc := hidp (Bx.below HYb.out hb10 HYb.out.1)
               have HXc := hidp (Bx.below HXb.out hb10 HXb.out.1)
               have HBC := hidp (HBA.out.trans (hb10.mono HBA.out.size))
               have r0 := HYc.out.cell 0 rfl
               have r1 := HYc.out.cell 1 rfl
               have r2 := HYc.out.cell 2 rfl
               have s0 := HXc.out.cell 0 rfl
               have s1 := HXc.out.cell 1 rfl
               have s2 := HXc.out.cell 2 rfl
               clear hb10)
            | (go_at_call 16
               refine (HNHX.out _ (Below.refl _ _).drew).mono ?_
               rintro e wa ⟨rfl, hba⟩
               have HYb := hidp (Bx.below HY1.out.drew hba hl1)
               have HXb := hidp (Bx.below HX8.out.drew hba hl0)
               have HBA := hidp ((Below.refl w9.heap.size w9).drew.trans hba)
               have m0 := HYb.out.cell 0 rfl
               have m1 := HYb.out.cell 1 rfl
               have m2 := HYb.out.cell 2 rfl
               have o0 := HXb.out.cell 0 rfl
               have o1 := HXb.out.cell 1 rfl
               have o2 := HXb.out.cell 2 rfl
               clear hba)
            | (go_at_call 16
               refine (HNHY.out _ (Below.refl _ _).drew).mono ?_
               rintro e wa ⟨rfl, hba⟩
               have HYb := hidp (Bx.below HY1.out.drew hba hl1)
               have HXb := hidp (Bx.below HX8.out.drew hba hl0)
               have HBA := hidp ((Below.refl w9.heap.size w9).drew.trans hba)
               have m0 := HYb.out.cell 0 rfl
               have m1 := HYb.out.cell 1 rfl
               have m2 := HYb.out.cell 2 rfl
               have o0 := HXb.out.cell 0 rfl
               have o1 := HXb.out.cell 1 rfl
               have o2 := HXb.out.cell 2 rfl
               clear hba)))
        have HYF := hidp (Bx.below HY0.out HBC.out HY0.out.1)
        have HDF := hidp (Bx.below HD8.out HBC.out HD8.out.1)
        have t0 := HYF.out.cell 0 rfl
        have t1 := HYF.out.cell 1 rfl
        have t2 := HYF.out.cell 2 rfl
        have v0 := HDF.out.cell 0 rfl
        have v1 := HDF.out.cell 1 rfl
        have v2 := HDF.out.cell 2 rfl
        have HHO := hidp (holds_is (D := D) hD1' (by omega) HOUT.out.valid HOUT.out.cnts (HNY.out.below HBC.out) HBK.out (u := v6) (by rw [HOUT.out.all]; exact HI8.out.below HBC.out))
        clear k0 k1 k2 l0 l1 l2 s0 s1 s2
        go_wp2_with fail
        refine HHO.out.mono ?_
        rintro e w11 ⟨rfl, hb11⟩
        have HB11 := hidp (HB9.out.trans ((HBC.out.trans (hb11.mono HBC.out.size)).mono HB9.out.size))
        clear hb11 HHO r0 r1 r2 t0 t1 t2 v0 v1 v2
        go_wp2_with fail
        refine (aliveD_is w11).mono ?_
        rintro e w12 ⟨rfl, hb12⟩
        have HB12 := hidp (HB11.out.trans (hb12.mono HB11.out.size))
        clear hb12
        go_wp2
        go_ret
        exact ⟨rfl, HB12.out⟩
end Go.Proofs.Ytehnobbiiokcgaa.Bt.ND
