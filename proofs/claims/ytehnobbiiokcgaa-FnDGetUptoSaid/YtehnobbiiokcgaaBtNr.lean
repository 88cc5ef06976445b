/- Nodes as data: pair, found, Get of a map that stands on a node, DGet. -/
import Derived.Test.YtehnobbiiokcgaaBtNq
import Derived.Test.YtehnobbiiokcgaaBtIIy
namespace Go.Proofs.Ytehnobbiiokcgaa.Bt.ND
set_option linter.unusedVariables false
set_option linter.unusedSimpArgs false
open Go Go.RowKit Go.Proofs.Ytehnobbiiokcgaa.Bt

/-- What is found as data. -/
def fdv (k v : Int) : Bool → Value
  | true => .agg #[.int .i64 k, .int .i64 v, .bool true]
  | false => .agg #[.int .i64 0, .int .i64 0, .bool false]

set_option maxHeartbeats 1000000 in
set_option maxRecDepth 100000 in
/-- 'found' -/
theorem found_is (w : World) (k v : Int) (b : Bool) : Calls Try.prog 81 #[.agg #[.int .i64 k, .int .i64 v], .bool b] w (fun e w' => e = .returned (fdv k v b) ∧ Below w.heap.size w w') := by
  have hB : Below w.heap.size w ((w.alloc (.cells #[.int .i64 k, .int .i64 v] 35)).alloc (.cells #[.int .i64 0, .int .i64 0, .bool false] 37)) := ((Below.refl _ _).alloc (Nat.le_refl _) _).alloc (by rw [World.size_alloc]; omega) _
  have HB := hidp hB
  have hsz := World.size_alloc w (.cells #[.int .i64 k, .int .i64 v] 35)
  clear hB
  cases b with
  | true =>
    go_enter Try.func81, Try.ntmps81
    go_wp2
    refine bodyPost_ret (v := fdv k v true) (by simp [results, Try.results81, fdv, go_sem]) rfl ?_
    exact ⟨rfl, ((Below.refl _ _).alloc (Nat.le_refl _) _).alloc (by rw [World.size_alloc]; omega) _⟩
  | false =>
    go_enter Try.func81, Try.ntmps81
    go_wp2
    refine bodyPost_ret (v := fdv k v false) (by simp [results, Try.results81, fdv, go_sem]) rfl ?_
    exact ⟨rfl, ((Below.refl _ _).alloc (Nat.le_refl _) _).alloc (by rw [World.size_alloc]; omega) _⟩

theorem Bx.below {w w' : World} {b B : Nat} {vs : List Value} (h : Bx w b vs) (hb : Below B w w') (hlt : b < B) : Bx w' b vs :=
  ⟨by have h1 := hb.size; have h2 := h.1; omega, fun j v hv => M_of ((hb.cell (p := ⟨b, j, none⟩) hlt).trans (h.cell j hv)) ((hb.frozen (p := ⟨b, j, none⟩) hlt).trans (h.froz j hv))⟩

set_option maxHeartbeats 1000000 in
set_option maxRecDepth 100000 in
/-- 'pair' -/
theorem pair_is (w : World) (k v : Int) (b : Bool) : Calls Try.prog 51 #[.int .i64 k, .int .i64 v, .bool b] w (fun e w' => e = .returned (fdv k v b) ∧ Below w.heap.size w w') := by
  have hB : Below w.heap.size w (w.alloc (.cells #[.int .i64 0, .int .i64 0, .bool false] 37)) := (Below.refl _ _).alloc (Nat.le_refl _) _
  have HB := hidp hB
  have HX := hidp (Bx.new w [.int .i64 0, .int .i64 0, .bool false] 37)
  clear hB
  go_enter Try.func51, Try.ntmps51
  go_wp2_with fail
  refine (found_is _ k v b).mono ?_
  rintro e w2 ⟨rfl, hb2⟩
  have hx := Bx.below HX.out hb2 (by rw [World.size_alloc]; omega)
  have hs2 := hx.1
  have k0 := hx.cell 0 rfl
  have k1 := hx.cell 1 rfl
  have k2 := hx.cell 2 rfl
  have f0 := hx.froz 0 (v := .int .i64 0) rfl
  have f1 := hx.froz 1 (v := .int .i64 0) rfl
  have f2 := hx.froz 2 (v := .bool false) rfl
  have HB2 := hidp (HB.out.trans (hb2.mono (by rw [World.size_alloc]; omega)))
  clear hb2 HB hx HX
  cases b with
  | true =>
    simp only [fdv]
    go_wp2
    refine bodyPost_ret (v := fdv k v true) (by simp [results, Try.results51, fdv, go_sem, k0, k1, k2, f0, f1, f2]) rfl ?_
    exact ⟨rfl, ((HB2.out.setCell (Nat.le_refl _) _).setCell (Nat.le_refl _) _).setCell (Nat.le_refl _) _⟩
  | false =>
    simp only [fdv]
    go_wp2
    refine bodyPost_ret (v := fdv k v false) (by simp [results, Try.results51, fdv, go_sem, k0, k1, k2, f0, f1, f2]) rfl ?_
    exact ⟨rfl, ((HB2.out.setCell (Nat.le_refl _) _).setCell (Nat.le_refl _) _).setCell (Nat.le_refl _) _⟩

/-- 'Get' of a map that stands on a node. -/
theorem get_stands {D n : Nat} (hD2 : D ≤ 1000) {t : DT (n + 1)} {S : Nat → Prop} {w : World} {s : Sto II.It} (h : Stands D t S w s) (k : Int) :
    Calls Try.prog 50 #[.pointer (some ⟨s.m, 0, none⟩), .int .i64 k] w (fun e w' => e = .returned (.tuple #[II.gv (look II.lt (dAll (n + 1) t) (k, 0)), .bool (look II.lt (dAll (n + 1) t) (k, 0)).isSome]) ∧ ∃ d, w' = w.drewN d) := by
  rcases h.tree with ⟨h1, h2, h3⟩ | ⟨j, m, ids, V, hr, T, _⟩
  · rw [dAll_nil h1 h2]
    exact II.Get_of (o := none) (x := (k, 0)) ((II.get_nil h.mp.rep h3 (k, 0)).mono fun e w' ⟨he, hw⟩ => ⟨he, 0, hw⟩)
  · rw [← V.all]
    exact II.Get_of (x := (k, 0)) (II.get_tr h.mp.rep hr T V.ok (by omega) (by rw [V.all]; exact V.srt) (k, 0))

/-- What DGet tells. -/
def fo (k : Int) : Option Im → Value
  | some y => fdv k y.2 true
  | none => fdv 0 0 false

set_option maxHeartbeats 2000000 in
set_option maxRecDepth 100000 in
/-- 'DGet' -/
theorem dget_is {D : Nat} (hD : 2 ≤ D) (hD2 : D ≤ 1000) {n : Nat} {t : DT (n + 1)} (hv : validB D (n + 1) t = true) {w : World} {vi vk : Value} {c : Int} (hN : NodeAt w (n + 1) t vi vk c) (hb : bulk (n + 1) t ≤ 10000000) (k : Int) :
    Calls Try.prog 18 #[.int .i64 D, .agg #[vi, vk, .int .i64 c], .int .i64 k] w (fun e w' => e = .returned (fo k (look II.lt (dAll (n + 1) t) (k, 0))) ∧ Below w.heap.size w w') := by
  obtain ⟨⟨i1, i2, icap, rfl⟩, q1, q2, kcap, rfl⟩ := hN.vals
  obtain ⟨w1, hw1⟩ : ∃ w1, w1 = (w.alloc (.cells #[.slice i1 i2 icap, .slice q1 q2 kcap, .int .i64 c] 25)).alloc (.cells #[.int .i64 0, .int .i64 0, .bool false] 37) := ⟨_, rfl⟩
  have hsz1 : w1.heap.size = w.heap.size + 2 := by rw [hw1]; simp
  have hB1 : Below w.heap.size w w1 := by rw [hw1]; exact ((Below.refl _ _).alloc (Nat.le_refl _) _).alloc (by rw [World.size_alloc]; omega) _
  have hbx := Bx.new w [.slice i1 i2 icap, .slice q1 q2 kcap, .int .i64 c] 25
  have HC1 : Hid (Cells3 w1 w.heap.size (.slice i1 i2 icap) (.slice q1 q2 kcap) c) := hidp (by
    rw [hw1]
    have h := hbx.alloc (.cells #[.int .i64 0, .int .i64 0, .bool false] 37)
    exact ⟨h.cell 0 rfl, h.cell 1 rfl, h.cell 2 rfl⟩)
  have HX1 : Hid (Bx w1 (w.heap.size + 1) [.int .i64 0, .int .i64 0, .bool false]) := hidp (by
    rw [hw1]
    have h := Bx.new (w.alloc (.cells #[.slice i1 i2 icap, .slice q1 q2 kcap, .int .i64 c] 25)) [.int .i64 0, .int .i64 0, .bool false] 37
    rw [World.size_alloc] at h
    exact h)
  have HST := hidp (stand_is hD hD2 hv (hN.below hB1) hb)
  have HB1 := hidp hB1
  have HW1 := hidp hw1
  have HSZ := hidp hsz1
  clear hN hB1 hv hw1 hbx hsz1
  obtain ⟨o, ho⟩ : ∃ o, look II.lt (dAll (n + 1) t) (k, 0) = o := ⟨_, rfl⟩
  have HO := hidp ho
  rw [ho]
  clear ho
  go_enter Try.func18, Try.ntmps18
  go_wp2_with fail
  rw [← HW1.out]
  have y0 := HC1.out.1
  have y1 := HC1.out.2.1
  have y2 := HC1.out.2.2
  go_wp2_with fail
  refine HST.out.mono ?_
  rintro e w2 ⟨S, s, rfl, St, hb2, _⟩
  have HX2 := hidp (Bx.below HX1.out hb2 (by have := HSZ.out; omega))
  have HB2 := hidp (HB1.out.trans (hb2.mono (by have := HSZ.out; omega)))
  have hG := get_stands hD2 St k
  rw [HO.out] at hG
  have hsz2 := HB2.out.size
  clear hb2 St HST y0 y1 y2
  cases o with
  | none =>
    have HG : Hid (Calls Try.prog 50 #[.pointer (some ⟨s.m, 0, none⟩), .int .i64 k] w2 (fun e w' => e = .returned (.tuple #[.int .i64 0, .bool false]) ∧ ∃ d, w' = w2.drewN d)) := hidp hG
    clear hG
    go_wp2_with fail
    refine HG.out.mono ?_
    rintro e w3 ⟨rfl, d, rfl⟩
    go_wp2_with fail
    refine (pair_is _ k 0 false).mono ?_
    rintro e w4 ⟨rfl, hb4⟩
    have hx := Bx.below (HX2.out.drewN d) hb4 HX2.out.1
    have hs2 := hx.1
    have k0 := hx.cell 0 rfl
    have k1 := hx.cell 1 rfl
    have k2 := hx.cell 2 rfl
    have f0 := hx.froz 0 (v := .int .i64 0) rfl
    have f1 := hx.froz 1 (v := .int .i64 0) rfl
    have f2 := hx.froz 2 (v := .bool false) rfl
    have HB4 := hidp ((Below.drewN HB2.out d).trans (hb4.mono hsz2))
    clear hb4 hx HX2 HX1
    simp only [fdv]
    go_wp2
    refine bodyPost_ret (v := fo k none) (by simp [results, Try.results18, fo, fdv, go_sem, k0, k1, k2, f0, f1, f2]) rfl ?_
    exact ⟨rfl, ((HB4.out.setCell (by show w.heap.size ≤ w.heap.size + 1; omega) _).setCell (by show w.heap.size ≤ w.heap.size + 1; omega) _).setCell (by show w.heap.size ≤ w.heap.size + 1; omega) _⟩
  | some y =>
    have HG : Hid (Calls Try.prog 50 #[.pointer (some ⟨s.m, 0, none⟩), .int .i64 k] w2 (fun e w' => e = .returned (.tuple #[.int .i64 y.2, .bool true]) ∧ ∃ d, w' = w2.drewN d)) := hidp hG
    clear hG
    go_wp2_with fail
    refine HG.out.mono ?_
    rintro e w3 ⟨rfl, d, rfl⟩
    go_wp2_with fail
    refine (pair_is _ k y.2 true).mono ?_
    rintro e w4 ⟨rfl, hb4⟩
    have hx := Bx.below (HX2.out.drewN d) hb4 HX2.out.1
    have hs2 := hx.1
    have k0 := hx.cell 0 rfl
    have k1 := hx.cell 1 rfl
    have k2 := hx.cell 2 rfl
    have f0 := hx.froz 0 (v := .int .i64 0) rfl
    have f1 := hx.froz 1 (v := .int .i64 0) rfl
    have f2 := hx.froz 2 (v := .bool false) rfl
    have HB4 := hidp ((Below.drewN HB2.out d).trans (hb4.mono hsz2))
    clear hb4 hx HX2 HX1
    simp only [fdv]
    go_wp2
    refine bodyPost_ret (v := fo k (some y)) (by simp [results, Try.results18, fo, fdv, go_sem, k0, k1, k2, f0, f1, f2]) rfl ?_
    exact ⟨rfl, ((HB4.out.setCell (by show w.heap.size ≤ w.heap.size + 1; omega) _).setCell (by show w.heap.size ≤ w.heap.size + 1; omega) _).setCell (by show w.heap.size ≤ w.heap.size + 1; omega) _⟩
end Go.Proofs.Ytehnobbiiokcgaa.Bt.ND
