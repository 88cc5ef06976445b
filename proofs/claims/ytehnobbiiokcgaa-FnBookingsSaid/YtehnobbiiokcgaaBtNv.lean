/- Nodes as data: Place, pair, found. Nodes as data: pair, found, Get of a map that stands on a node, DGet. Nodes as data: a node of a map lifted (1): in memory; the doors that read. Nodes as data: a node of a map lifted (2). -/
import Derived.Test.YtehnobbiiokcgaaBtNo
import Derived.BigQuiet
import Derived.Test.YtehnobbiiokcgaaBtIIy
import Derived.Test.YtehnobbiiokcgaaBtLast
namespace Go.Proofs.Ytehnobbiiokcgaa.Bt.ND
set_option linter.unusedVariables false
set_option linter.unusedSimpArgs false
open Go Go.RowKit Go.Proofs.Ytehnobbiiokcgaa.Bt
open Go.Proofs.Ytehnobbiiokcgaa.Bt.Last (Y Z)
open _root_.List (setIfInBounds_toArray set_cons_zero set_cons_succ)

theorem pos_stop {l : List Im} {x : Im} {j : Nat} (hj : j ≤ l.length) (hA : ∀ y ∈ l.take j, II.lt y x = true) (hB : ∀ y, l[j]? = some y → II.lt y x = false) : pos II.lt l x = j := by
  unfold pos
  have h0 : (l.drop j).takeWhile (fun y => II.lt y x) = [] := by
    cases hd : l.drop j with
    | nil => rfl
    | cons y r =>
      have h1 : l[j]? = some y := by
        have := congrArg (·[0]?) hd
        simpa using this
      rw [List.takeWhile_cons_of_neg (by simp [hB y h1])]
  have h2 : l.takeWhile (fun y => II.lt y x) = l.take j ++ (l.drop j).takeWhile (fun y => II.lt y x) := by
    conv => lhs; rw [← List.take_append_drop j l]
    exact List.takeWhile_append_of_pos (by simpa using hA)
  rw [h2, h0, List.append_nil, List.length_take]
  omega

set_option maxHeartbeats 4000000 in
set_option maxRecDepth 100000 in
/-- 'spec.Place' by the order of the numbers. -/
theorem place_nil {w : World} {u : Value} {l : List Im} (h : Its w u l) (hl : l.length ≤ 100000000) (x : Im) :
    Calls Try.prog 17 #[.slice none 0 0, u, .agg #[.int .i64 x.1, .int .i64 x.2]] w (fun e w' => e = .returned (.tuple #[.int .i64 (pos II.lt l x : Nat), .bool (fnd II.lt l x)]) ∧ Below w.heap.size w w') := by
  obtain ⟨a, cap, rfl, hlc, hi⟩ := h
  have hbx := Bx.new w [.int .i64 x.1, .int .i64 x.2] 35
  obtain ⟨w1, hw1⟩ : ∃ w1, w1 = w.alloc (.cells #[.int .i64 x.1, .int .i64 x.2] 35) := ⟨_, rfl⟩
  have hsz1 : w1.heap.size = w.heap.size + 1 := by rw [hw1]; simp
  have hB1 : Below w.heap.size w w1 := by rw [hw1]; exact (Below.refl _ _).alloc (Nat.le_refl _) _
  have HBX := hidp (show w1.cell? ⟨w.heap.size, 0, none⟩ = some (.int .i64 x.1) ∧ w1.cell? ⟨w.heap.size, 1, none⟩ = some (.int .i64 x.2) by rw [hw1]; exact ⟨hbx.cell 0 rfl, hbx.cell 1 rfl⟩)
  have HI : Hid (∀ (j : Nat) (y : Im), l[j]? = some y → ∃ b off, a = some ⟨b, off, none⟩ ∧ b < w1.heap.size ∧ w1.cell? ⟨b, off + j * 2, none⟩ = some (.int .i64 y.1) ∧ w1.cell? ⟨b, off + j * 2 + 1, none⟩ = some (.int .i64 y.2)) := hidp fun j y hy => by
    obtain ⟨b, off, e, f1, f2⟩ := hi j y hy
    have hbl : b < w.heap.size := World.block_lt_of_cell? w _ f1
    exact ⟨b, off, e, by omega, (hB1.cell (p := ⟨b, off + j * 2, none⟩) hbl).trans f1, (hB1.cell (p := ⟨b, off + j * 2 + 1, none⟩) hbl).trans f2⟩
  have HB1 := hidp hB1
  have HW1 := hidp hw1
  have HSZ := hidp hsz1
  clear hbx hw1 hB1 hi hsz1
  go_enter Try.func17, Try.ntmps17
  go_wp2_with fail
  rw [← HW1.out]
  go_loopw [8] (fun i wr => ∃ j : Nat, j ≤ l.length ∧ i = .int .i64 j ∧ Hid ((∀ y ∈ l.take j, II.lt y x = true) ∧ Below w1.heap.size w1 wr)) (fun i _ => l.length - (intOf i).toNat)
  case atStart => exact ⟨0, Nat.zero_le _, rfl, hidp ⟨fun y hy => by simp at hy, Below.refl _ _⟩⟩
  case round =>
    obtain ⟨j, hj, rfl, HBR⟩ := hrel
    have hs1 := HBR.out.2.size
    have hsz := HSZ.out
    have m0 := (HBR.out.2.cell (p := ⟨w.heap.size, 0, none⟩) (by show w.heap.size < w1.heap.size; omega)).trans HBX.out.1
    have m1 := (HBR.out.2.cell (p := ⟨w.heap.size, 1, none⟩) (by show w.heap.size < w1.heap.size; omega)).trans HBX.out.2
    by_cases hlt : j < l.length
    · obtain ⟨y, hy⟩ : ∃ y, l[j]? = some y := ⟨_, List.getElem?_eq_getElem hlt⟩
      obtain ⟨b, off, rfl, hbl, y1, y2⟩ := HI.out j y hy
      have c1 := (HBR.out.2.cell (p := ⟨b, off + j * 2, none⟩) hbl).trans y1
      have c2 := (HBR.out.2.cell (p := ⟨b, off + j * 2 + 1, none⟩) hbl).trans y2
      have hbr : b < wr.heap.size := by omega
      have hwr : w.heap.size < wr.heap.size := by omega
      have jlt : (j : Int) < (l.length : Int) := by omega
      have HY := hidp hy
      clear y1 y2 hy hbl
      go_wp2_with fail
      go_region_held3 (fun w' => w'.cell? ⟨b, off + j * 2, none⟩ = some (.int .i64 y.1) ∧ w'.cell? ⟨b, off + j * 2 + 1, none⟩ = some (.int .i64 y.2) ∧ w'.cell? ⟨w.heap.size, 0, none⟩ = some (.int .i64 x.1) ∧ w'.cell? ⟨w.heap.size, 1, none⟩ = some (.int .i64 x.2)) (go_keep)
        ((go_at_call 49
          refine (before_nil _ y.1 y.2 x.1 x.2).mono ?_
          rintro e w2 ⟨rfl, hb2⟩
          have k1 := (hb2.cell (p := ⟨b, off + j * 2, none⟩) (by show b < wr.heap.size; omega)).trans c1
          have k2 := (hb2.cell (p := ⟨b, off + j * 2 + 1, none⟩) (by show b < wr.heap.size; omega)).trans c2
          have k3 := (hb2.cell (p := ⟨w.heap.size, 0, none⟩) (by show w.heap.size < wr.heap.size; omega)).trans m0
          have k4 := (hb2.cell (p := ⟨w.heap.size, 1, none⟩) (by show w.heap.size < wr.heap.size; omega)).trans m1
          have HB2 := hidp (HBR.out.2.drew.trans (hb2.mono hs1))
          have HS2 : Hid (wr.heap.size ≤ w2.heap.size) := hidp hb2.size
          clear hb2))
      generalize hcc : decide (y.1 < x.1) = cc
      have HCC := hidp hcc
      clear hcc
      cases cc with
      | true =>
        go_wp2
        go_roundw
        case rel =>
          refine ⟨j + 1, by omega, by go_num, hidp ⟨fun z hz => ?_, HB2.out⟩⟩
          rw [List.take_add_one, HY.out] at hz
          rcases List.mem_append.1 hz with hz | hz
          · exact HBR.out.1 z hz
          · obtain rfl : z = y := by simpa using hz
            have := of_decide_eq_true HCC.out
            simpa [II.lt] using this
        case measure => simp [intOf]; omega
      | false =>
        have hp : pos II.lt l x = j := pos_stop hj HBR.out.1 (fun z hz => by
          obtain rfl : y = z := Option.some.inj (HY.out.symm.trans hz)
          have := of_decide_eq_false HCC.out
          simpa [II.lt] using this)
        have hf : fnd II.lt l x = !decide (x.1 < y.1) := by
          unfold fnd
          rw [hp, HY.out]; rfl
        have HPF := hidp (And.intro hp hf)
        have hs2 : wr.heap.size ≤ w2.heap.size := HS2.out
        clear hp hf
        go_wp2_with fail
        go_region_held3 (fun w' => w'.cell? ⟨b, off + j * 2, none⟩ = some (.int .i64 y.1) ∧ w'.cell? ⟨b, off + j * 2 + 1, none⟩ = some (.int .i64 y.2) ∧ w'.cell? ⟨w.heap.size, 0, none⟩ = some (.int .i64 x.1) ∧ w'.cell? ⟨w.heap.size, 1, none⟩ = some (.int .i64 x.2)) (go_keep)
          ((go_at_call 49
            refine (before_nil _ x.1 x.2 y.1 y.2).mono ?_
            rintro e w3 ⟨rfl, hb3⟩
            have k1 := (hb3.cell (p := ⟨b, off + j * 2, none⟩) (by show b < w2.heap.size; omega)).trans k1
            have k2 := (hb3.cell (p := ⟨b, off + j * 2 + 1, none⟩) (by show b < w2.heap.size; omega)).trans k2
            have k3 := (hb3.cell (p := ⟨w.heap.size, 0, none⟩) (by show w.heap.size < w2.heap.size; omega)).trans k3
            have k4 := (hb3.cell (p := ⟨w.heap.size, 1, none⟩) (by show w.heap.size < w2.heap.size; omega)).trans k4
            have HB3 := hidp (HB2.out.drew.trans (hb3.mono (by show w1.heap.size ≤ w2.heap.size; omega)))
            clear hb3))
        go_wp2
        refine bodyPost_ret (v := .tuple #[.int .i64 j, .bool (!decide (x.1 < y.1))]) (by simp [results, Try.results17, go_sem]) rfl ?_
        exact ⟨by rw [HPF.out.1, HPF.out.2], HB1.out.trans (HB3.out.mono (by omega))⟩
    · obtain rfl : j = l.length := by omega
      have hp : pos II.lt l x = l.length := pos_stop hj HBR.out.1 (fun z hz => by simp at hz)
      have hf : fnd II.lt l x = false := by
        unfold fnd
        rw [hp]; simp
      have HPF := hidp (And.intro hp hf)
      have HB2 := hidp (HB1.out.trans (HBR.out.2.mono (by omega)))
      clear hp hf
      go_wp2_with fail
      go_quiet (fail)
      go_wp2_with fail
      go_quiet (fail)
      go_wp2
      refine bodyPost_ret (v := .tuple #[.int .i64 l.length, .bool false]) (by simp [results, Try.results17, go_sem]) rfl ?_
      exact ⟨by rw [HPF.out.1, HPF.out.2], Below.drewN (Below.drewN HB2.out _) _⟩
end Go.Proofs.Ytehnobbiiokcgaa.Bt.ND

namespace Go.Proofs.Ytehnobbiiokcgaa.Bt.ND
set_option linter.unusedVariables false
set_option linter.unusedSimpArgs false
open Go Go.RowKit Go.Proofs.Ytehnobbiiokcgaa.Bt
open Go.Proofs.Ytehnobbiiokcgaa.Bt.Last (Y Z)
open _root_.List (setIfInBounds_toArray set_cons_zero set_cons_succ)

/-- What is found as data. -/
def fdv (k v : Int) : Bool → Value
  | true => .agg #[.int .i64 k, .int .i64 v, .bool true]
  | false => .agg #[.int .i64 0, .int .i64 0, .bool false]

set_option maxHeartbeats 1000000 in
set_option maxRecDepth 100000 in
/-- 'found' -/
theorem found_is (w : World) (k v : Int) (b : Bool) : Calls Try.prog 81 #[.agg #[.int .i64 k, .int .i64 v], .bool b] w (fun e w' => e = .returned (fdv k v b) ∧ Below w.heap.size w w') := by
  have hB : Below w.heap.size w ((w.alloc (.cells #[.int .i64 k, .int .i64 v] 35)).alloc (.cells #[.int .i64 0, .int .i64 0, .bool false] 37)) := ((Below.refl _ _).alloc (Nat.le_refl _) _).alloc (by rw [World.size_alloc]; omega) _
  have HB := hidp hB
  have hsz := World.size_alloc w (.cells #[.int .i64 k, .int .i64 v] 35)
  clear hB
  cases b with
  | true =>
    go_enter Try.func81, Try.ntmps81
    go_wp2
    refine bodyPost_ret (v := fdv k v true) (by simp [results, Try.results81, fdv, go_sem]) rfl ?_
    exact ⟨rfl, ((Below.refl _ _).alloc (Nat.le_refl _) _).alloc (by rw [World.size_alloc]; omega) _⟩
  | false =>
    go_enter Try.func81, Try.ntmps81
    go_wp2
    refine bodyPost_ret (v := fdv k v false) (by simp [results, Try.results81, fdv, go_sem]) rfl ?_
    exact ⟨rfl, ((Below.refl _ _).alloc (Nat.le_refl _) _).alloc (by rw [World.size_alloc]; omega) _⟩

theorem Bx.below {w w' : World} {b B : Nat} {vs : List Value} (h : Bx w b vs) (hb : Below B w w') (hlt : b < B) : Bx w' b vs :=
  ⟨by have h1 := hb.size; have h2 := h.1; omega, fun j v hv => M_of ((hb.cell (p := ⟨b, j, none⟩) hlt).trans (h.cell j hv)) ((hb.frozen (p := ⟨b, j, none⟩) hlt).trans (h.froz j hv))⟩

set_option maxHeartbeats 1000000 in
set_option maxRecDepth 100000 in
/-- 'pair' -/
theorem pair_is (w : World) (k v : Int) (b : Bool) : Calls Try.prog 51 #[.int .i64 k, .int .i64 v, .bool b] w (fun e w' => e = .returned (fdv k v b) ∧ Below w.heap.size w w') := by
  have hB : Below w.heap.size w (w.alloc (.cells #[.int .i64 0, .int .i64 0, .bool false] 37)) := (Below.refl _ _).alloc (Nat.le_refl _) _
  have HB := hidp hB
  have HX := hidp (Bx.new w [.int .i64 0, .int .i64 0, .bool false] 37)
  clear hB
  go_enter Try.func51, Try.ntmps51
  go_wp2_with fail
  refine (found_is _ k v b).mono ?_
  rintro e w2 ⟨rfl, hb2⟩
  have hx := Bx.below HX.out hb2 (by rw [World.size_alloc]; omega)
  have hs2 := hx.1
  have k0 := hx.cell 0 rfl
  have k1 := hx.cell 1 rfl
  have k2 := hx.cell 2 rfl
  have f0 := hx.froz 0 (v := .int .i64 0) rfl
  have f1 := hx.froz 1 (v := .int .i64 0) rfl
  have f2 := hx.froz 2 (v := .bool false) rfl
  have HB2 := hidp (HB.out.trans (hb2.mono (by rw [World.size_alloc]; omega)))
  clear hb2 HB hx HX
  cases b with
  | true =>
    simp only [fdv]
    go_wp2
    refine bodyPost_ret (v := fdv k v true) (by simp [results, Try.results51, fdv, go_sem, k0, k1, k2, f0, f1, f2]) rfl ?_
    exact ⟨rfl, ((HB2.out.setCell (Nat.le_refl _) _).setCell (Nat.le_refl _) _).setCell (Nat.le_refl _) _⟩
  | false =>
    simp only [fdv]
    go_wp2
    refine bodyPost_ret (v := fdv k v false) (by simp [results, Try.results51, fdv, go_sem, k0, k1, k2, f0, f1, f2]) rfl ?_
    exact ⟨rfl, ((HB2.out.setCell (Nat.le_refl _) _).setCell (Nat.le_refl _) _).setCell (Nat.le_refl _) _⟩

/-- 'Get' of a map that stands on a node. -/
theorem get_stands {D n : Nat} (hD2 : D ≤ 1000) {t : DT (n + 1)} {S : Nat → Prop} {w : World} {s : Sto II.It} (h : Stands D t S w s) (k : Int) :
    Calls Try.prog 50 #[.pointer (some ⟨s.m, 0, none⟩), .int .i64 k] w (fun e w' => e = .returned (.tuple #[II.gv (look II.lt (dAll (n + 1) t) (k, 0)), .bool (look II.lt (dAll (n + 1) t) (k, 0)).isSome]) ∧ ∃ d, w' = w.drewN d) := by
  rcases h.tree with ⟨h1, h2, h3⟩ | ⟨j, m, ids, V, hr, T, _⟩
  · rw [dAll_nil h1 h2]
    exact II.Get_of (o := none) (x := (k, 0)) ((II.get_nil h.mp.rep h3 (k, 0)).mono fun e w' ⟨he, hw⟩ => ⟨he, 0, hw⟩)
  · rw [← V.all]
    exact II.Get_of (x := (k, 0)) (II.get_tr h.mp.rep hr T V.ok (by omega) (by rw [V.all]; exact V.srt) (k, 0))

/-- What DGet tells. -/
def fo (k : Int) : Option Im → Value
  | some y => fdv k y.2 true
  | none => fdv 0 0 false

set_option maxHeartbeats 2000000 in
set_option maxRecDepth 100000 in
/-- 'DGet' -/
theorem dget_is {D : Nat} (hD : 2 ≤ D) (hD2 : D ≤ 1000) {n : Nat} {t : DT (n + 1)} (hv : validB D (n + 1) t = true) {w : World} {vi vk : Value} {c : Int} (hN : NodeAt w (n + 1) t vi vk c) (hb : bulk (n + 1) t ≤ 10000000) (k : Int) :
    Calls Try.prog 18 #[.int .i64 D, .agg #[vi, vk, .int .i64 c], .int .i64 k] w (fun e w' => e = .returned (fo k (look II.lt (dAll (n + 1) t) (k, 0))) ∧ Below w.heap.size w w') := by
  obtain ⟨⟨i1, i2, icap, rfl⟩, q1, q2, kcap, rfl⟩ := hN.vals
  obtain ⟨w1, hw1⟩ : ∃ w1, w1 = (w.alloc (.cells #[.slice i1 i2 icap, .slice q1 q2 kcap, .int .i64 c] 25)).alloc (.cells #[.int .i64 0, .int .i64 0, .bool false] 37) := ⟨_, rfl⟩
  have hsz1 : w1.heap.size = w.heap.size + 2 := by rw [hw1]; simp
  have hB1 : Below w.heap.size w w1 := by rw [hw1]; exact ((Below.refl _ _).alloc (Nat.le_refl _) _).alloc (by rw [World.size_alloc]; omega) _
  have hbx := Bx.new w [.slice i1 i2 icap, .slice q1 q2 kcap, .int .i64 c] 25
  have HC1 : Hid (Cells3 w1 w.heap.size (.slice i1 i2 icap) (.slice q1 q2 kcap) c) := hidp (by
    rw [hw1]
    have h := hbx.alloc (.cells #[.int .i64 0, .int .i64 0, .bool false] 37)
    exact ⟨h.cell 0 rfl, h.cell 1 rfl, h.cell 2 rfl⟩)
  have HX1 : Hid (Bx w1 (w.heap.size + 1) [.int .i64 0, .int .i64 0, .bool false]) := hidp (by
    rw [hw1]
    have h := Bx.new (w.alloc (.cells #[.slice i1 i2 icap, .slice q1 q2 kcap, .int .i64 c] 25)) [.int .i64 0, .int .i64 0, .bool false] 37
    rw [World.size_alloc] at h
    exact h)
  have HST := hidp (stand_is hD hD2 hv (hN.below hB1) hb)
  have HB1 := hidp hB1
  have HW1 := hidp hw1
  have HSZ := hidp hsz1
  clear hN hB1 hv hw1 hbx hsz1
  obtain ⟨o, ho⟩ : ∃ o, look II.lt (dAll (n + 1) t) (k, 0) = o := ⟨_, rfl⟩
  have HO := hidp ho
  rw [ho]
  clear ho
  go_enter Try.func18, Try.ntmps18
  go_wp2_with fail
  rw [← HW1.out]
  have y0 := HC1.out.1
  have y1 := HC1.out.2.1
  have y2 := HC1.out.2.2
  go_wp2_with fail
  refine HST.out.mono ?_
  rintro e w2 ⟨S, s, rfl, St, hb2, _⟩
  have HX2 := hidp (Bx.below HX1.out hb2 (by have := HSZ.out; omega))
  have HB2 := hidp (HB1.out.trans (hb2.mono (by have := HSZ.out; omega)))
  have hG := get_stands hD2 St k
  rw [HO.out] at hG
  have hsz2 := HB2.out.size
  clear hb2 St HST y0 y1 y2
  cases o with
  | none =>
    have HG : Hid (Calls Try.prog 50 #[.pointer (some ⟨s.m, 0, none⟩), .int .i64 k] w2 (fun e w' => e = .returned (.tuple #[.int .i64 0, .bool false]) ∧ ∃ d, w' = w2.drewN d)) := hidp hG
    clear hG
    go_wp2_with fail
    refine HG.out.mono ?_
    rintro e w3 ⟨rfl, d, rfl⟩
    go_wp2_with fail
    refine (pair_is _ k 0 false).mono ?_
    rintro e w4 ⟨rfl, hb4⟩
    have hx := Bx.below (HX2.out.drewN d) hb4 HX2.out.1
    have hs2 := hx.1
    have k0 := hx.cell 0 rfl
    have k1 := hx.cell 1 rfl
    have k2 := hx.cell 2 rfl
    have f0 := hx.froz 0 (v := .int .i64 0) rfl
    have f1 := hx.froz 1 (v := .int .i64 0) rfl
    have f2 := hx.froz 2 (v := .bool false) rfl
    have HB4 := hidp ((Below.drewN HB2.out d).trans (hb4.mono hsz2))
    clear hb4 hx HX2 HX1
    simp only [fdv]
    go_wp2
    refine bodyPost_ret (v := fo k none) (by simp [results, Try.results18, fo, fdv, go_sem, k0, k1, k2, f0, f1, f2]) rfl ?_
    exact ⟨rfl, ((HB4.out.setCell (by show w.heap.size ≤ w.heap.size + 1; omega) _).setCell (by show w.heap.size ≤ w.heap.size + 1; omega) _).setCell (by show w.heap.size ≤ w.heap.size + 1; omega) _⟩
  | some y =>
    have HG : Hid (Calls Try.prog 50 #[.pointer (some ⟨s.m, 0, none⟩), .int .i64 k] w2 (fun e w' => e = .returned (.tuple #[.int .i64 y.2, .bool true]) ∧ ∃ d, w' = w2.drewN d)) := hidp hG
    clear hG
    go_wp2_with fail
    refine HG.out.mono ?_
    rintro e w3 ⟨rfl, d, rfl⟩
    go_wp2_with fail
    refine (pair_is _ k y.2 true).mono ?_
    rintro e w4 ⟨rfl, hb4⟩
    have hx := Bx.below (HX2.out.drewN d) hb4 HX2.out.1
    have hs2 := hx.1
    have k0 := hx.cell 0 rfl
    have k1 := hx.cell 1 rfl
    have k2 := hx.cell 2 rfl
    have f0 := hx.froz 0 (v := .int .i64 0) rfl
    have f1 := hx.froz 1 (v := .int .i64 0) rfl
    have f2 := hx.froz 2 (v := .bool false) rfl
    have HB4 := hidp ((Below.drewN HB2.out d).trans (hb4.mono hsz2))
    clear hb4 hx HX2 HX1
    simp only [fdv]
    go_wp2
    refine bodyPost_ret (v := fo k (some y)) (by simp [results, Try.results18, fo, fdv, go_sem, k0, k1, k2, f0, f1, f2]) rfl ?_
    exact ⟨rfl, ((HB4.out.setCell (by show w.heap.size ≤ w.heap.size + 1; omega) _).setCell (by show w.heap.size ≤ w.heap.size + 1; omega) _).setCell (by show w.heap.size ≤ w.heap.size + 1; omega) _⟩
end Go.Proofs.Ytehnobbiiokcgaa.Bt.ND

namespace Go.Proofs.Ytehnobbiiokcgaa.Bt.ND
set_option linter.unusedVariables false
set_option linter.unusedSimpArgs false
open Go Go.RowKit Go.Proofs.Ytehnobbiiokcgaa.Bt
open Go.Proofs.Ytehnobbiiokcgaa.Bt.Last (Y Z)
open _root_.List (setIfInBounds_toArray set_cons_zero set_cons_succ)

/-! ### memory: where a node's parts lie -/
/-- A store keeps. -/
theorem RepS.below {I : Type} {E : Enc I} {S : Nat → Prop} {w w' : World} {s : Sto I} (R : RepS E S w s) (hb : Below w.heap.size w w') : RepS E S w' s :=
  R.keep (S1 := fun i => w.heap.size ≤ i) ⟨hb.os, hb.tape, hb.output, hb.size, fun k hk _ => hb.block k hk, fun k hk => bty_eq (hb.block k hk)⟩ (fun i hi h => by have := R.rep.lt i hi; omega)

/-- v is a slice that reads as the items l; it lies in blocks with Q. -/
def ItsQ (Q : Nat → Prop) (w : World) (v : Value) (l : List Im) : Prop :=
  ∃ a cap, v = .slice a l.length cap ∧ l.length ≤ cap ∧ ∀ j x, l[j]? = some x → ∃ b off, Q b ∧ a = some ⟨b, off, none⟩ ∧ w.cell? ⟨b, off + j * 2, none⟩ = some (.int .i64 x.1) ∧ w.cell? ⟨b, off + j * 2 + 1, none⟩ = some (.int .i64 x.2)
/-- The node t; it lies in blocks with Q. -/
def NodeQ (Q : Nat → Prop) (w : World) : (n : Nat) → DT n → Value → Value → Int → Prop
  | 0, _, _, _, _ => False
  | n + 1, t, vi, vk, c => c = t.2.2 ∧ ItsQ Q w vi t.1 ∧ ∃ a cap, vk = .slice a t.2.1.length cap ∧ t.2.1.length ≤ cap ∧ ∀ j k, t.2.1[j]? = some k →
      ∃ b off vi' vk' c', Q b ∧ a = some ⟨b, off, none⟩ ∧ w.cell? ⟨b, off + j * 3, none⟩ = some vi' ∧ w.cell? ⟨b, off + j * 3 + 1, none⟩ = some vk' ∧ w.cell? ⟨b, off + j * 3 + 2, none⟩ = some (.int .i64 c') ∧ NodeQ Q w n k vi' vk' c'
section
variable {Q Q' : Nat → Prop} {w w' : World}
theorem ItsQ.at {v : Value} {l : List Im} (h : ItsQ Q w v l) : Its w v l := by
  obtain ⟨a, cap, e, hc, h⟩ := h
  exact ⟨a, cap, e, hc, fun j x hx => by obtain ⟨b, off, _, h1, h2, h3⟩ := h j x hx; exact ⟨b, off, h1, h2, h3⟩⟩
theorem NodeQ.at : ∀ {n : Nat} {t : DT n} {vi vk : Value} {c : Int}, NodeQ Q w n t vi vk c → NodeAt w n t vi vk c
  | 0, _, _, _, _, h => h
  | n + 1, t, vi, vk, c, h => by
    obtain ⟨h1, h2, a, cap, e, hc, hk⟩ := h
    exact ⟨h1, h2.at, a, cap, e, hc, fun j k hj => by
      obtain ⟨b, off, vi', vk', c', _, g1, g2, g3, g4, g5⟩ := hk j k hj
      exact ⟨b, off, vi', vk', c', g1, g2, g3, g4, g5.at⟩⟩
theorem ItsQ.keep {S : Nat → Prop} {v : Value} {l : List Im} (h : ItsQ Q w v l) (hf : Fr S w w') (hQ : ∀ b, Q b → ¬ S b ∧ Q' b) : ItsQ Q' w' v l := by
  obtain ⟨a, cap, e, hc, h⟩ := h
  refine ⟨a, cap, e, hc, fun j x hx => ?_⟩
  obtain ⟨b, off, q, h1, h2, h3⟩ := h j x hx
  exact ⟨b, off, (hQ b q).2, h1, (hf.cell (x := ⟨b, off + j * 2, none⟩) (World.block_lt_of_cell? w _ h2) (hQ b q).1).trans h2, (hf.cell (x := ⟨b, off + j * 2 + 1, none⟩) (World.block_lt_of_cell? w _ h3) (hQ b q).1).trans h3⟩
theorem NodeQ.keep {S : Nat → Prop} (hf : Fr S w w') (hQ : ∀ b, Q b → ¬ S b ∧ Q' b) : ∀ {n : Nat} {t : DT n} {vi vk : Value} {c : Int}, NodeQ Q w n t vi vk c → NodeQ Q' w' n t vi vk c
  | 0, _, _, _, _, h => h
  | n + 1, t, vi, vk, c, h => by
    obtain ⟨h1, h2, a, cap, e, hc, hk⟩ := h
    refine ⟨h1, h2.keep hf hQ, a, cap, e, hc, fun j k hj => ?_⟩
    obtain ⟨b, off, vi', vk', c', q, g1, g2, g3, g4, g5⟩ := hk j k hj
    exact ⟨b, off, vi', vk', c', (hQ b q).2, g1, (hf.cell (x := ⟨b, off + j * 3, none⟩) (World.block_lt_of_cell? w _ g2) (hQ b q).1).trans g2, (hf.cell (x := ⟨b, off + j * 3 + 1, none⟩) (World.block_lt_of_cell? w _ g3) (hQ b q).1).trans g3,
      (hf.cell (x := ⟨b, off + j * 3 + 2, none⟩) (World.block_lt_of_cell? w _ g4) (hQ b q).1).trans g4, g5.keep hf hQ⟩
theorem NodeQ.mono (hQ : ∀ b, Q b → Q' b) {n : Nat} {t : DT n} {vi vk : Value} {c : Int} (h : NodeQ Q w n t vi vk c) : NodeQ Q' w n t vi vk c := h.keep (Fr.refl (fun _ => False) w) (fun b q => ⟨fun h => h, hQ b q⟩)
/-- A node that lies there, in the blocks that there are. -/
theorem Its.q {v : Value} {l : List Im} (h : Its w v l) (hQ : ∀ b, b < w.heap.size → Q b) : ItsQ Q w v l := by
  obtain ⟨a, cap, e, hc, h⟩ := h
  exact ⟨a, cap, e, hc, fun j x hx => by obtain ⟨b, off, h1, h2, h3⟩ := h j x hx; exact ⟨b, off, hQ b (World.block_lt_of_cell? w _ h2), h1, h2, h3⟩⟩
theorem NodeAt.q (hQ : ∀ b, b < w.heap.size → Q b) : ∀ {n : Nat} {t : DT n} {vi vk : Value} {c : Int}, NodeAt w n t vi vk c → NodeQ Q w n t vi vk c
  | 0, _, _, _, _, h => h
  | n + 1, t, vi, vk, c, h => by
    obtain ⟨h1, h2, a, cap, e, hc, hk⟩ := h
    exact ⟨h1, h2.q hQ, a, cap, e, hc, fun j k hj => by
      obtain ⟨b, off, vi', vk', c', g1, g2, g3, g4, g5⟩ := hk j k hj
      exact ⟨b, off, vi', vk', c', hQ b (World.block_lt_of_cell? w _ g2), g1, g2, g3, g4, g5.q hQ⟩⟩
end

/-! ### a tree of a map as data -/
/-- The tree t as data, with the right counts. -/
def ofBT : (h : Nat) → BT Im h → DT (h + 1)
  | 0, l => (l, [], (List.length l : Nat))
  | h + 1, t => (t.1, t.2.map (ofBT h), ((BT.all (h + 1) t).length : Nat))
theorem ofBT_all : ∀ (h : Nat) (t : BT Im h) , dAll (h + 1) (ofBT h t) = BT.all h t
  | 0, l => by
    show weave l [] = l
    cases l <;> simp [weave]
  | h + 1, t => by
    show weave t.1 ((t.2.map (ofBT h)).map (dAll (h + 1))) = weave t.1 (t.2.map (BT.all h))
    rw [List.map_map]
    congr 1
    exact List.map_congr_left fun k _ => ofBT_all h k
theorem ofBT_its : ∀ (h : Nat) (t : BT Im h), (ofBT h t).1 = BT.its t
  | 0, _ => rfl
  | _ + 1, _ => rfl
theorem ofBT_cnt : ∀ (h : Nat) (t : BT Im h), (ofBT h t).2.2 = ((BT.all h t).length : Nat)
  | 0, _ => rfl
  | _ + 1, _ => rfl

section
variable {S : Nat → Prop} {w : World} {s : Sto II.It} {m : Nat} {r : NodeR II.It}

set_option maxRecDepth 100000 in
theorem doorCount_get (R : RepS II.E S w s) (hn : s.nd m = some r) : Calls Try.prog 89 #[II.dv m] w (fun e w' => e = .returned (.int .i64 r.count) ∧ Below w.heap.size w w') := by
  have hB : Below w.heap.size w (w.alloc (.cells #[.pointer (some ⟨m, 0, none⟩)] 96)) := (Below.refl _ _).alloc (Nat.le_refl _) _
  have n1 := (II.ncell (R.alloc (.cells #[.pointer (some ⟨m, 0, none⟩)] 96)) hn).2.2.1
  have HB := hidp hB
  clear R hn hB
  unfold II.dv
  go_enter Try.func89, Try.ntmps89
  go_wp2
  go_ret
  exact ⟨rfl, HB.out⟩
set_option maxRecDepth 100000 in
theorem doorLen_get (R : RepS II.E S w s) (hn : s.nd m = some r) : Calls Try.prog 90 #[II.dv m] w (fun e w' => e = .returned (.int .i64 (r.items.length : Nat)) ∧ Below w.heap.size w w') := by
  have hB : Below w.heap.size w (w.alloc (.cells #[.pointer (some ⟨m, 0, none⟩)] 96)) := (Below.refl _ _).alloc (Nat.le_refl _) _
  obtain ⟨ba, n2⟩ : ∃ ba, (w.alloc (.cells #[.pointer (some ⟨m, 0, none⟩)] 96)).cell? ⟨m, 2, none⟩ = some (.slice ba r.items.length r.icap) := ⟨_, (II.ncell (R.alloc (.cells #[.pointer (some ⟨m, 0, none⟩)] 96)) hn).2.2.2.1⟩
  have HB := hidp hB
  clear R hn hB
  unfold II.dv
  go_enter Try.func90, Try.ntmps90
  go_wp2
  go_ret
  exact ⟨rfl, HB.out⟩
set_option maxRecDepth 100000 in
theorem doorAt_get (R : RepS II.E S w s) (hn : s.nd m = some r) {j : Nat} {x : Im} (hx : r.items[j]? = some x) : Calls Try.prog 91 #[II.dv m, .int .i64 j] w (fun e w' => e = .returned (.tuple #[.int .i64 x.1, .int .i64 x.2]) ∧ Below w.heap.size w w') := by
  have hB : Below w.heap.size w (w.alloc (.cells #[.pointer (some ⟨m, 0, none⟩)] 96)) := (Below.refl _ _).alloc (Nat.le_refl _) _
  have R1 := R.alloc (.cells #[.pointer (some ⟨m, 0, none⟩)] 96)
  have hlt := (List.getElem?_eq_some_iff.1 hx).1
  obtain ⟨b, o, hb⟩ := R1.ib_some hn (fun e => by rw [e] at hlt; simp at hlt)
  have n2 := (II.ncell R1 hn).2.2.2.1
  rw [hb] at n2
  have n2' : (w.alloc (.cells #[.pointer (some ⟨m, 0, none⟩)] 96)).cell? ⟨m, 2, none⟩ = some (.slice (some ⟨b, o, none⟩) r.items.length r.icap) := n2
  obtain ⟨c1, c2⟩ := II.icell R1 hn hb hx
  have m0 := (Bx.new w [.pointer (some ⟨m, 0, none⟩)] 96).cell 0 rfl
  have jlt : (j : Int) < (r.items.length : Int) := by omega
  have HB := hidp hB
  clear R hn hB R1 n2 hb hx
  unfold II.dv
  go_enter Try.func91, Try.ntmps91
  go_wp2_with fail
  go_quiet (fail)
  go_wp2
  refine bodyPost_ret (v := .tuple #[.int .i64 x.1, .int .i64 x.2]) (by simp [results, Try.results91, go_sem]) rfl ?_
  exact ⟨rfl, Below.drewN HB.out _⟩
set_option maxRecDepth 100000 in
theorem doorIsLeaf_get (R : RepS II.E S w s) (hn : s.nd m = some r) : Calls Try.prog 92 #[II.dv m] w (fun e w' => e = .returned (.bool r.kids.isNone) ∧ Below w.heap.size w w') := by
  have hB : Below w.heap.size w (w.alloc (.cells #[.pointer (some ⟨m, 0, none⟩)] 96)) := (Below.refl _ _).alloc (Nat.le_refl _) _
  have n3 := (II.ncell (R.alloc (.cells #[.pointer (some ⟨m, 0, none⟩)] 96)) hn).2.2.2.2
  have HB := hidp hB
  clear R hn hB
  unfold II.dv
  generalize r.kids = kd at n3 ⊢
  cases kd with
  | none =>
    go_enter Try.func92, Try.ntmps92
    go_wp2_with fail
    refine (II.leaf_raw n3).mono ?_
    rintro e w' ⟨rfl, rfl⟩
    go_wp2
    go_ret
    exact ⟨rfl, HB.out⟩
  | some k =>
    go_enter Try.func92, Try.ntmps92
    go_wp2_with fail
    refine (II.leaf_raw n3).mono ?_
    rintro e w' ⟨rfl, rfl⟩
    go_wp2
    go_ret
    exact ⟨rfl, HB.out⟩
set_option maxRecDepth 100000 in
theorem doorKids_get (R : RepS II.E S w s) (hn : s.nd m = some r) {k : KidR} (hk : r.kids = some k) : Calls Try.prog 93 #[II.dv m] w (fun e w' => e = .returned (.int .i64 (k.kids.length : Nat)) ∧ Below w.heap.size w w') := by
  have hB : Below w.heap.size w (w.alloc (.cells #[.pointer (some ⟨m, 0, none⟩)] 96)) := (Below.refl _ _).alloc (Nat.le_refl _) _
  have R1 := R.alloc (.cells #[.pointer (some ⟨m, 0, none⟩)] 96)
  have n3 := (II.ncell R1 hn).2.2.2.2
  rw [hk] at n3
  have n3' : (w.alloc (.cells #[.pointer (some ⟨m, 0, none⟩)] 96)).cell? ⟨m, 3, none⟩ = some (.pointer (some ⟨k.hdr, 0, none⟩)) := n3
  obtain ⟨ka, h0⟩ : ∃ ka, (w.alloc (.cells #[.pointer (some ⟨m, 0, none⟩)] 96)).cell? ⟨k.hdr, 0, none⟩ = some (.slice ka k.kids.length k.cap) := ⟨_, (R1.hdr hn hk).cell 0 rfl⟩
  have HB := hidp hB
  clear R hn hB R1 n3 hk
  unfold II.dv
  go_enter Try.func93, Try.ntmps93
  go_wp2
  go_ret
  exact ⟨rfl, HB.out⟩
set_option maxRecDepth 100000 in
theorem doorKid_get (R : RepS II.E S w s) (hn : s.nd m = some r) {k : KidR} (hk : r.kids = some k) {j p : Nat} (hp : k.kids[j]? = some (some p)) : Calls Try.prog 94 #[II.dv m, .int .i64 j] w (fun e w' => e = .returned (II.dv p) ∧ Below w.heap.size w w') := by
  obtain ⟨w1, hw1⟩ : ∃ w1, w1 = (w.alloc (.cells #[.pointer (some ⟨m, 0, none⟩)] 96)).alloc (.cells #[.pointer none] 96) := ⟨_, rfl⟩
  have hB : Below w.heap.size w ((w.alloc (.cells #[.pointer (some ⟨m, 0, none⟩)] 96)).alloc (.cells #[.pointer (some ⟨p, 0, none⟩)] 96)) := ((Below.refl _ _).alloc (Nat.le_refl _) _).alloc (by rw [World.size_alloc]; omega) _
  have R1 : RepS II.E S w1 s := by rw [hw1]; exact (R.alloc _).alloc _
  have hlt := (List.getElem?_eq_some_iff.1 hp).1
  obtain ⟨kb, ko, hkb⟩ := R1.kb_some hn hk (fun e => by rw [e] at hlt; simp at hlt)
  have n3 := (II.ncell R1 hn).2.2.2.2
  rw [hk] at n3
  have n3' : w1.cell? ⟨m, 3, none⟩ = some (.pointer (some ⟨k.hdr, 0, none⟩)) := n3
  have h0 := (R1.hdr hn hk).cell 0 rfl
  rw [hkb] at h0
  have h0' : w1.cell? ⟨k.hdr, 0, none⟩ = some (.slice (some ⟨kb, ko, none⟩) k.kids.length k.cap) := h0
  have kp := M_cell (R1.kid hn hk hkb hp)
  have kp' : w1.cell? ⟨kb, ko + j, none⟩ = some (.pointer (some ⟨p, 0, none⟩)) := kp
  have jlt : (j : Int) < (k.kids.length : Int) := by omega
  have HB := hidp hB
  rw [hw1] at n3' h0' kp'
  clear R hn hB R1 n3 hk h0 kp hkb hp hw1
  unfold II.dv
  go_enter Try.func94, Try.ntmps94
  go_wp2
  refine bodyPost_ret (v := .agg #[.pointer (some ⟨p, 0, none⟩)]) (by simp [results, Try.results94, go_sem]) rfl ?_
  exact ⟨rfl, HB.out⟩
end
end Go.Proofs.Ytehnobbiiokcgaa.Bt.ND

namespace Go.Proofs.Ytehnobbiiokcgaa.Bt.ND
set_option linter.unusedVariables false
set_option linter.unusedSimpArgs false
open Go Go.RowKit Go.Proofs.Ytehnobbiiokcgaa.Bt
open Go.Proofs.Ytehnobbiiokcgaa.Bt.Last (Y Z)
open _root_.List (setIfInBounds_toArray set_cons_zero set_cons_succ)

theorem infoN : (Try.prog.info? 25).map (fun i => (i.zero, i.size, i.bytes)) = some (some (.agg #[.slice none 0 0, .slice none 0 0, .int .i64 0]), 3, 56) := by kernel_rfl

section
variable {P : Program} {ops : Array Oper} {o : Oper} {a : Act} {w : World} {Q : Exit → Act → World → Prop}
/-- append of at least one element to a row of the call's own, as a step of a region that draws its order. -/
theorem step_row {K : Act → World → Prop} {F : Prop} (hg : o.guard = none) (s x : Operand) (t : TypeId) (hop : o.op = Op.call { callee := Callee.builtin Builtin.append, args := #[s, x], argTypes := #[t, t] })
    (e : TypeId) (i : TypeInfo) (z : Value) (size bytes : Nat) (h1 : P.underlying t = some (.slice e)) (h2 : P.info? e = some i) (h3 : i.zero = some z) (h4 : i.size = size) (h5 : i.bytes = bytes) (h6 : z.cells.size = size) (h7 : 0 < size)
    (v : Value) (n : Nat) (xs : List Value) (g : Option Nat) (hs : a.eval s = v) (hrow : Row size w v n xs g)
    (ad : Addr) (m c : Nat) (news : List Value) (hx : a.eval x = .slice (some ad) m c) (hm : 0 < m) (hn : news.length = m * size) (hc : ∀ j u, news[j]? = some u → w.cell? (ad.add j) = some u) (h1c : ∀ u ∈ news, u.oneCell' = true)
    (b1 : n + m ≤ maxLen) (b2 : (n + m) * bytes ≤ 140737488355328)
    (hK : ∀ v' w' g', Row size w' v' (n + m) (xs ++ news) (some g') → (g = some g' ∨ w.heap.size ≤ g') → Fr (fun k => g = some k) w w' → K (a.put o.dst v') w') :
    if Region.wanted o (yielded ops a.tmps) = true then Oper.wp P o a w K Q else F := by
  obtain ⟨hl, hr⟩ := hrow
  rcases hr with ⟨rfl, rfl, rfl⟩ | ⟨b, cap, rfl, rfl, hcn, hcm, hb, hok⟩
  · obtain rfl : xs = [] := List.eq_nil_of_length_eq_zero (by simpa using hl)
    refine step_app hg s x t hop e i z size bytes h1 h2 h3 h4 h5 h6 h7 none 0 0 [] hs (fun _ => ⟨rfl, rfl⟩) (by simp) (fun b o hb => by cases hb) ad m c news hx hm hn hc h1c b1 b2 (fun v' w' happ => ?_)
    obtain ⟨g, gc, rfl, hg1, hg2, hgc, hok, _, hF⟩ := happ.fresh hm
    refine hK _ _ g ?_ (.inr hg1) (hF.mono (fun _ h => h.elim))
    rcases happ with ⟨_, _, hh, _⟩ | ⟨g', c', e1, _, _, _, hcm', _⟩
    · cases hh
    · rw [Nat.zero_add] at e1
      obtain ⟨_, rfl⟩ := sv_inj (ib := some (g', 0)) e1
      exact ⟨by rw [List.nil_append, hn, Nat.zero_add], .inr ⟨g, gc, rfl, by rw [Nat.zero_add]; rfl, by omega, hcm', hg2, by rw [List.nil_append]; exact hok⟩⟩
  · refine step_app hg s x t hop e i z size bytes h1 h2 h3 h4 h5 h6 h7 (some (b, 0)) n cap xs hs (fun h => by cases h) hl (fun b' o' hb' => by cases hb'; exact hok) ad m c news hx hm hn hc h1c b1 b2 (fun v' w' happ => ?_)
    obtain ⟨g', hrow', hg', hF⟩ := Row.of_app hl hn hb hcm hok happ
    refine hK v' w' g' hrow' (hg'.imp (fun h => by rw [h]) id) (hF.mono fun k hk => by rw [hk])
end

/-- The cells of nodes in a row. -/
def kcells (L : List (Value × Value × Int)) : List Value := L.flatMap fun y => [y.1, y.2.1, .int .i64 y.2.2]
theorem kcells_append (L M : List (Value × Value × Int)) : kcells (L ++ M) = kcells L ++ kcells M := List.flatMap_append
theorem kcells_length : ∀ L : List (Value × Value × Int), (kcells L).length = L.length * 3
  | [] => rfl
  | y :: L => by
    have := kcells_length L
    show (y.1 :: y.2.1 :: Value.int .i64 y.2.2 :: kcells L).length = _
    simp only [List.length_cons, this]; omega
theorem kcells_get : ∀ (L : List (Value × Value × Int)) (j : Nat) (y : Value × Value × Int), L[j]? = some y → (kcells L)[j * 3]? = some y.1 ∧ (kcells L)[j * 3 + 1]? = some y.2.1 ∧ (kcells L)[j * 3 + 2]? = some (.int .i64 y.2.2)
  | [], j, y, h => by simp at h
  | x :: L, 0, y, h => by
    obtain rfl : x = y := by simpa using h
    exact ⟨rfl, rfl, rfl⟩
  | x :: L, j + 1, y, h => by
    have ih := kcells_get L j y (by simpa using h)
    have e : ∀ q, (kcells (x :: L))[q + 3]? = (kcells L)[q]? := fun q => rfl
    rw [show (j + 1) * 3 = j * 3 + 3 by omega, show j * 3 + 3 + 1 = (j * 3 + 1) + 3 by omega, show j * 3 + 3 + 2 = (j * 3 + 2) + 3 by omega, e, e, e]
    exact ih

/-- While a node is lifted (or made): w: the world at the beginning; x lies in bx; u, v: its slices so far; g, gk: their blocks. -/
structure LF (w : World) (ds : List Value) (bx : Nat) (c : Int) (u v : Value) (g gk : Option Nat) (wr : World) : Prop where
  d : Bx wr w.heap.size ds
  r : Bx wr (w.heap.size + 1) [.slice none 0 0, .slice none 0 0, .int .i64 0]
  x : Bx wr bx [u, v, .int .i64 c]
  lt : w.heap.size + 1 < bx
  ge : ∀ k, g = some k ∨ gk = some k → w.heap.size + 1 < k ∧ k ≠ bx
  ne : ∀ k, g = some k → gk = some k → False
  below : Below w.heap.size w wr
section
variable {w wr w2 : World} {ds : List Value} {bx : Nat} {c : Int} {u v : Value} {g gk : Option Nat}
theorem LF.call (P : LF w ds bx c u v g gk wr) (hb : Below wr.heap.size wr w2) : LF w ds bx c u v g gk w2 :=
  ⟨Bx.below P.d hb P.d.1, Bx.below P.r hb P.r.1, Bx.below P.x hb P.x.1, P.lt, P.ge, P.ne, P.below.trans (hb.mono P.below.size)⟩
theorem LF.alloc (P : LF w ds bx c u v g gk wr) (x : Obj) : LF w ds bx c u v g gk (wr.alloc x) := P.call ((Below.refl _ _).alloc (Nat.le_refl _) _)
theorem LF.drew (P : LF w ds bx c u v g gk wr) : LF w ds bx c u v g gk wr.drew := P.call (Below.refl _ _).drew
theorem LF.row (P : LF w ds bx c u v g gk wr) {S : Nat → Prop} (hF : Fr S wr w2) (hS : ∀ k, S k → w.heap.size + 1 < k ∧ k ≠ bx) : LF w ds bx c u v g gk w2 :=
  ⟨P.d.keep hF (fun h => by have := hS _ h; omega), P.r.keep hF (fun h => by have := hS _ h; omega), P.x.keep hF (fun h => (hS _ h).2 rfl), P.lt, P.ge, P.ne,
    P.below.trans (hF.below P.below.size (fun i hi => by have := hS i hi; omega))⟩
theorem Bx.set {b o : Nat} {vs : List Value} {v' : Value} (h : Bx wr b vs) (hu : Upd wr w2 b o [v']) : Bx w2 b (vs.set o v') := ⟨by rw [hu.size]; exact h.1, fun j y hy => by
  rw [hu.cells]
  by_cases hj : j = o
  · subst hj
    rw [if_pos ⟨rfl, Nat.le_refl _, by simp⟩]
    have hl := (List.getElem?_eq_some_iff.1 hy).1
    rw [List.getElem?_set_self (by simpa using hl)] at hy
    simpa using hy
  · rw [if_neg (by simp only [List.length_singleton]; omega)]
    rw [List.getElem?_set_ne (by omega)] at hy
    exact h.2 j y hy⟩
theorem LF.put0 (P : LF w ds bx c u v g gk wr) (u' : Value) {g' : Option Nat} (hg : ∀ k, g' = some k → (w.heap.size + 1 < k ∧ k ≠ bx) ∧ (gk = some k → False)) : LF w ds bx c u' v g' gk (wr.setCell ⟨bx, 0, none⟩ u') := by
  have hu := Upd.one wr (b := bx) (o := 0) u' (by rw [P.x.2 0 _ rfl]; rfl)
  have hl := P.lt
  exact ⟨P.d.upd hu (by omega), P.r.upd hu (by omega), Bx.set P.x hu, hl, fun k hk => hk.elim (fun h => (hg k h).1) (fun h => P.ge k (.inr h)), fun k hk => (hg k hk).2, P.below.setCell (by show w.heap.size ≤ bx; omega) _⟩
theorem LF.put1 (P : LF w ds bx c u v g gk wr) (v' : Value) {g' : Option Nat} (hg : ∀ k, g' = some k → (w.heap.size + 1 < k ∧ k ≠ bx) ∧ (g = some k → False)) : LF w ds bx c u v' g g' (wr.setCell ⟨bx, 1, none⟩ v') := by
  have hu := Upd.one wr (b := bx) (o := 1) v' (by rw [P.x.2 1 _ rfl]; rfl)
  have hl := P.lt
  exact ⟨P.d.upd hu (by omega), P.r.upd hu (by omega), Bx.set P.x hu, hl, fun k hk => hk.elim (fun h => P.ge k (.inl h)) (fun h => (hg k h).1), fun k hk h => (hg k h).2 hk, P.below.setCell (by show w.heap.size ≤ bx; omega) _⟩
end

/-- The kids so far: the node number i of ks lies where L says. -/
def KN {n : Nat} (bx : Nat) (gk : Option Nat) (ks : List (DT n)) (L : List (Value × Value × Int)) (wr : World) : Prop :=
  ∀ i q, i < L.length → ks[i]? = some q → ∃ y, L[i]? = some y ∧ NodeQ (fun b => bx < b ∧ b < wr.heap.size ∧ gk ≠ some b) wr n q y.1 y.2.1 y.2.2
section
variable {n : Nat} {bx : Nat} {gk : Option Nat} {ks : List (DT n)} {L : List (Value × Value × Int)} {wr w2 w3 : World}
theorem KN.below (h : KN bx gk ks L wr) (hb : Below wr.heap.size wr w2) : KN bx gk ks L w2 := fun i q hi hq => by
  obtain ⟨y, hy, hn⟩ := h i q hi hq
  have hs := hb.size
  exact ⟨y, hy, hn.keep (S := fun i => wr.heap.size ≤ i) ⟨hb.os, hb.tape, hb.output, hb.size, fun k hk _ => hb.block k hk, fun k hk => bty_eq (hb.block k hk)⟩ (fun b hb' => ⟨by omega, hb'.1, by omega, hb'.2.2⟩)⟩
/-- One more, in a row that grows. -/
theorem KN.snoc {vi vk v4 : Value} {ck : Int} {w4 : World} {g4 j : Nat} {q : DT n} {xs : List Value} {x : Obj} (h : KN bx gk ks L w3) (hn : NodeQ (fun b => w2.heap.size ≤ b ∧ b < w3.heap.size) w3 n q vi vk ck) (hs : w2.heap.size ≤ w3.heap.size) (hr : Row 3 w2 v4 j xs gk) (hL : L.length = j ∧ bx < w2.heap.size)
    (hF : Fr (fun k => gk = some k) (w3.alloc x) w4) (hg : gk = some g4 ∨ (w3.alloc x).heap.size ≤ g4) (hq : ks[j]? = some q) : KN bx (some g4) ks (L ++ [(vi, vk, ck)]) w4 := fun i q' hi hq' => by
  have hgk : ∀ b, b < w3.heap.size → gk ≠ some b → some g4 ≠ some b := fun b hb h1 h2 => by
    obtain rfl := Option.some.inj h2
    rcases hg with h | h
    · exact h1 h
    · rw [World.size_alloc] at h; omega
  have hF3 : Fr (fun k => gk = some k) w3 w4 := ((Fr.refl (fun _ => False) w3).alloc x |>.mono (fun _ h => h.elim)).trans hF (fun i hi => .inl hi)
  have hsz := hF3.size
  by_cases hij : i < L.length
  · obtain ⟨y, hy, hn'⟩ := h i q' hij hq'
    exact ⟨y, by rw [List.getElem?_append_left hij]; exact hy, hn'.keep hF3 (fun b hb => ⟨hb.2.2, hb.1, by omega, hgk b hb.2.1 hb.2.2⟩)⟩
  · obtain rfl : i = L.length := by simp at hi; omega
    rw [hL.1] at hq'
    obtain rfl : q = q' := Option.some.inj (hq.symm.trans hq')
    refine ⟨(vi, vk, ck), by simp, hn.keep hF3 (fun b hb => ?_)⟩
    have h1 : gk ≠ some b := fun e => by
      rw [e] at hr
      have := hr.lt
      omega
    exact ⟨h1, by have := hL.2; omega, by omega, hgk b hb.2 h1⟩
theorem KN.put (h : KN bx gk ks L wr) {o : Nat} {v' : Value} (hu : Upd wr w2 bx o [v']) : KN bx gk ks L w2 := fun i q hi hq => by
  obtain ⟨y, hy, hn⟩ := h i q hi hq
  exact ⟨y, hy, hn.keep hu.fr (fun b hb => ⟨by omega, hb.1, by rw [hu.size]; exact hb.2.1, hb.2.2⟩)⟩
end
theorem NodeQ.vals : ∀ {n : Nat} {Q : Nat → Prop} {w : World} {t : DT n} {vi vk : Value} {c : Int}, NodeQ Q w n t vi vk c → (∃ a n c, vi = .slice a n c) ∧ ∃ a n c, vk = .slice a n c := fun h => h.at.vals

/-- What lifting the node q leaves. -/
def Lifted {n : Nat} (q : DT n) (w' : World) (e : Ending) (w2 : World) : Prop :=
  ∃ vi vk c, e = .returned (.agg #[vi, vk, .int .i64 c]) ∧ NodeQ (fun b => w'.heap.size ≤ b ∧ b < w2.heap.size) w2 n q vi vk c ∧ Below w'.heap.size w' w2

/-- The cells of a list of items in a row. -/
theorem Row.itsQ {Q : Nat → Prop} {w : World} {v : Value} {l : List Im} {g : Option Nat} (h : Row 2 w v l.length (itemCells EI l) g) (hQ : ∀ b, g = some b → Q b) : ItsQ Q w v l := by
  obtain ⟨hl, h⟩ := h
  rcases h with ⟨rfl, h0, _⟩ | ⟨b, cap, rfl, rfl, h1, _, _, hok⟩
  · obtain rfl : l = [] := List.eq_nil_of_length_eq_zero h0
    exact ⟨none, 0, rfl, Nat.le_refl _, fun j x hx => by simp at hx⟩
  · refine ⟨_, cap, rfl, h1, fun j x hx => ⟨b, 0, hQ b rfl, rfl, ?_, ?_⟩⟩
    · have := hok.val (j * 2) (.int .i64 x.1) (by
        have h2 := itemCells_get (E := EI) l j x hx 0 (by decide)
        simpa [EI] using h2)
      exact M_cell this
    · have := hok.val (j * 2 + 1) (.int .i64 x.2) (by
        have h2 := itemCells_get (E := EI) l j x hx 1 (by decide)
        simpa [EI] using h2)
      rw [Nat.add_assoc]
      exact M_cell this

/-- The end: what was made is handed back. -/
theorem LF.lifted {n : Nat} {w wr : World} {ds : List Value} {bx : Nat} {c : Int} {u v : Value} {g gk : Option Nat} (P : LF w ds bx c u v g gk wr) {its : List Im} (hr : Row 2 wr u its.length (itemCells EI its) g) {ks : List (DT n)} {L : List (Value × Value × Int)} (hk : Row 3 wr v ks.length (kcells L) gk) (hL : L.length = ks.length) (hN : KN bx gk ks L wr) :
    Lifted (n := n + 1) (its, ks, c) w (.returned (.agg #[u, v, .int .i64 c])) (((wr.setCell ⟨w.heap.size + 1, 0, none⟩ u).setCell ⟨w.heap.size + 1, 1, none⟩ v).setCell ⟨w.heap.size + 1, 2, none⟩ (.int .i64 c)) := by
  have hlt := P.lt
  have hu : Upd wr (((wr.setCell ⟨w.heap.size + 1, 0, none⟩ u).setCell ⟨w.heap.size + 1, 1, none⟩ v).setCell ⟨w.heap.size + 1, 2, none⟩ (.int .i64 c)) (w.heap.size + 1) 0 [u, v, .int .i64 c] :=
    (Upd.two wr (b := w.heap.size + 1) (o := 0) u v (by rw [P.r.2 0 _ rfl]; rfl) (by show (M wr (w.heap.size + 1) 1).isSome = true; rw [P.r.2 1 _ rfl]; rfl)).snoc (.int .i64 c) rfl (by show (M wr (w.heap.size + 1) 2).isSome = true; rw [P.r.2 2 _ rfl]; rfl)
  have hsz := hu.size
  have hF := hu.fr
  have hr' := hr.keep hF (fun b hb h => by have := P.ge b (.inl hb); omega)
  have hk' := hk.keep hF (fun b hb h => by have := P.ge b (.inr hb); omega)
  have hbel : Below w.heap.size w (((wr.setCell ⟨w.heap.size + 1, 0, none⟩ u).setCell ⟨w.heap.size + 1, 1, none⟩ v).setCell ⟨w.heap.size + 1, 2, none⟩ (.int .i64 c)) :=
    ((P.below.setCell (by show w.heap.size ≤ w.heap.size + 1; omega) _).setCell (by show w.heap.size ≤ w.heap.size + 1; omega) _).setCell (by show w.heap.size ≤ w.heap.size + 1; omega) _
  generalize (((wr.setCell ⟨w.heap.size + 1, 0, none⟩ u).setCell ⟨w.heap.size + 1, 1, none⟩ v).setCell ⟨w.heap.size + 1, 2, none⟩ (.int .i64 c)) = wf at hu hsz hF hr' hk' hbel ⊢
  refine ⟨u, v, c, rfl, ⟨rfl, Row.itsQ hr' (fun b hb => ?_), ?_⟩, hbel⟩
  · have h1 := P.ge b (.inl hb)
    rw [hb] at hr'
    have := hr'.lt
    omega
  · obtain ⟨a, cap, rfl, hnc, ha, hg, hc⟩ := hk'.cut
    refine ⟨a, cap, rfl, hnc, fun j q hj => ?_⟩
    have hjl : j < ks.length := (List.getElem?_eq_some_iff.1 hj).1
    obtain ⟨y, hy, hn⟩ := hN j q (by omega) hj
    obtain ⟨k1, k2, k3⟩ := kcells_get L j y hy
    have hg' := hg (by omega)
    have h1 := P.ge _ (.inr hg')
    have h2 : gk.getD 0 < wf.heap.size := by rw [hg'] at hk'; exact hk'.lt
    refine ⟨gk.getD 0, 0, y.1, y.2.1, y.2.2, ⟨by omega, h2⟩, ha (by show 0 < ks.length; omega), ?_, ?_, ?_, hn.keep hF (fun b hb => ⟨fun (h : b = w.heap.size + 1) => by have h1 : bx < b := hb.1; omega, by have h1 : bx < b := hb.1; omega, by have h1 : b < wr.heap.size := hb.2.1; omega⟩)⟩
    · rw [Nat.zero_add]; exact hc _ _ k1
    · rw [Nat.zero_add]; exact hc _ _ k2
    · rw [Nat.zero_add]; exact hc _ _ k3

variable {S : Nat → Prop} {w : World} {s : Sto II.It} {m : Nat} {r : NodeR II.It}

set_option maxHeartbeats 4000000 in
set_option maxRecDepth 100000 in
/-- 'liftedMap' of a node, given what it makes of the children. -/
theorem lift_node {n : Nat} (R : RepS II.E S w s) (hn : s.nd m = some r) (hl : r.items.length ≤ 100000) {ks : List (DT n)} (hkl : ks.length ≤ 100001)
    (hK : (r.kids = none ∧ ks = []) ∨ ∃ (k : KidR) (ps : List Nat), r.kids = some k ∧ k.kids = ps.map some ∧ ps.length = ks.length ∧ ∀ (j p : Nat) (q : DT n), ps[j]? = some p → ks[j]? = some q → ∀ w', RepS II.E S w' s → Calls Try.prog 59 #[II.dv p] w' (Lifted q w')) :
    Calls Try.prog 59 #[II.dv m] w (Lifted (n := n + 1) (r.items, ks, r.count) w) := by
  obtain ⟨i0, hi0, hz0, hz1, hz2⟩ := info_parts infoN
  obtain ⟨i1, hi1, hy0, hy1, hy2⟩ := info_parts infoM
  have HI0 := hidp hi0
  have HZ0 := hidp hz0
  have HZ1 := hidp hz1
  have HZ2 := hidp hz2
  have HI1 := hidp hi1
  have HY0 := hidp hy0
  have HY1 := hidp hy1
  have HY2 := hidp hy2
  obtain ⟨w1, hw1⟩ : ∃ w1, w1 = (w.alloc (.cells #[.pointer (some ⟨m, 0, none⟩)] 96)).alloc (.cells #[.slice none 0 0, .slice none 0 0, .int .i64 0] 25) := ⟨_, rfl⟩
  have hsz1 : w1.heap.size = w.heap.size + 2 := by rw [hw1]; simp
  have hB1 : Below w.heap.size w w1 := by rw [hw1]; exact ((Below.refl _ _).alloc (Nat.le_refl _) _).alloc (by rw [World.size_alloc]; omega) _
  have hx1 : Bx w1 w.heap.size [.pointer (some ⟨m, 0, none⟩)] := by rw [hw1]; exact (Bx.new w [.pointer (some ⟨m, 0, none⟩)] 96).alloc _
  have hx2 : Bx w1 (w.heap.size + 1) [.slice none 0 0, .slice none 0 0, .int .i64 0] := by
    rw [hw1]
    have h := Bx.new (w.alloc (.cells #[.pointer (some ⟨m, 0, none⟩)] 96)) [.slice none 0 0, .slice none 0 0, .int .i64 0] 25
    rw [World.size_alloc] at h
    exact h
  have HR := hidp R
  have HN := hidp hn
  have HKS := hidp hK
  have HW1 := hidp hw1
  have HX1 := hidp hx1
  have HX2 := hidp hx2
  have HB1 := hidp hB1
  have HSZ := hidp hsz1
  have d0 := hx1.cell 0 rfl
  rw [hw1] at d0
  clear hi0 hz0 hz1 hz2 hi1 hy0 hy1 hy2 R hn hK hw1 hx1 hx2 hB1 hsz1
  unfold II.dv
  go_enter Try.func59, Try.ntmps59
  go_wp2_with fail
  rw [← HW1.out]
  refine (doorCount_get (RepS.below HR.out HB1.out) HN.out).mono ?_
  rintro e w2 ⟨rfl, hb2⟩
  have hs2 : w.heap.size + 1 < w2.heap.size := by have := hb2.size; have := HSZ.out; omega
  have hP0 : LF w [.pointer (some ⟨m, 0, none⟩)] w2.heap.size r.count (.slice none 0 0) (.slice none 0 0) none none (w2.alloc (.cells #[.slice none 0 0, .slice none 0 0, .int .i64 r.count] 25)) :=
    ⟨(Bx.below HX1.out hb2 (by have := HSZ.out; omega)).alloc _, (Bx.below HX2.out hb2 (by have := HSZ.out; omega)).alloc _, Bx.new w2 [.slice none 0 0, .slice none 0 0, .int .i64 r.count] 25, hs2, fun k hk => (by rcases hk with h | h <;> cases h), fun k hk => (by cases hk),
      (HB1.out.trans (hb2.mono (by have := HSZ.out; omega))).alloc (by omega) _⟩
  have HP0 := hidp hP0
  have d1 := hP0.d.cell 0 rfl
  clear hb2 hP0 d0
  go_wp2_with fail
  generalize (w2.alloc (.cells #[.slice none 0 0, .slice none 0 0, .int .i64 r.count] 25)) = wa at HP0 d1 ⊢
  generalize hbx : w2.heap.size = bx at HP0 hs2 ⊢
  refine (doorLen_get (RepS.below HR.out HP0.out.below) HN.out).mono ?_
  rintro e w3 ⟨rfl, hb3⟩
  have HP1 := hidp (HP0.out.call hb3)
  clear hb3 d1 HP0 hbx
  go_wp2
  go_loopw [13] (fun i wr => ∃ j : Nat, j ≤ r.items.length ∧ i = .int .i64 j ∧ Hid (∃ u g, LF w [.pointer (some ⟨m, 0, none⟩)] bx r.count u (.slice none 0 0) g none wr ∧ Row 2 wr u j (itemCells EI (r.items.take j)) g)) (fun i _ => r.items.length - (intOf i).toNat)
  case atStart => exact ⟨0, Nat.zero_le _, rfl, hidp ⟨_, none, HP1.out, Row.nil 2 _⟩⟩
  case round =>
    obtain ⟨j, hj, rfl, HQ⟩ := hrel
    obtain ⟨u, g, P, hr⟩ := HQ.out
    obtain ⟨ua, ucap, rfl⟩ := hr.len
    have HP := hidp P
    have HRI := hidp hr
    have d1 := P.d.cell 0 rfl
    clear HQ P hr HP1
    by_cases hlt : j < r.items.length
    · obtain ⟨x, hx⟩ : ∃ x, r.items[j]? = some x := ⟨_, List.getElem?_eq_getElem hlt⟩
      have HX := hidp hx
      have jlt : (j : Int) < (r.items.length : Int) := by omega
      have HAT := hidp (doorAt_get (RepS.below HR.out HP.out.below) HN.out hx)
      clear hx
      go_wp2_with fail
      refine HAT.out.mono ?_
      rintro e w4 ⟨rfl, hb4⟩
      have HP4 := hidp (HP.out.call hb4)
      have HR4 := hidp ((Row.below HRI.out hb4).alloc (.cells #[.int .i64 x.1, .int .i64 x.2] 35))
      have c0 := HP4.out.x.cell 0 rfl
      have c1 := (HP4.out.alloc (.cells #[.int .i64 x.1, .int .i64 x.2] 35)).x.cell 0 rfl
      clear hb4 HAT d1
      go_wp2_with (at_builtin; go_must (refine wpList_row rfl (.tmp 23) (.tmp 27) _ rfl 35 i1 _ 2 16 Try.underlying22 HI1.out HY0.out HY1.out HY2.out rfl (by decide) (.slice ua j ucap) j (itemCells EI (r.items.take j)) g rfl HR4.out ⟨w4.heap.size, 0, none⟩ 1 1 [.int .i64 x.1, .int .i64 x.2] rfl (by decide) rfl (fun q u hq => by rw [Addr.add_lit, Nat.zero_add]; exact (Bx.new w4 [.int .i64 x.1, .int .i64 x.2] 35).cell q hq) (by simp [Value.oneCell']) (by unfold maxLen; omega) (by omega) ?_))
      intro v5 w5 g5 hr5 hg5 hF5
      have HP5 := hidp ((HP4.out.alloc (.cells #[.int .i64 x.1, .int .i64 x.2] 35)).row hF5 (fun k hk => HP4.out.ge k (.inl hk)))
      have hG5 : w.heap.size + 1 < g5 ∧ g5 ≠ bx := by
        have hlx := HP4.out.lt
        have h0 := HP4.out.x.1
        rcases hg5 with h | h
        · exact HP4.out.ge g5 (.inl h)
        · first | omega | (rw [World.size_alloc] at h; omega)
      have HF := hidp (And.intro hG5 (show Row 2 w5 v5 (j + 1) (itemCells EI (r.items.take (j + 1))) (some g5) by rw [take_snoc HX.out, itemCells_append]; exact hr5))
      obtain ⟨va, vcap, hv5⟩ := hr5.len
      subst hv5
      have c2 := HP5.out.x.cell 0 rfl
      have c2f := HP5.out.x.froz 0 (v := .slice ua j ucap) rfl
      have hb5 := HP5.out.x.1
      clear hr5 hg5 hF5 c0 c1 hG5
      go_wp2
      go_roundw
      case rel => exact ⟨j + 1, by omega, by go_num, hidp ⟨_, some g5, HP5.out.put0 _ (fun k hk => ⟨by obtain rfl := Option.some.inj hk; exact HF.out.1, fun h => by cases h⟩), HF.out.2.keep (Upd.one w5 (b := bx) (o := 0) _ (by rw [M_of c2 c2f]; rfl)).fr (fun b hb h => by obtain rfl := Option.some.inj hb; have := HF.out.1; omega)⟩⟩
      case measure => simp [intOf]; omega
    · obtain rfl : j = r.items.length := by omega
      rw [List.take_length] at HRI
      rcases HKS.out with ⟨hk, hks⟩ | ⟨k, ps, hk, hkk, hpl, hcs⟩
      · subst hks
        have HLF : Hid (Calls Try.prog 92 #[II.dv m] wr (fun e w' => e = .returned (.bool true) ∧ Below wr.heap.size wr w')) := hidp (by
          have h := doorIsLeaf_get (RepS.below HR.out HP.out.below) HN.out
          rw [hk] at h; exact h)
        clear hk
        go_wp2_with fail
        refine HLF.out.mono ?_
        rintro e w4 ⟨rfl, hb4⟩
        have HP4 := hidp (HP.out.call hb4)
        have HR4 := hidp (Row.below HRI.out hb4)
        have c0 := HP4.out.x.cell 0 rfl
        have c1 := HP4.out.x.cell 1 rfl
        have c2 := HP4.out.x.cell 2 rfl
        have r0 := HP4.out.r.cell 0 rfl
        have r1 := HP4.out.r.cell 1 rfl
        have r2 := HP4.out.r.cell 2 rfl
        have r0f := HP4.out.r.froz 0 (v := .slice none 0 0) rfl
        have r1f := HP4.out.r.froz 1 (v := .slice none 0 0) rfl
        have r2f := HP4.out.r.froz 2 (v := .int .i64 0) rfl
        have hrl := HP4.out.r.1
        have HFIN := hidp (HP4.out.lifted (n := n) HR4.out (ks := []) (L := []) (Row.nil 3 _) rfl (fun i q hi => by simp at hi))
        clear hb4 d1 HP HRI HLF
        go_wp2
        refine bodyPost_ret (v := .agg #[.slice ua r.items.length ucap, .slice none 0 0, .int .i64 r.count]) (by simp [results, Try.results59, go_sem, r0, r1, r2, r0f, r1f, r2f]) rfl ?_
        exact HFIN.out
      · have HLF : Hid (Calls Try.prog 92 #[II.dv m] wr (fun e w' => e = .returned (.bool false) ∧ Below wr.heap.size wr w')) := hidp (by
          have h := doorIsLeaf_get (RepS.below HR.out HP.out.below) HN.out
          rw [hk] at h; exact h)
        have HKK := hidp hk
        have HKI := hidp hkk
        have HPL := hidp hpl
        have HCS := hidp hcs
        have HKL : Hid (k.kids.length = ks.length) := hidp (by rw [hkk, List.length_map, hpl])
        clear hk hkk hpl hcs HKS
        go_wp2_with fail
        refine HLF.out.mono ?_
        rintro e w4 ⟨rfl, hb4⟩
        have HP4 := hidp (HP.out.call hb4)
        have HR4 := hidp (Row.below HRI.out hb4)
        have d2 := HP4.out.d.cell 0 rfl
        clear hb4 d1 HP HRI HLF
        have HDK := hidp (doorKids_get (RepS.below HR.out HP4.out.below) HN.out HKK.out)
        rw [HKL.out] at HDK
        go_wp2_with fail
        refine HDK.out.mono ?_
        rintro e w5 ⟨rfl, hb5⟩
        have HP5 := hidp (HP4.out.call hb5)
        have HR5 := hidp (Row.below HR4.out hb5)
        clear hb5 d2 HP4 HR4 HDK
        go_wp2
        go_loopw [36] (fun i wr => ∃ j : Nat, j ≤ ks.length ∧ i = .int .i64 j ∧ Hid (∃ v gk L, LF w [.pointer (some ⟨m, 0, none⟩)] bx r.count (.slice ua r.items.length ucap) v g gk wr ∧ Row 2 wr (.slice ua r.items.length ucap) r.items.length (itemCells EI r.items) g ∧ Row 3 wr v j (kcells L) gk ∧ L.length = j ∧ KN bx gk ks L wr)) (fun i _ => ks.length - (intOf i).toNat)
        case atStart => exact ⟨0, Nat.zero_le _, rfl, hidp ⟨_, none, [], HP5.out, HR5.out, Row.nil 3 _, rfl, fun i q hi => by simp at hi⟩⟩
        case round =>
          clear HP5 HR5
          obtain ⟨j, hj, rfl, HQ⟩ := hrel
          obtain ⟨v, gk, L, P, hri, hrk, hLj, hKN⟩ := HQ.out
          obtain ⟨va, vcap, rfl⟩ := hrk.len
          have HP := hidp P
          have HRI := hidp hri
          have HRK := hidp hrk
          have HQS := hidp hKN
          clear HQ P hri hrk hKN
          by_cases hlt : j < ks.length
          · obtain ⟨q, hkd⟩ : ∃ q, ks[j]? = some q := ⟨_, List.getElem?_eq_getElem hlt⟩
            obtain ⟨p, hp⟩ := get_of_len HPL.out.symm hkd
            have HIH := hidp (HCS.out j p q hp hkd)
            have hpk : k.kids[j]? = some (some p) := by rw [HKI.out, List.getElem?_map, hp]; rfl
            have jlt : (j : Int) < (ks.length : Int) := by omega
            have c0 := HP.out.d.cell 0 rfl
            have c1 := HP.out.x.cell 1 rfl
            clear hp
            go_wp2_with fail
            refine Last.start_ (S := fun w' => w'.cell? ⟨w.heap.size, 0, none⟩ = some (.pointer (some ⟨m, 0, none⟩)) ∧ w'.cell? ⟨bx, 1, none⟩ = some (.slice va j vcap)) (ds := [9]) #[Z,Z,Z,Z,Z,Z,Z,Z,Z,Z] (by rfl) (by rfl) (by rfl) ?_ (fun hHeld => ?_)
            · go_keep
            refine Last.tk 0 39 #[Y,Z,Z,Z,Z,Z,Z,Z,Z,Z] rfl rfl hHeld ?_
            refine Last.tk 1 40 #[Y,Y,Z,Z,Z,Z,Z,Z,Z,Z] rfl rfl hHeld ?_
            refine Last.tk 2 41 #[Y,Y,Y,Z,Z,Z,Z,Z,Z,Z] rfl rfl hHeld ?_
            refine Last.tk 3 42 #[Y,Y,Y,Y,Z,Z,Z,Z,Z,Z] rfl rfl hHeld ?_
            refine Last.one_ (i := 4) (N := some 43) #[Y,Y,Y,Y,Y,Z,Z,Z,Z,Z] rfl rfl (by kernel_rfl) (by decide) (fun K hK => ?_)
            first
            | (go_simp
               go_at_call 94
               refine (doorKid_get (RepS.below HR.out HP.out.below).drew HN.out HKK.out hpk).mono ?_
               rintro e w2 ⟨rfl, hb2⟩
               unfold II.dv
               have HP2 := hidp (HP.out.drew.call hb2)
               have HR2 := hidp (Row.below HRK.out.drew hb2)
               have HR2i := hidp (Row.below HRI.out.drew hb2)
               have HQ2 := hidp (KN.below (KN.below HQS.out (Below.refl _ _).drew) hb2)
               have c0 := HP2.out.d.cell 0 rfl
               have c1 := HP2.out.x.cell 1 rfl
               clear hb2)
            | (go_simp
               go_at_call 59
               refine (HIH.out _ (RepS.below HR.out HP2.out.below)).mono ?_
               rintro e w3 ⟨vi, vk, ck, rfl, hq3, hb3⟩
               have HP3 := hidp (HP2.out.call hb3)
               have HR3 := hidp (Row.below HR2.out hb3)
               have HR3i := hidp (Row.below HR2i.out hb3)
               have HQ3 := hidp (KN.below HQ2.out hb3)
               have HS3 := hidp hb3.size
               have c0 := HP3.out.d.cell 0 rfl
               have c1 := HP3.out.x.cell 1 rfl
               have HNQ := hidp hq3
               have hvv := hq3.at.vals
               obtain ⟨⟨i1, i2, i3, rfl⟩, q1, q2, q3, rfl⟩ := hvv
               clear hb3 hq3)
            refine hK.out _ _ ?_ (fun hHeld => ?_)
            · (try dsimp only); go_keep
            clear hK K
            try simp only [Act.put, setIfInBounds_toArray, set_cons_zero, set_cons_succ]
            refine Last.one_ (i := 5) (N := some 44) #[Y,Y,Y,Y,Y,Y,Z,Z,Z,Z] rfl rfl (by kernel_rfl) (by decide) (fun K hK => ?_)
            first
            | (go_simp
               go_at_call 94
               refine (doorKid_get (RepS.below HR.out HP.out.below).drew HN.out HKK.out hpk).mono ?_
               rintro e w2 ⟨rfl, hb2⟩
               unfold II.dv
               have HP2 := hidp (HP.out.drew.call hb2)
               have HR2 := hidp (Row.below HRK.out.drew hb2)
               have HR2i := hidp (Row.below HRI.out.drew hb2)
               have HQ2 := hidp (KN.below (KN.below HQS.out (Below.refl _ _).drew) hb2)
               have c0 := HP2.out.d.cell 0 rfl
               have c1 := HP2.out.x.cell 1 rfl
               clear hb2)
            | (go_simp
               go_at_call 59
               refine (HIH.out _ (RepS.below HR.out HP2.out.below)).mono ?_
               rintro e w3 ⟨vi, vk, ck, rfl, hq3, hb3⟩
               have HP3 := hidp (HP2.out.call hb3)
               have HR3 := hidp (Row.below HR2.out hb3)
               have HR3i := hidp (Row.below HR2i.out hb3)
               have HQ3 := hidp (KN.below HQ2.out hb3)
               have HS3 := hidp hb3.size
               have c0 := HP3.out.d.cell 0 rfl
               have c1 := HP3.out.x.cell 1 rfl
               have HNQ := hidp hq3
               have hvv := hq3.at.vals
               obtain ⟨⟨i1, i2, i3, rfl⟩, q1, q2, q3, rfl⟩ := hvv
               clear hb3 hq3)
            refine hK.out _ _ ?_ (fun hHeld => ?_)
            · (try dsimp only); go_keep
            clear hK K
            try simp only [Act.put, setIfInBounds_toArray, set_cons_zero, set_cons_succ]
            refine Last.one_ (i := 6) (N := some 45) #[Y,Y,Y,Y,Y,Y,Y,Z,Z,Z] rfl rfl (by kernel_rfl) (by decide) (fun K hK => ?_)
            go_simp
            have c0 := (HP3.out.alloc (.cells #[.slice i1 i2 i3, .slice q1 q2 q3, .int .i64 ck] 25)).d.cell 0 rfl
            have c1 := (HP3.out.alloc (.cells #[.slice i1 i2 i3, .slice q1 q2 q3, .int .i64 ck] 25)).x.cell 1 rfl
            refine hK.out _ _ ?_ (fun hHeld => ?_)
            · (try dsimp only); go_keep
            clear hK K
            try simp only [Act.put, setIfInBounds_toArray, set_cons_zero, set_cons_succ]
            refine Last.one_ (i := 7) (N := some 46) #[Y,Y,Y,Y,Y,Y,Y,Y,Z,Z] rfl rfl (by kernel_rfl) (by decide) (fun K hK => ?_)
            refine step_row (by rfl) _ _ _ (by rfl) 25 i0 _ 3 56 Try.underlying23 HI0.out HZ0.out HZ1.out HZ2.out (by rfl) (by decide) (.slice va j vcap) j (kcells L) gk (by rfl) (HR3.out.alloc _) ⟨w3.heap.size, 0, none⟩ 1 1 [.slice i1 i2 i3, .slice q1 q2 q3, .int .i64 ck] (by simp [Act.eval]) (by decide) (by rfl) (fun q u hq => by rw [Addr.add_lit, Nat.zero_add]; exact (Bx.new w3 [.slice i1 i2 i3, .slice q1 q2 q3, .int .i64 ck] 25).cell q hq) (by simp [Value.oneCell']) (by unfold maxLen; omega) (by omega) ?_
            intro v4 w4 g4 hr4 hg4 hF4
            have HP4 := hidp ((HP3.out.alloc (.cells #[.slice i1 i2 i3, .slice q1 q2 q3, .int .i64 ck] 25)).row hF4 (fun k hk => HP3.out.ge k (.inr hk)))
            have HR4i := hidp ((HR3i.out.alloc (.cells #[.slice i1 i2 i3, .slice q1 q2 q3, .int .i64 ck] 25)).keep hF4 (fun b hb h => HP3.out.ne b hb h))
            have HQ4 := hidp (KN.snoc HQ3.out HNQ.out HS3.out HR2.out ⟨hLj, HP2.out.x.1⟩ hF4 hg4 hkd)
            have HG4 : Hid ((w.heap.size + 1 < g4 ∧ g4 ≠ bx) ∧ ∀ k, g = some k → some g4 = some k → False) := hidp (by
              have hbx := HP3.out.x.1
              have hg4' : gk = some g4 ∨ w3.heap.size + 1 ≤ g4 := by first | exact hg4 | (rw [World.size_alloc] at hg4; exact hg4)
              refine ⟨hg4'.elim (fun h => HP3.out.ge g4 (.inr h)) (fun h => by have := HP3.out.lt; omega), fun k hk h => ?_⟩
              obtain rfl := Option.some.inj h
              rcases hg4' with h | h
              · exact HP3.out.ne _ hk h
              · have h2 := HR3i.out
                rw [hk] at h2
                have := h2.lt
                omega)
            have HR4 : Hid (Row 3 w4 v4 (j + 1) (kcells (L ++ [(.slice i1 i2 i3, .slice q1 q2 q3, ck)])) (some g4)) := hidp (by rw [kcells_append]; exact hr4)
            obtain ⟨va4, vcap4, hv4⟩ := hr4.len
            subst hv4
            have c0 := HP4.out.d.cell 0 rfl
            have c1 := HP4.out.x.cell 1 rfl
            have c1f := HP4.out.x.froz 1 (v := .slice va j vcap) rfl
            have hb4 := HP4.out.x.1
            clear hr4 hg4 hF4
            refine hK.out _ _ ?_ (fun hHeld => ?_)
            · (try dsimp only); go_keep
            clear hK K
            try simp only [Act.put, setIfInBounds_toArray, set_cons_zero, set_cons_succ]
            refine Last.tk 8 47 #[Y,Y,Y,Y,Y,Y,Y,Y,Y,Z] rfl rfl hHeld ?_
            refine Last.last_ (i := 9) (N := none) #[Y,Y,Y,Y,Y,Y,Y,Y,Y,Y] rfl rfl (by kernel_rfl) (by decide) (fun K hK => ?_)
            go_simp
            refine hK.out _ _ ?_
            clear hK K
            try simp only [Act.put, setIfInBounds_toArray, set_cons_zero, set_cons_succ]
            refine Last.done_ (by kernel_rfl) ?_
            go_wp2
            go_roundw
            case rel =>
              have hu := Upd.one w4 (b := bx) (o := 1) (.slice va4 (j + 1) vcap4) (by rw [M_of c1 c1f]; rfl)
              exact ⟨j + 1, by omega, by go_num, hidp ⟨_, some g4, _, HP4.out.put1 _ (fun k hk => by obtain rfl := Option.some.inj hk; exact ⟨HG4.out.1, fun h => HG4.out.2 _ h rfl⟩), HR4i.out.keep hu.fr (fun b hb h => by have := HP4.out.ge b (.inl hb); omega), HR4.out.keep hu.fr (fun b hb h => by obtain rfl := Option.some.inj hb; have := HG4.out.1; omega), by simp [hLj], HQ4.out.put hu⟩⟩
            case measure => simp [intOf]; omega
          · obtain rfl : j = ks.length := by omega
            have HP4 := HP
            have c0 := HP4.out.x.cell 0 rfl
            have c1 := HP4.out.x.cell 1 rfl
            have c2 := HP4.out.x.cell 2 rfl
            have r0 := HP4.out.r.cell 0 rfl
            have r1 := HP4.out.r.cell 1 rfl
            have r2 := HP4.out.r.cell 2 rfl
            have r0f := HP4.out.r.froz 0 (v := .slice none 0 0) rfl
            have r1f := HP4.out.r.froz 1 (v := .slice none 0 0) rfl
            have r2f := HP4.out.r.froz 2 (v := .int .i64 0) rfl
            have hrl := HP4.out.r.1
            have HFIN := hidp (HP4.out.lifted HRI.out HRK.out hLj HQS.out)
            clear HP HRI HRK HQS
            go_wp2
            refine bodyPost_ret (v := .agg #[.slice ua r.items.length ucap, .slice va ks.length vcap, .int .i64 r.count]) (by simp [results, Try.results59, go_sem, r0, r1, r2, r0f, r1f, r2f]) rfl ?_
            exact HFIN.out
end Go.Proofs.Ytehnobbiiokcgaa.Bt.ND
