/- Nodes as data: Place, pair, found. Nodes as data: pair, found, Get of a map that stands on a node, DGet. -/
import Derived.Test.YtehnobbiiokcgaaBtNo
import Derived.BigQuiet
import Derived.Test.YtehnobbiiokcgaaBtIIy
namespace Go.Proofs.Ytehnobbiiokcgaa.Bt.ND
set_option linter.unusedVariables false
set_option linter.unusedSimpArgs false
open Go Go.RowKit Go.Proofs.Ytehnobbiiokcgaa.Bt

theorem pos_stop {l : List Im} {x : Im} {j : Nat} (hj : j ≤ l.length) (hA : ∀ y ∈ l.take j, II.lt y x = true) (hB : ∀ y, l[j]? = some y → II.lt y x = false) : pos II.lt l x = j := by
  unfold pos
  have h0 : (l.drop j).takeWhile (fun y => II.lt y x) = [] := by
    cases hd : l.drop j with
    | nil => rfl
    | cons y r =>
      have h1 : l[j]? = some y := by
        have := congrArg (·[0]?) hd
        simpa using this
      rw [List.takeWhile_cons_of_neg (by simp [hB y h1])]
  have h2 : l.takeWhile (fun y => II.lt y x) = l.take j ++ (l.drop j).takeWhile (fun y => II.lt y x) := by
    conv => lhs; rw [← List.take_append_drop j l]
    exact List.takeWhile_append_of_pos (by simpa using hA)
  rw [h2, h0, List.append_nil, List.length_take]
  omega

set_option maxHeartbeats 4000000 in
set_option maxRecDepth 100000 in
/-- 'spec.Place' by the order of the numbers. -/
theorem place_nil {w : World} {u : Value} {l : List Im} (h : Its w u l) (hl : l.length ≤ 100000000) (x : Im) :
    Calls Try.prog 17 #[.slice none 0 0, u, .agg #[.int .i64 x.1, .int .i64 x.2]] w (fun e w' => e = .returned (.tuple #[.int .i64 (pos II.lt l x : Nat), .bool (fnd II.lt l x)]) ∧ Below w.heap.size w w') := by
  obtain ⟨a, cap, rfl, hlc, hi⟩ := h
  have hbx := Bx.new w [.int .i64 x.1, .int .i64 x.2] 35
  obtain ⟨w1, hw1⟩ : ∃ w1, w1 = w.alloc (.cells #[.int .i64 x.1, .int .i64 x.2] 35) := ⟨_, rfl⟩
  have hsz1 : w1.heap.size = w.heap.size + 1 := by rw [hw1]; simp
  have hB1 : Below w.heap.size w w1 := by rw [hw1]; exact (Below.refl _ _).alloc (Nat.le_refl _) _
  have HBX := hidp (show w1.cell? ⟨w.heap.size, 0, none⟩ = some (.int .i64 x.1) ∧ w1.cell? ⟨w.heap.size, 1, none⟩ = some (.int .i64 x.2) by rw [hw1]; exact ⟨hbx.cell 0 rfl, hbx.cell 1 rfl⟩)
  have HI : Hid (∀ (j : Nat) (y : Im), l[j]? = some y → ∃ b off, a = some ⟨b, off, none⟩ ∧ b < w1.heap.size ∧ w1.cell? ⟨b, off + j * 2, none⟩ = some (.int .i64 y.1) ∧ w1.cell? ⟨b, off + j * 2 + 1, none⟩ = some (.int .i64 y.2)) := hidp fun j y hy => by
    obtain ⟨b, off, e, f1, f2⟩ := hi j y hy
    have hbl : b < w.heap.size := World.block_lt_of_cell? w _ f1
    exact ⟨b, off, e, by omega, (hB1.cell (p := ⟨b, off + j * 2, none⟩) hbl).trans f1, (hB1.cell (p := ⟨b, off + j * 2 + 1, none⟩) hbl).trans f2⟩
  have HB1 := hidp hB1
  have HW1 := hidp hw1
  have HSZ := hidp hsz1
  clear hbx hw1 hB1 hi hsz1
  go_enter Try.func17, Try.ntmps17
  go_wp2_with fail
  rw [← HW1.out]
  go_loopw [8] (fun i wr => ∃ j : Nat, j ≤ l.length ∧ i = .int .i64 j ∧ Hid ((∀ y ∈ l.take j, II.lt y x = true) ∧ Below w1.heap.size w1 wr)) (fun i _ => l.length - (intOf i).toNat)
  case atStart => exact ⟨0, Nat.zero_le _, rfl, hidp ⟨fun y hy => by simp at hy, Below.refl _ _⟩⟩
  case round =>
    obtain ⟨j, hj, rfl, HBR⟩ := hrel
    have hs1 := HBR.out.2.size
    have hsz := HSZ.out
    have m0 := (HBR.out.2.cell (p := ⟨w.heap.size, 0, none⟩) (by show w.heap.size < w1.heap.size; omega)).trans HBX.out.1
    have m1 := (HBR.out.2.cell (p := ⟨w.heap.size, 1, none⟩) (by show w.heap.size < w1.heap.size; omega)).trans HBX.out.2
    by_cases hlt : j < l.length
    · obtain ⟨y, hy⟩ : ∃ y, l[j]? = some y := ⟨_, List.getElem?_eq_getElem hlt⟩
      obtain ⟨b, off, rfl, hbl, y1, y2⟩ := HI.out j y hy
      have c1 := (HBR.out.2.cell (p := ⟨b, off + j * 2, none⟩) hbl).trans y1
      have c2 := (HBR.out.2.cell (p := ⟨b, off + j * 2 + 1, none⟩) hbl).trans y2
      have hbr : b < wr.heap.size := by omega
      have hwr : w.heap.size < wr.heap.size := by omega
      have jlt : (j : Int) < (l.length : Int) := by omega
      have HY := hidp hy
      clear y1 y2 hy hbl
      go_wp2_with fail
      go_region_held3 (fun w' => w'.cell? ⟨b, off + j * 2, none⟩ = some (.int .i64 y.1) ∧ w'.cell? ⟨b, off + j * 2 + 1, none⟩ = some (.int .i64 y.2) ∧ w'.cell? ⟨w.heap.size, 0, none⟩ = some (.int .i64 x.1) ∧ w'.cell? ⟨w.heap.size, 1, none⟩ = some (.int .i64 x.2)) (go_keep)
        ((go_at_call 49
          refine (before_nil _ y.1 y.2 x.1 x.2).mono ?_
          rintro e w2 ⟨rfl, hb2⟩
          have k1 := (hb2.cell (p := ⟨b, off + j * 2, none⟩) (by show b < wr.heap.size; omega)).trans c1
          have k2 := (hb2.cell (p := ⟨b, off + j * 2 + 1, none⟩) (by show b < wr.heap.size; omega)).trans c2
          have k3 := (hb2.cell (p := ⟨w.heap.size, 0, none⟩) (by show w.heap.size < wr.heap.size; omega)).trans m0
          have k4 := (hb2.cell (p := ⟨w.heap.size, 1, none⟩) (by show w.heap.size < wr.heap.size; omega)).trans m1
          have HB2 := hidp (HBR.out.2.drew.trans (hb2.mono hs1))
          have HS2 : Hid (wr.heap.size ≤ w2.heap.size) := hidp hb2.size
          clear hb2))
      generalize hcc : decide (y.1 < x.1) = cc
      have HCC := hidp hcc
      clear hcc
      cases cc with
      | true =>
        go_wp2
        go_roundw
        case rel =>
          refine ⟨j + 1, by omega, by go_num, hidp ⟨fun z hz => ?_, HB2.out⟩⟩
          rw [List.take_add_one, HY.out] at hz
          rcases List.mem_append.1 hz with hz | hz
          · exact HBR.out.1 z hz
          · obtain rfl : z = y := by simpa using hz
            have := of_decide_eq_true HCC.out
            simpa [II.lt] using this
        case measure => simp [intOf]; omega
      | false =>
        have hp : pos II.lt l x = j := pos_stop hj HBR.out.1 (fun z hz => by
          obtain rfl : y = z := Option.some.inj (HY.out.symm.trans hz)
          have := of_decide_eq_false HCC.out
          simpa [II.lt] using this)
        have hf : fnd II.lt l x = !decide (x.1 < y.1) := by
          unfold fnd
          rw [hp, HY.out]; rfl
        have HPF := hidp (And.intro hp hf)
        have hs2 : wr.heap.size ≤ w2.heap.size := HS2.out
        clear hp hf
        go_wp2_with fail
        go_region_held3 (fun w' => w'.cell? ⟨b, off + j * 2, none⟩ = some (.int .i64 y.1) ∧ w'.cell? ⟨b, off + j * 2 + 1, none⟩ = some (.int .i64 y.2) ∧ w'.cell? ⟨w.heap.size, 0, none⟩ = some (.int .i64 x.1) ∧ w'.cell? ⟨w.heap.size, 1, none⟩ = some (.int .i64 x.2)) (go_keep)
          ((go_at_call 49
            refine (before_nil _ x.1 x.2 y.1 y.2).mono ?_
            rintro e w3 ⟨rfl, hb3⟩
            have k1 := (hb3.cell (p := ⟨b, off + j * 2, none⟩) (by show b < w2.heap.size; omega)).trans k1
            have k2 := (hb3.cell (p := ⟨b, off + j * 2 + 1, none⟩) (by show b < w2.heap.size; omega)).trans k2
            have k3 := (hb3.cell (p := ⟨w.heap.size, 0, none⟩) (by show w.heap.size < w2.heap.size; omega)).trans k3
            have k4 := (hb3.cell (p := ⟨w.heap.size, 1, none⟩) (by show w.heap.size < w2.heap.size; omega)).trans k4
            have HB3 := hidp (HB2.out.drew.trans (hb3.mono (by show w1.heap.size ≤ w2.heap.size; omega)))
            clear hb3))
        go_wp2
        refine bodyPost_ret (v := .tuple #[.int .i64 j, .bool (!decide (x.1 < y.1))]) (by simp [results, Try.results17, go_sem]) rfl ?_
        exact ⟨by rw [HPF.out.1, HPF.out.2], HB1.out.trans (HB3.out.mono (by omega))⟩
    · obtain rfl : j = l.length := by omega
      have hp : pos II.lt l x = l.length := pos_stop hj HBR.out.1 (fun z hz => by simp at hz)
      have hf : fnd II.lt l x = false := by
        unfold fnd
        rw [hp]; simp
      have HPF := hidp (And.intro hp hf)
      have HB2 := hidp (HB1.out.trans (HBR.out.2.mono (by omega)))
      clear hp hf
      go_wp2_with fail
      go_quiet (fail)
      go_wp2_with fail
      go_quiet (fail)
      go_wp2
      refine bodyPost_ret (v := .tuple #[.int .i64 l.length, .bool false]) (by simp [results, Try.results17, go_sem]) rfl ?_
      exact ⟨by rw [HPF.out.1, HPF.out.2], Below.drewN (Below.drewN HB2.out _) _⟩
end Go.Proofs.Ytehnobbiiokcgaa.Bt.ND

namespace Go.Proofs.Ytehnobbiiokcgaa.Bt.ND
set_option linter.unusedVariables false
set_option linter.unusedSimpArgs false
open Go Go.RowKit Go.Proofs.Ytehnobbiiokcgaa.Bt

/-- What is found as data. -/
def fdv (k v : Int) : Bool → Value
  | true => .agg #[.int .i64 k, .int .i64 v, .bool true]
  | false => .agg #[.int .i64 0, .int .i64 0, .bool false]

set_option maxHeartbeats 1000000 in
set_option maxRecDepth 100000 in
/-- 'found' -/
theorem found_is (w : World) (k v : Int) (b : Bool) : Calls Try.prog 81 #[.agg #[.int .i64 k, .int .i64 v], .bool b] w (fun e w' => e = .returned (fdv k v b) ∧ Below w.heap.size w w') := by
  have hB : Below w.heap.size w ((w.alloc (.cells #[.int .i64 k, .int .i64 v] 35)).alloc (.cells #[.int .i64 0, .int .i64 0, .bool false] 37)) := ((Below.refl _ _).alloc (Nat.le_refl _) _).alloc (by rw [World.size_alloc]; omega) _
  have HB := hidp hB
  have hsz := World.size_alloc w (.cells #[.int .i64 k, .int .i64 v] 35)
  clear hB
  cases b with
  | true =>
    go_enter Try.func81, Try.ntmps81
    go_wp2
    refine bodyPost_ret (v := fdv k v true) (by simp [results, Try.results81, fdv, go_sem]) rfl ?_
    exact ⟨rfl, ((Below.refl _ _).alloc (Nat.le_refl _) _).alloc (by rw [World.size_alloc]; omega) _⟩
  | false =>
    go_enter Try.func81, Try.ntmps81
    go_wp2
    refine bodyPost_ret (v := fdv k v false) (by simp [results, Try.results81, fdv, go_sem]) rfl ?_
    exact ⟨rfl, ((Below.refl _ _).alloc (Nat.le_refl _) _).alloc (by rw [World.size_alloc]; omega) _⟩

theorem Bx.below {w w' : World} {b B : Nat} {vs : List Value} (h : Bx w b vs) (hb : Below B w w') (hlt : b < B) : Bx w' b vs :=
  ⟨by have h1 := hb.size; have h2 := h.1; omega, fun j v hv => M_of ((hb.cell (p := ⟨b, j, none⟩) hlt).trans (h.cell j hv)) ((hb.frozen (p := ⟨b, j, none⟩) hlt).trans (h.froz j hv))⟩

set_option maxHeartbeats 1000000 in
set_option maxRecDepth 100000 in
/-- 'pair' -/
theorem pair_is (w : World) (k v : Int) (b : Bool) : Calls Try.prog 51 #[.int .i64 k, .int .i64 v, .bool b] w (fun e w' => e = .returned (fdv k v b) ∧ Below w.heap.size w w') := by
  have hB : Below w.heap.size w (w.alloc (.cells #[.int .i64 0, .int .i64 0, .bool false] 37)) := (Below.refl _ _).alloc (Nat.le_refl _) _
  have HB := hidp hB
  have HX := hidp (Bx.new w [.int .i64 0, .int .i64 0, .bool false] 37)
  clear hB
  go_enter Try.func51, Try.ntmps51
  go_wp2_with fail
  refine (found_is _ k v b).mono ?_
  rintro e w2 ⟨rfl, hb2⟩
  have hx := Bx.below HX.out hb2 (by rw [World.size_alloc]; omega)
  have hs2 := hx.1
  have k0 := hx.cell 0 rfl
  have k1 := hx.cell 1 rfl
  have k2 := hx.cell 2 rfl
  have f0 := hx.froz 0 (v := .int .i64 0) rfl
  have f1 := hx.froz 1 (v := .int .i64 0) rfl
  have f2 := hx.froz 2 (v := .bool false) rfl
  have HB2 := hidp (HB.out.trans (hb2.mono (by rw [World.size_alloc]; omega)))
  clear hb2 HB hx HX
  cases b with
  | true =>
    simp only [fdv]
    go_wp2
    refine bodyPost_ret (v := fdv k v true) (by simp [results, Try.results51, fdv, go_sem, k0, k1, k2, f0, f1, f2]) rfl ?_
    exact ⟨rfl, ((HB2.out.setCell (Nat.le_refl _) _).setCell (Nat.le_refl _) _).setCell (Nat.le_refl _) _⟩
  | false =>
    simp only [fdv]
    go_wp2
    refine bodyPost_ret (v := fdv k v false) (by simp [results, Try.results51, fdv, go_sem, k0, k1, k2, f0, f1, f2]) rfl ?_
    exact ⟨rfl, ((HB2.out.setCell (Nat.le_refl _) _).setCell (Nat.le_refl _) _).setCell (Nat.le_refl _) _⟩

/-- 'Get' of a map that stands on a node. -/
theorem get_stands {D n : Nat} (hD2 : D ≤ 1000) {t : DT (n + 1)} {S : Nat → Prop} {w : World} {s : Sto II.It} (h : Stands D t S w s) (k : Int) :
    Calls Try.prog 50 #[.pointer (some ⟨s.m, 0, none⟩), .int .i64 k] w (fun e w' => e = .returned (.tuple #[II.gv (look II.lt (dAll (n + 1) t) (k, 0)), .bool (look II.lt (dAll (n + 1) t) (k, 0)).isSome]) ∧ ∃ d, w' = w.drewN d) := by
  rcases h.tree with ⟨h1, h2, h3⟩ | ⟨j, m, ids, V, hr, T, _⟩
  · rw [dAll_nil h1 h2]
    exact II.Get_of (o := none) (x := (k, 0)) ((II.get_nil h.mp.rep h3 (k, 0)).mono fun e w' ⟨he, hw⟩ => ⟨he, 0, hw⟩)
  · rw [← V.all]
    exact II.Get_of (x := (k, 0)) (II.get_tr h.mp.rep hr T V.ok (by omega) (by rw [V.all]; exact V.srt) (k, 0))

/-- What DGet tells. -/
def fo (k : Int) : Option Im → Value
  | some y => fdv k y.2 true
  | none => fdv 0 0 false

set_option maxHeartbeats 2000000 in
set_option maxRecDepth 100000 in
/-- 'DGet' -/
theorem dget_is {D : Nat} (hD : 2 ≤ D) (hD2 : D ≤ 1000) {n : Nat} {t : DT (n + 1)} (hv : validB D (n + 1) t = true) {w : World} {vi vk : Value} {c : Int} (hN : NodeAt w (n + 1) t vi vk c) (hb : bulk (n + 1) t ≤ 10000000) (k : Int) :
    Calls Try.prog 18 #[.int .i64 D, .agg #[vi, vk, .int .i64 c], .int .i64 k] w (fun e w' => e = .returned (fo k (look II.lt (dAll (n + 1) t) (k, 0))) ∧ Below w.heap.size w w') := by
  obtain ⟨⟨i1, i2, icap, rfl⟩, q1, q2, kcap, rfl⟩ := hN.vals
  obtain ⟨w1, hw1⟩ : ∃ w1, w1 = (w.alloc (.cells #[.slice i1 i2 icap, .slice q1 q2 kcap, .int .i64 c] 25)).alloc (.cells #[.int .i64 0, .int .i64 0, .bool false] 37) := ⟨_, rfl⟩
  have hsz1 : w1.heap.size = w.heap.size + 2 := by rw [hw1]; simp
  have hB1 : Below w.heap.size w w1 := by rw [hw1]; exact ((Below.refl _ _).alloc (Nat.le_refl _) _).alloc (by rw [World.size_alloc]; omega) _
  have hbx := Bx.new w [.slice i1 i2 icap, .slice q1 q2 kcap, .int .i64 c] 25
  have HC1 : Hid (Cells3 w1 w.heap.size (.slice i1 i2 icap) (.slice q1 q2 kcap) c) := hidp (by
    rw [hw1]
    have h := hbx.alloc (.cells #[.int .i64 0, .int .i64 0, .bool false] 37)
    exact ⟨h.cell 0 rfl, h.cell 1 rfl, h.cell 2 rfl⟩)
  have HX1 : Hid (Bx w1 (w.heap.size + 1) [.int .i64 0, .int .i64 0, .bool false]) := hidp (by
    rw [hw1]
    have h := Bx.new (w.alloc (.cells #[.slice i1 i2 icap, .slice q1 q2 kcap, .int .i64 c] 25)) [.int .i64 0, .int .i64 0, .bool false] 37
    rw [World.size_alloc] at h
    exact h)
  have HST := hidp (stand_is hD hD2 hv (hN.below hB1) hb)
  have HB1 := hidp hB1
  have HW1 := hidp hw1
  have HSZ := hidp hsz1
  clear hN hB1 hv hw1 hbx hsz1
  obtain ⟨o, ho⟩ : ∃ o, look II.lt (dAll (n + 1) t) (k, 0) = o := ⟨_, rfl⟩
  have HO := hidp ho
  rw [ho]
  clear ho
  go_enter Try.func18, Try.ntmps18
  go_wp2_with fail
  rw [← HW1.out]
  have y0 := HC1.out.1
  have y1 := HC1.out.2.1
  have y2 := HC1.out.2.2
  go_wp2_with fail
  refine HST.out.mono ?_
  rintro e w2 ⟨S, s, rfl, St, hb2, _⟩
  have HX2 := hidp (Bx.below HX1.out hb2 (by have := HSZ.out; omega))
  have HB2 := hidp (HB1.out.trans (hb2.mono (by have := HSZ.out; omega)))
  have hG := get_stands hD2 St k
  rw [HO.out] at hG
  have hsz2 := HB2.out.size
  clear hb2 St HST y0 y1 y2
  cases o with
  | none =>
    have HG : Hid (Calls Try.prog 50 #[.pointer (some ⟨s.m, 0, none⟩), .int .i64 k] w2 (fun e w' => e = .returned (.tuple #[.int .i64 0, .bool false]) ∧ ∃ d, w' = w2.drewN d)) := hidp hG
    clear hG
    go_wp2_with fail
    refine HG.out.mono ?_
    rintro e w3 ⟨rfl, d, rfl⟩
    go_wp2_with fail
    refine (pair_is _ k 0 false).mono ?_
    rintro e w4 ⟨rfl, hb4⟩
    have hx := Bx.below (HX2.out.drewN d) hb4 HX2.out.1
    have hs2 := hx.1
    have k0 := hx.cell 0 rfl
    have k1 := hx.cell 1 rfl
    have k2 := hx.cell 2 rfl
    have f0 := hx.froz 0 (v := .int .i64 0) rfl
    have f1 := hx.froz 1 (v := .int .i64 0) rfl
    have f2 := hx.froz 2 (v := .bool false) rfl
    have HB4 := hidp ((Below.drewN HB2.out d).trans (hb4.mono hsz2))
    clear hb4 hx HX2 HX1
    simp only [fdv]
    go_wp2
    refine bodyPost_ret (v := fo k none) (by simp [results, Try.results18, fo, fdv, go_sem, k0, k1, k2, f0, f1, f2]) rfl ?_
    exact ⟨rfl, ((HB4.out.setCell (by show w.heap.size ≤ w.heap.size + 1; omega) _).setCell (by show w.heap.size ≤ w.heap.size + 1; omega) _).setCell (by show w.heap.size ≤ w.heap.size + 1; omega) _⟩
  | some y =>
    have HG : Hid (Calls Try.prog 50 #[.pointer (some ⟨s.m, 0, none⟩), .int .i64 k] w2 (fun e w' => e = .returned (.tuple #[.int .i64 y.2, .bool true]) ∧ ∃ d, w' = w2.drewN d)) := hidp hG
    clear hG
    go_wp2_with fail
    refine HG.out.mono ?_
    rintro e w3 ⟨rfl, d, rfl⟩
    go_wp2_with fail
    refine (pair_is _ k y.2 true).mono ?_
    rintro e w4 ⟨rfl, hb4⟩
    have hx := Bx.below (HX2.out.drewN d) hb4 HX2.out.1
    have hs2 := hx.1
    have k0 := hx.cell 0 rfl
    have k1 := hx.cell 1 rfl
    have k2 := hx.cell 2 rfl
    have f0 := hx.froz 0 (v := .int .i64 0) rfl
    have f1 := hx.froz 1 (v := .int .i64 0) rfl
    have f2 := hx.froz 2 (v := .bool false) rfl
    have HB4 := hidp ((Below.drewN HB2.out d).trans (hb4.mono hsz2))
    clear hb4 hx HX2 HX1
    simp only [fdv]
    go_wp2
    refine bodyPost_ret (v := fo k (some y)) (by simp [results, Try.results18, fo, fdv, go_sem, k0, k1, k2, f0, f1, f2]) rfl ?_
    exact ⟨rfl, ((HB4.out.setCell (by show w.heap.size ≤ w.heap.size + 1; omega) _).setCell (by show w.heap.size ≤ w.heap.size + 1; omega) _).setCell (by show w.heap.size ≤ w.heap.size + 1; omega) _⟩
end Go.Proofs.Ytehnobbiiokcgaa.Bt.ND
