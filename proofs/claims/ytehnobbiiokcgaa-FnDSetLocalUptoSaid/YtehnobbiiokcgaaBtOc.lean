/- Nodes as data: the law FnDSet. -/
import Derived.Test.YtehnobbiiokcgaaBtOb
import Derived.Deep.DeepCutAuto
namespace Go.Proofs.Ytehnobbiiokcgaa.Bt.ND
set_option linter.unusedVariables false
set_option linter.unusedSimpArgs false
open Go Go.RowKit Go.Proofs.Ytehnobbiiokcgaa.Bt

/-- What was there, as DSet tells it, is what Put tells. -/
theorem fo_ff {l : List Im} {x : Im} : fo x.1 (look II.lt l x) = ff (look II.lt l x) := by
  cases h : look II.lt l x with
  | none => rfl
  | some y =>
    obtain ⟨h1, h2, h3⟩ := look_some h
    have h4 := pos_at (lt := II.lt) h1
    simp [II.lt] at h2 h4
    have e : x.1 = y.1 := by omega
    show Value.agg #[.int .i64 x.1, .int .i64 y.2, .bool true] = Value.agg #[.int .i64 y.1, .int .i64 y.2, .bool true]
    rw [e]
theorem ff_form (o : Option Im) : ∃ (f0 f1 : Int) (f2 : Bool), ff o = .agg #[.int .i64 f0, .int .i64 f1, .bool f2] := by
  cases o with
  | none => exact ⟨0, 0, false, rfl⟩
  | some y => exact ⟨y.1, y.2, true, rfl⟩
theorem hgt_ofBT {mn mx lo h : Nat} {t : BT Im h} (hlo : 1 ≤ lo) (hok : BT.ok mn mx lo h t) : hgt (ofBT h t) = h + 1 := by
  have h1 : ¬ (ofBT h t).1.length = 0 := by
    rw [ofBT_its]
    cases h with
    | zero => have h2 : lo ≤ List.length t := hok.1; show ¬ List.length t = 0; omega
    | succ h => have h2 : lo ≤ t.1.length := hok.1; show ¬ t.1.length = 0; omega
  unfold hgt
  rw [if_neg h1, ofBT_lev h lo t hok]

/-- The state behind 'spec.Put'. -/
structure P5 (w : World) (i1 q1 : Option Addr) (i2 icap q2 kcap : Nat) (c : Int) (x : Im) (l : List Im) (f0 f1 : Int) (f2 : Bool) (v : Value) (bd : Nat) (wx : World) : Prop where
  its : Its wx v l
  d : Bx wx bd [.int .i64 f0, .int .i64 f1, .bool f2]
  bx : Bx wx w.heap.size [.slice i1 i2 icap, .slice q1 q2 kcap, .int .i64 c]
  bi : Bx wx (w.heap.size + 1) [.int .i64 x.1, .int .i64 x.2]
  lt : w.heap.size + 1 < bd
  below : Below w.heap.size w wx

theorem Bx.of_upd {w w' : World} {b : Nat} {vs : List Value} (hu : Upd w w' b 0 vs) (hl : b < w.heap.size) : Bx w' b vs := ⟨by rw [hu.size]; exact hl, fun j v hv => by
  have hj := (List.getElem?_eq_some_iff.1 hv).1
  rw [hu.cells, if_pos ⟨rfl, Nat.zero_le _, by omega⟩]
  simpa using hv⟩
section
variable {w w6 : World} {i1 q1 : Option Addr} {i2 icap q2 kcap : Nat} {c : Int} {x : Im} {l : List Im} {f0 f1 : Int} {f2 : Bool} {v : Value} {bd : Nat}
theorem P5.store {z0 z1 z2 : Value} (hz : Bx w6 bd [z0, z1, z2]) (hi : ItsQ (fun k => bd < k) w6 v l) (h0 : Bx w6 w.heap.size [.slice i1 i2 icap, .slice q1 q2 kcap, .int .i64 c]) (h1 : Bx w6 (w.heap.size + 1) [.int .i64 x.1, .int .i64 x.2]) (hlt : w.heap.size + 1 < bd) (hB : Below w.heap.size w w6) :
    P5 w i1 q1 i2 icap q2 kcap c x l f0 f1 f2 v bd (((w6.setCell ⟨bd, 0, none⟩ (.int .i64 f0)).setCell ⟨bd, 1, none⟩ (.int .i64 f1)).setCell ⟨bd, 2, none⟩ (.bool f2)) := by
  have hu := Bx.upd3 hz (.int .i64 f0) (.int .i64 f1) (.bool f2)
  exact ⟨(hi.keep (Q' := fun _ => True) hu.fr (fun k hk => ⟨fun (h : k = bd) => by have h2 : bd < k := hk; omega, trivial⟩)).at, Bx.of_upd hu hz.1, h0.upd hu (by omega), h1.upd hu (by omega), hlt,
    ((hB.setCell (by show w.heap.size ≤ bd; omega) _).setCell (by show w.heap.size ≤ bd; omega) _).setCell (by show w.heap.size ≤ bd; omega) _⟩
theorem P5.fresh (ty : TypeId) (hi : Its w6 v l) (h0 : Bx w6 w.heap.size [.slice i1 i2 icap, .slice q1 q2 kcap, .int .i64 c]) (h1 : Bx w6 (w.heap.size + 1) [.int .i64 x.1, .int .i64 x.2]) (hB : Below w.heap.size w w6) :
    P5 w i1 q1 i2 icap q2 kcap c x l f0 f1 f2 v w6.heap.size (w6.alloc (.cells #[.int .i64 f0, .int .i64 f1, .bool f2] ty)) :=
  ⟨hi.below ((Below.refl _ _).alloc (Nat.le_refl _) _), Bx.new w6 [.int .i64 f0, .int .i64 f1, .bool f2] ty, h0.alloc _, h1.alloc _, h1.1, hB.alloc (by have := h1.1; omega) _⟩
end

set_option maxHeartbeats 4000000 in
set_option maxRecDepth 100000 in
/-- The law. -/
theorem law_dset (d : Int) (x : Im) {n : Nat} {t : DT (n + 1)} {w : World} {vi vk : Value} {c : Int} (hN : NodeAt w (n + 1) t vi vk c) (hb : bulk (n + 1) t ≤ 4000000) :
    Calls Try.prog 7 #[.int .i64 d, .agg #[vi, vk, .int .i64 c], .agg #[.int .i64 x.1, .int .i64 x.2]] w (fun e w' => e = .returned (.bool true) ∧ Below w.heap.size w w') := by
  obtain ⟨⟨i1, i2, icap, rfl⟩, q1, q2, kcap, rfl⟩ := hN.vals
  obtain ⟨w1, hw1⟩ : ∃ w1, w1 = (w.alloc (.cells #[.slice i1 i2 icap, .slice q1 q2 kcap, .int .i64 c] 25)).alloc (.cells #[.int .i64 x.1, .int .i64 x.2] 35) := ⟨_, rfl⟩
  have hsz1 : w1.heap.size = w.heap.size + 2 := by rw [hw1]; simp
  have hB1 : Below w.heap.size w w1 := by rw [hw1]; exact ((Below.refl _ _).alloc (Nat.le_refl _) _).alloc (by rw [World.size_alloc]; omega) _
  have hx0 : Bx w1 w.heap.size [.slice i1 i2 icap, .slice q1 q2 kcap, .int .i64 c] := by rw [hw1]; exact (Bx.new w [.slice i1 i2 icap, .slice q1 q2 kcap, .int .i64 c] 25).alloc _
  have hx1 : Bx w1 (w.heap.size + 1) [.int .i64 x.1, .int .i64 x.2] := by
    rw [hw1]
    have h := Bx.new (w.alloc (.cells #[.slice i1 i2 icap, .slice q1 q2 kcap, .int .i64 c] 25)) [.int .i64 x.1, .int .i64 x.2] 35
    rw [World.size_alloc] at h
    exact h
  have HX0 := hidp hx0
  have HX1 := hidp hx1
  have HB1 := hidp hB1
  have HN := hidp hN
  have HZ := hidp (fits3_is (hN.below hB1) (by omega))
  have HSZ := hidp hsz1
  have a0 := hx0.cell 0 rfl
  have a1 := hx0.cell 1 rfl
  have a2 := hx0.cell 2 rfl
  clear hx0 hx1 hB1 hN hsz1
  go_enter Try.func7, Try.ntmps7
  go_wp2_with fail
  rw [← hw1]
  clear hw1
  refine HZ.out.mono ?_
  rintro e w2 ⟨rfl, hb2⟩
  have HX0b := hidp (Bx.below HX0.out hb2 HX0.out.1)
  have HX1b := hidp (Bx.below HX1.out hb2 HX1.out.1)
  have HB2 := hidp (HB1.out.trans (hb2.mono HB1.out.size))
  have HV := hidp (validD_is d (HN.out.below HB2.out) (by omega))
  have b0 := HX0b.out.cell 0 rfl
  have b1 := HX0b.out.cell 1 rfl
  have b2 := HX0b.out.cell 2 rfl
  clear hb2 HZ a0 a1 a2
  cases hv : (decide (2 ≤ d ∧ d ≤ 128) && validB d.toNat (n + 1) t) with
  | false =>
    rw [hv] at HV
    go_wp2_with fail
    refine HV.out.mono ?_
    rintro e w3 ⟨rfl, hb3⟩
    have HB3 := hidp (HB2.out.trans (hb3.mono HB2.out.size))
    have HA := hidp (aliveD_is w3)
    clear hb3 HV
    go_wp2_with fail
    refine HA.out.mono ?_
    rintro e w4 ⟨rfl, hb4⟩
    have HB4 := hidp (HB3.out.trans (hb4.mono HB3.out.size))
    clear hb4 HA
    go_wp2
    go_ret
    exact ⟨rfl, HB4.out⟩
  | true =>
    rw [hv] at HV
    rw [Bool.and_eq_true, decide_eq_true_eq] at hv
    obtain ⟨D, rfl⟩ : ∃ D : Nat, d = (D : Int) := ⟨d.toNat, by omega⟩
    obtain ⟨⟨hD1, hD2⟩, hvb⟩ := hv
    have hD1' : 2 ≤ D := by omega
    have hD2' : D ≤ 400 := by omega
    have hvb' : validB D (n + 1) t = true := hvb
    have HVB := hidp hvb'
    clear hvb hvb'
    go_wp2_with fail
    refine HV.out.mono ?_
    rintro e w4 ⟨rfl, hb4⟩
    have HX0d := hidp (Bx.below HX0b.out hb4 HX0b.out.1)
    have HX1d := hidp (Bx.below HX1b.out hb4 HX1b.out.1)
    have HB4 := hidp (HB2.out.trans (hb4.mono HB2.out.size))
    have c0 := HX0d.out.cell 0 rfl
    have c1 := HX0d.out.cell 1 rfl
    have c2 := HX0d.out.cell 2 rfl
    have c3 := HX1d.out.cell 0 rfl
    have c4 := HX1d.out.cell 1 rfl
    have hlt4 : w.heap.size + 1 < w4.heap.size := HX1d.out.1
    have hlen : (dAll (n + 1) t).length ≤ 4000000 := by have := dAll_bulk (n + 1) t; omega
    clear hb4 HV b0 b1 b2
    obtain ⟨f0, f1, f2, hff⟩ := ff_form (look II.lt (dAll (n + 1) t) x)
    have HFF := hidp hff
    have HPUT : Hid (∀ (w' : World) (u : Value), Its w' u (dAll (n + 1) t) → Calls Try.prog 28 #[.slice none 0 0, u, .agg #[.int .i64 x.1, .int .i64 x.2]] w' (fun e w2 => ∃ v, e = .returned (.tuple #[v, .agg #[.int .i64 f0, .int .i64 f1, .bool f2]]) ∧ Own w'.heap.size w' w2 v (put II.lt (dAll (n + 1) t) x))) := hidp fun w' u hu => by
      have h := put_is hu (by omega) x
      rw [HFF.out] at h
      exact h
    clear hff
    go_upto_region 5 with (fail)
    go_cut [7, 8] from 20 to 26 (fun u7 u8 wx => ∃ bd, u8 = .pointer (some ⟨bd, 0, none⟩) ∧ Hid (P5 w i1 q1 i2 icap q2 kcap c x (put II.lt (dAll (n + 1) t) x) f0 f1 f2 u7 bd wx))
    case first =>
      have ne0 : w.heap.size ≠ w4.heap.size := by omega
      have ne0r : w4.heap.size ≠ w.heap.size := by omega
      have ne1 : w.heap.size + 1 ≠ w4.heap.size := by omega
      have ne1r : w4.heap.size ≠ w.heap.size + 1 := by omega
      have HU4 := hidp (And.intro HX0d.out.drew HX1d.out.drew)
      go_region_held3 (fun w' => w'.cell? ⟨w.heap.size, 0, none⟩ = some (.slice i1 i2 icap) ∧ w'.cell? ⟨w.heap.size, 1, none⟩ = some (.slice q1 q2 kcap) ∧ w'.cell? ⟨w.heap.size, 2, none⟩ = some (.int .i64 c) ∧ w'.cell? ⟨w.heap.size + 1, 0, none⟩ = some (.int .i64 x.1) ∧ w'.cell? ⟨w.heap.size + 1, 1, none⟩ = some (.int .i64 x.2)) (go_keep)
        ((first
          | (go_at_call 14
             (first
              | (refine (items_is (n + 1) t (HN.out.below HB4.out.drew) (by omega)).mono ?_
                 rintro e w5 ⟨u5, rfl, ho⟩
                 have hit5 := ho.its
                 obtain ⟨_, _, _, hb5⟩ := ho
                 have HU5 := hidp (And.intro (Bx.below HU4.out.1 hb5 HU4.out.1.1) (Bx.below HU4.out.2 hb5 HU4.out.2.1))
                 have HB5 := hidp (HB4.out.drew.trans (hb5.mono (by show w.heap.size ≤ w4.heap.size; omega)))
                 have HZ5 : Hid True := hidp trivial)
              | (refine (items_is (n + 1) t (HN.out.below (HB4.out.drew.alloc (by show w.heap.size ≤ w4.heap.size; omega) _)) (by omega)).mono ?_
                 rintro e w5 ⟨u5, rfl, ho⟩
                 have hit5 := ho.its
                 obtain ⟨_, _, _, hb5⟩ := ho
                 have HU5 := hidp (And.intro (Bx.below (HU4.out.1.alloc _) hb5 (HU4.out.1.alloc (.cells #[.int .i64 0, .int .i64 0, .bool false] 37)).1) (Bx.below (HU4.out.2.alloc _) hb5 (HU4.out.2.alloc (.cells #[.int .i64 0, .int .i64 0, .bool false] 37)).1))
                 have HB5 := hidp ((HB4.out.drew.alloc (by show w.heap.size ≤ w4.heap.size; omega) (.cells #[.int .i64 0, .int .i64 0, .bool false] 37)).trans (hb5.mono (by rw [World.size_alloc]; show w.heap.size ≤ w4.heap.size + 1; omega)))
                 have HZ5 : Hid (Bx w5 w4.heap.size [.int .i64 0, .int .i64 0, .bool false]) := hidp (Bx.below (Bx.new w4.drew [.int .i64 0, .int .i64 0, .bool false] 37) hb5 (Bx.new w4.drew [.int .i64 0, .int .i64 0, .bool false] 37).1)))
             have HI5 := hidp hit5
             have k0 := HU5.out.1.cell 0 rfl
             have k1 := HU5.out.1.cell 1 rfl
             have k2 := HU5.out.1.cell 2 rfl
             have k3 := HU5.out.2.cell 0 rfl
             have k4 := HU5.out.2.cell 1 rfl
             have hs5 := HU5.out.2.1
             have ne2 : w.heap.size ≠ w5.heap.size := by omega
             have ne2r : w5.heap.size ≠ w.heap.size := by omega
             have ne3 : w.heap.size + 1 ≠ w5.heap.size := by omega
             have ne3r : w5.heap.size ≠ w.heap.size + 1 := by omega
             clear hb5 hit5)
          | (go_at_call 28
             (first
              | (refine (HPUT.out w5 _ HI5.out).mono ?_
                 rintro e w6 ⟨v6, rfl, ho⟩
                 have hit := ho.its
                 obtain ⟨_, hr6, hg6, hb6⟩ := ho
                 have HI6 := hidp (Row.itsQ hr6 hg6)
                 have HU6 := hidp (And.intro (Bx.below HU5.out.1 hb6 HU5.out.1.1) (Bx.below HU5.out.2 hb6 HU5.out.2.1))
                 have HB6 := hidp (HB5.out.trans (hb6.mono (by omega)))
                 (first | have HZ6 := hidp (Bx.below HZ5.out hb6 HZ5.out.1) | have HZ6 := hidp trivial))
              | (refine (HPUT.out (w5.alloc _) _ (HI5.out.below ((Below.refl _ _).alloc (Nat.le_refl _) _))).mono ?_
                 rintro e w6 ⟨v6, rfl, ho⟩
                 have hit := ho.its
                 obtain ⟨_, hr6, hg6, hb6⟩ := ho
                 have HI6 := hidp (Row.itsQ (Q := fun k => w5.heap.size < k) hr6 (fun k hk => by have h := hg6 k hk; rw [World.size_alloc] at h; exact h))
                 have HU6 := hidp (And.intro (Bx.below (HU5.out.1.alloc _) hb6 (HU5.out.1.alloc (.cells #[.int .i64 0, .int .i64 0, .bool false] 37)).1) (Bx.below (HU5.out.2.alloc _) hb6 (HU5.out.2.alloc (.cells #[.int .i64 0, .int .i64 0, .bool false] 37)).1))
                 have HB6 := hidp ((HB5.out.alloc (by omega) (.cells #[.int .i64 0, .int .i64 0, .bool false] 37)).trans (hb6.mono (by rw [World.size_alloc]; omega)))
                 have HZ6 := hidp (Bx.below (Bx.new w5 [.int .i64 0, .int .i64 0, .bool false] 37) hb6 (Bx.new w5 [.int .i64 0, .int .i64 0, .bool false] 37).1)))
             obtain ⟨va, vcap, hv6, _, _⟩ := hit
             subst hv6
             have l0 := HU6.out.1.cell 0 rfl
             have l1 := HU6.out.1.cell 1 rfl
             have l2 := HU6.out.1.cell 2 rfl
             have l3 := HU6.out.2.cell 0 rfl
             have l4 := HU6.out.2.cell 1 rfl
             have hs6 := HU6.out.2.1
             have ne4 : w.heap.size ≠ w6.heap.size := by omega
             have ne4r : w6.heap.size ≠ w.heap.size := by omega
             have ne5 : w.heap.size + 1 ≠ w6.heap.size := by omega
             have ne5r : w6.heap.size ≠ w.heap.size + 1 := by omega
             (first
              | (have z0 := HZ6.out.cell 0 rfl
                 have z1 := HZ6.out.cell 1 rfl
                 have z2 := HZ6.out.cell 2 rfl
                 have z0f := HZ6.out.froz 0 (v := .int .i64 0) rfl
                 have z1f := HZ6.out.froz 1 (v := .int .i64 0) rfl
                 have z2f := HZ6.out.froz 2 (v := .bool false) rfl
                 have hzl := HZ6.out.1)
              | skip)
             clear hb6 hr6 hg6)))
      all_goals go_wp2_with fail
      all_goals go_meet
      all_goals first
        | exact ⟨_, rfl, hidp (P5.store HZ6.out (HI6.out.keep (Fr.refl (fun _ => False) w6) (fun k hk => ⟨fun h => h, by have h1 := hk; first | exact h1 | (have h2 := HZ5.out.1; exact Nat.lt_of_lt_of_le h2 h1)⟩)) HU6.out.1 HU6.out.2 (by omega) HB6.out)⟩
        | exact ⟨_, rfl, hidp (P5.fresh _ HI6.out.at HU6.out.1 HU6.out.2 HB6.out)⟩
    case rest =>
      obtain ⟨bd, rfl, HP⟩ := hcut
      have e0 := HP.out.bx.cell 0 rfl
      have e1 := HP.out.bx.cell 1 rfl
      have e2 := HP.out.bx.cell 2 rfl
      have e3 := HP.out.bi.cell 0 rfl
      have e4 := HP.out.bi.cell 1 rfl
      have HDS := hidp (dset_is hD1' hD2' HVB.out (HN.out.below HP.out.below) (by omega) x)
      rw [fo_ff, HFF.out] at HDS
      clear c0 c1 c2 c3 c4 HX0d HX1d HB4 HPUT
      go_wp2_with fail
      refine HDS.out.mono ?_
      rintro e w7 ⟨h', t', ui, uk, c', rfl, hO, hq, hb7⟩
      obtain ⟨⟨a1, a2, a3, rfl⟩, p1, p2, p3, rfl⟩ := hq.vals
      have hNy := hq.at
      obtain ⟨w8, hw8⟩ : ∃ w8, w8 = (w7.alloc (.cells #[.int .i64 f0, .int .i64 f1, .bool f2] 37)).alloc (.cells #[.slice a1 a2 a3, .slice p1 p2 p3, .int .i64 c'] 25) := ⟨_, rfl⟩
      have hs7 := hb7.size
      have hy0 : Bx w8 w7.heap.size [.int .i64 f0, .int .i64 f1, .bool f2] := by rw [hw8]; exact (Bx.new w7 [.int .i64 f0, .int .i64 f1, .bool f2] 37).alloc _
      have hy1 : Bx w8 (w7.heap.size + 1) [.slice a1 a2 a3, .slice p1 p2 p3, .int .i64 c'] := by
        rw [hw8]
        have h := Bx.new (w7.alloc (.cells #[.int .i64 f0, .int .i64 f1, .bool f2] 37)) [.slice a1 a2 a3, .slice p1 p2 p3, .int .i64 c'] 25
        rw [World.size_alloc] at h
        exact h
      have hb78 : Below w7.heap.size w7 w8 := by rw [hw8]; exact ((Below.refl _ _).alloc (Nat.le_refl _) _).alloc (by rw [World.size_alloc]; omega) _
      have hb8 : Below wc.heap.size wc w8 := hb7.trans (hb78.mono hs7)
      have HY0 := hidp hy0
      have HY1 := hidp hy1
      have HX8 := hidp (Bx.below HP.out.bx hb8 HP.out.bx.1)
      have HD8 := hidp (Bx.below HP.out.d hb8 HP.out.d.1)
      have HI8 := hidp (HP.out.its.below hb8)
      have HB8 := hidp (HP.out.below.trans (hb8.mono HP.out.below.size))
      have HNY := hidp (hNy.below hb78)
      have HW8 := hidp hw8
      have HOUT := hidp hO
      have hblk : bulk (h' + 1) (ofBT h' t') ≤ 10000000 := by
        have h1 := ofBT_bulk (mn := D - 1) (by omega) h' 1 t' (Nat.le_refl _) hO.ok
        rw [hO.all, II.put_length] at h1
        have h2 : (if fnd II.lt (dAll (n + 1) t) x = true then 0 else 1) ≤ 1 := by split <;> omega
        omega
      have HBK := hidp hblk
      obtain ⟨hy, hhy⟩ : ∃ hy : Nat, hgt (ofBT h' t') = hy := ⟨_, rfl⟩
      obtain ⟨hx, hhx⟩ : ∃ hx : Nat, hgt t = hx := ⟨_, rfl⟩
      have hgr : hy = hx ∨ hy = hx + 1 := by
        have h1 := hgt_ofBT (Nat.le_refl _) hO.ok
        rw [hhy] at h1
        rcases hO.step with ⟨g1, g2, g3⟩ | ⟨V, _⟩ | ⟨h, V, g3⟩
        · right
          have h2 : hgt t = 0 := by unfold hgt; rw [if_pos g1]
          omega
        · left
          have h2 := V.hgt
          omega
        · right
          have h2 := V.hgt
          omega
      have hxl : hx ≤ 10000000 := by
        have h1 := lev_bulk (n + 1) t
        rw [← hhx]; unfold hgt
        split
        · omega
        · omega
      have HHH := hidp (And.intro hhy hhx)
      have k0 := hy1.cell 0 rfl
      have k1 := hy1.cell 1 rfl
      have k2 := hy1.cell 2 rfl
      have l0 := HX8.out.cell 0 rfl
      have l1 := HX8.out.cell 1 rfl
      have l2 := HX8.out.cell 2 rfl
      have hl1 := hy1.1
      have hl0 := HX8.out.1
      clear hq hO hNy hb7 hb78 hb8 hy0 hy1 hhy hhx hblk e0 e1 e2 e3 e4 HDS
      go_wp2_with fail
      rw [← hw8]
      clear hw8
      have HNHX : Hid (∀ w', Below w8.heap.size w8 w' → Calls Try.prog 16 #[.agg #[.slice i1 i2 icap, .slice q1 q2 kcap, .int .i64 c]] w' (fun e w2 => e = .returned (.int .i64 (hx : Nat)) ∧ Below w'.heap.size w' w2)) := hidp fun w' hb' => by
        have h := nodeHeight_is (HN.out.below (HB8.out.trans (hb'.mono HB8.out.size))) (by omega)
        rw [HHH.out.2] at h
        exact h
      have HNHY : Hid (∀ w', Below w8.heap.size w8 w' → Calls Try.prog 16 #[.agg #[.slice a1 a2 a3, .slice p1 p2 p3, .int .i64 c']] w' (fun e w2 => e = .returned (.int .i64 (hy : Nat)) ∧ Below w'.heap.size w' w2)) := hidp fun w' hb' => by
        have h := nodeHeight_is (HNY.out.below hb') HBK.out
        rw [HHH.out.1] at h
        exact h
      rcases hgr with hgr | hgr
      · rw [hgr] at HNHY
        clear hgr
        have hwr : IntKind.i64.wrap (((hx : Nat) : Int) - (hx : Int)) = 0 := by rw [Last.i64_w, IntWalk.wrap64_in _ ⟨by omega, by omega⟩]; omega
        go_region_held3 (fun w' => w'.cell? ⟨w7.heap.size + 1, 0, none⟩ = some (.slice a1 a2 a3) ∧ w'.cell? ⟨w7.heap.size + 1, 1, none⟩ = some (.slice p1 p2 p3) ∧ w'.cell? ⟨w7.heap.size + 1, 2, none⟩ = some (.int .i64 c') ∧ w'.cell? ⟨w.heap.size, 0, none⟩ = some (.slice i1 i2 icap) ∧ w'.cell? ⟨w.heap.size, 1, none⟩ = some (.slice q1 q2 kcap) ∧ w'.cell? ⟨w.heap.size, 2, none⟩ = some (.int .i64 c)) (go_keep)
          ((first
            | (go_at_call 16
               refine (HNHX.out _ HB9.out).mono ?_
               rintro e w10 ⟨rfl, hb10⟩
               have HYc := hidp (Bx.below HYb.out hb10 HYb.out.1)
               have HXc := hidp (Bx.below HXb.out hb10 HXb.out.1)
               have HB10 := hidp (HB9.out.trans (hb10.mono HB9.out.size))
               have r0 := HYc.out.cell 0 rfl
               have r1 := HYc.out.cell 1 rfl
               have r2 := HYc.out.cell 2 rfl
               have s0 := HXc.out.cell 0 rfl
               have s1 := HXc.out.cell 1 rfl
               have s2 := HXc.out.cell 2 rfl
               clear hb10)
            | (go_at_call 16
               refine (HNHY.out _ (Below.refl _ _).drew).mono ?_
               rintro e w9 ⟨rfl, hb9⟩
               have HYb := hidp (Bx.below HY1.out.drew hb9 hl1)
               have HXb := hidp (Bx.below HX8.out.drew hb9 hl0)
               have HB9 := hidp ((Below.refl w8.heap.size w8).drew.trans hb9)
               have m0 := HYb.out.cell 0 rfl
               have m1 := HYb.out.cell 1 rfl
               have m2 := HYb.out.cell 2 rfl
               have o0 := HXb.out.cell 0 rfl
               have o1 := HXb.out.cell 1 rfl
               have o2 := HXb.out.cell 2 rfl
               clear hb9)))
        have HYF := hidp (Bx.below HY0.out HB10.out HY0.out.1)
        have HDF := hidp (Bx.below HD8.out HB10.out HD8.out.1)
        have t0 := HYF.out.cell 0 rfl
        have t1 := HYF.out.cell 1 rfl
        have t2 := HYF.out.cell 2 rfl
        have v0 := HDF.out.cell 0 rfl
        have v1 := HDF.out.cell 1 rfl
        have v2 := HDF.out.cell 2 rfl
        have HHO := hidp (holds_is (D := D) hD1' (by omega) (ofBT_valid HOUT.out.ok HOUT.out.srt) (ofBT_rc h' t') (HNY.out.below HB10.out) HBK.out (u := u7) (by rw [ofBT_all, HOUT.out.all]; exact HI8.out.below HB10.out))
        clear k0 k1 k2 l0 l1 l2 s0 s1 s2
        go_wp2_with fail
        refine HHO.out.mono ?_
        rintro e w11 ⟨rfl, hb11⟩
        have HB11 := hidp (HB8.out.trans ((HB10.out.trans (hb11.mono HB10.out.size)).mono HB8.out.size))
        clear hb11 HHO r0 r1 r2 t0 t1 t2 v0 v1 v2
        go_wp2_with fail
        refine (aliveD_is w11).mono ?_
        rintro e w12 ⟨rfl, hb12⟩
        have HB12 := hidp (HB11.out.trans (hb12.mono HB11.out.size))
        clear hb12
        go_wp2
        go_ret
        exact ⟨rfl, HB12.out⟩
      · rw [hgr] at HNHY
        clear hgr
        have hwr : IntKind.i64.wrap (((hx + 1 : Nat) : Int) - (hx : Int)) = 1 := by rw [Last.i64_w, IntWalk.wrap64_in _ ⟨by omega, by omega⟩]; omega
        go_region_held3 (fun w' => w'.cell? ⟨w7.heap.size + 1, 0, none⟩ = some (.slice a1 a2 a3) ∧ w'.cell? ⟨w7.heap.size + 1, 1, none⟩ = some (.slice p1 p2 p3) ∧ w'.cell? ⟨w7.heap.size + 1, 2, none⟩ = some (.int .i64 c') ∧ w'.cell? ⟨w.heap.size, 0, none⟩ = some (.slice i1 i2 icap) ∧ w'.cell? ⟨w.heap.size, 1, none⟩ = some (.slice q1 q2 kcap) ∧ w'.cell? ⟨w.heap.size, 2, none⟩ = some (.int .i64 c)) (go_keep)
          ((first
            | (go_at_call 16
               refine (HNHX.out _ HB9.out).mono ?_
               rintro e w10 ⟨rfl, hb10⟩
               have HYc := hidp (Bx.below HYb.out hb10 HYb.out.1)
               have HXc := hidp (Bx.below HXb.out hb10 HXb.out.1)
               have HB10 := hidp (HB9.out.trans (hb10.mono HB9.out.size))
               have r0 := HYc.out.cell 0 rfl
               have r1 := HYc.out.cell 1 rfl
               have r2 := HYc.out.cell 2 rfl
               have s0 := HXc.out.cell 0 rfl
               have s1 := HXc.out.cell 1 rfl
               have s2 := HXc.out.cell 2 rfl
               clear hb10)
            | (go_at_call 16
               refine (HNHY.out _ (Below.refl _ _).drew).mono ?_
               rintro e w9 ⟨rfl, hb9⟩
               have HYb := hidp (Bx.below HY1.out.drew hb9 hl1)
               have HXb := hidp (Bx.below HX8.out.drew hb9 hl0)
               have HB9 := hidp ((Below.refl w8.heap.size w8).drew.trans hb9)
               have m0 := HYb.out.cell 0 rfl
               have m1 := HYb.out.cell 1 rfl
               have m2 := HYb.out.cell 2 rfl
               have o0 := HXb.out.cell 0 rfl
               have o1 := HXb.out.cell 1 rfl
               have o2 := HXb.out.cell 2 rfl
               clear hb9)))
        have HYF := hidp (Bx.below HY0.out HB10.out HY0.out.1)
        have HDF := hidp (Bx.below HD8.out HB10.out HD8.out.1)
        have t0 := HYF.out.cell 0 rfl
        have t1 := HYF.out.cell 1 rfl
        have t2 := HYF.out.cell 2 rfl
        have v0 := HDF.out.cell 0 rfl
        have v1 := HDF.out.cell 1 rfl
        have v2 := HDF.out.cell 2 rfl
        have HHO := hidp (holds_is (D := D) hD1' (by omega) (ofBT_valid HOUT.out.ok HOUT.out.srt) (ofBT_rc h' t') (HNY.out.below HB10.out) HBK.out (u := u7) (by rw [ofBT_all, HOUT.out.all]; exact HI8.out.below HB10.out))
        clear k0 k1 k2 l0 l1 l2 s0 s1 s2
        go_wp2_with fail
        refine HHO.out.mono ?_
        rintro e w11 ⟨rfl, hb11⟩
        have HB11 := hidp (HB8.out.trans ((HB10.out.trans (hb11.mono HB10.out.size)).mono HB8.out.size))
        clear hb11 HHO r0 r1 r2 t0 t1 t2 v0 v1 v2
        go_wp2_with fail
        refine (aliveD_is w11).mono ?_
        rintro e w12 ⟨rfl, hb12⟩
        have HB12 := hidp (HB11.out.trans (hb12.mono HB11.out.size))
        clear hb12
        go_wp2
        go_ret
        exact ⟨rfl, HB12.out⟩
end Go.Proofs.Ytehnobbiiokcgaa.Bt.ND
