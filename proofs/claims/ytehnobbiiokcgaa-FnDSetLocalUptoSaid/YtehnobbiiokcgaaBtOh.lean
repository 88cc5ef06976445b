/- Nodes as data: the law FnDSetLocal. -/
import Derived.Test.YtehnobbiiokcgaaBtOf
import Derived.Test.YtehnobbiiokcgaaBtOg
import Derived.Test.YtehnobbiiokcgaaBtOc
import Derived.Test.YtehnobbiiokcgaaBtQc
namespace Go.Proofs.Ytehnobbiiokcgaa.Bt.ND
set_option linter.unusedVariables false
set_option linter.unusedSimpArgs false
open Go Go.RowKit Go.Proofs.Ytehnobbiiokcgaa.Bt

theorem lev_nil {n : Nat} {t : DT (n + 1)} (hl : lev (n + 1) t = (1, true)) : t.2.1 = [] := by
  cases hk : t.2.1 with
  | nil => rfl
  | cons k ks =>
    rw [lev_cons hk] at hl
    split at hl
    · simp only [Prod.mk.injEq] at hl
      have h2 := hl.2
      rw [List.all_cons, Bool.and_eq_true, Bool.and_eq_true] at h2
      have := lev_pos n k h2.1.1
      omega
    · cases hl
theorem lev_kid {h n : Nat} {t : DT (n + 1)} (hl : lev (n + 1) t = (h + 2, true)) {k' : DT n} (hk' : k' ∈ t.2.1) : lev n k' = (h + 1, true) := by
  cases hk : t.2.1 with
  | nil => rw [hk] at hk'; cases hk'
  | cons k ks =>
    rw [lev_cons hk] at hl
    split at hl
    · simp only [Prod.mk.injEq] at hl
      rw [hk] at hk'
      have h3 := List.all_eq_true.1 hl.2 k' hk'
      rw [Bool.and_eq_true, decide_eq_true_eq] at h3
      exact Prod.ext (by rw [h3.2]; show (lev n k).1 = h + 1; omega) h3.1
    · cases hl
/-- A node with the right counts is its tree's node. -/
theorem retype : ∀ (h n : Nat) (t : DT n) {w : World} {vi vk : Value} {c : Int}, lev n t = (h + 1, true) → NodeAt w n (wcn n t) vi vk c → NodeAt w (h + 1) (ofBT h (toBT h n t)) vi vk c
  | _, 0, t, _, _, _, _, _, _ => t.elim
  | 0, n + 1, t, w, vi, vk, c, hl, hN => by
    have hall := toBT_all 0 (n + 1) t hl
    have hnil := lev_nil hl
    obtain ⟨h1, h2, ka, kcap, e, h3, h4⟩ := hN
    refine ⟨?_, h2, ka, kcap, ?_, Nat.zero_le _, fun j k hk => ?_⟩
    · rw [h1]
      show (((dAll (n + 1) t).length : Nat) : Int) = ((List.length t.1 : Nat) : Int)
      rw [← hall]; rfl
    · rw [e]
      show Value.slice ka (t.2.1.map (wcn n)).length kcap = Value.slice ka 0 kcap
      rw [hnil]; rfl
    · have h5 : ([] : List (DT 0))[j]? = some k := hk
      simp at h5
  | h + 1, n + 1, t, w, vi, vk, c, hl, hN => by
    have hall := toBT_all (h + 1) (n + 1) t hl
    obtain ⟨h1, h2, ka, kcap, e, h3, h4⟩ := hN
    have hlen : (ofBT (h + 1) (toBT (h + 1) (n + 1) t)).2.1.length = (wcn (n + 1) t).2.1.length := by
      show ((t.2.1.map (toBT h n)).map (ofBT h)).length = (t.2.1.map (wcn n)).length
      simp
    refine ⟨?_, h2, ka, kcap, ?_, ?_, fun j k hk => ?_⟩
    · rw [h1]
      show (((dAll (n + 1) t).length : Nat) : Int) = (((BT.all (h + 1) (toBT (h + 1) (n + 1) t)).length : Nat) : Int)
      rw [hall]
    · rw [e, hlen]
    · rw [hlen]; exact h3
    · have hk2 : ((t.2.1.map (toBT h n)).map (ofBT h))[j]? = some k := hk
      rw [List.getElem?_map, List.getElem?_map] at hk2
      cases hq : t.2.1[j]? with
      | none => rw [hq] at hk2; cases hk2
      | some k' =>
        rw [hq] at hk2
        obtain rfl : ofBT h (toBT h n k') = k := by simpa using hk2
        obtain ⟨b, off, vi', vk', c', g0, g1, g2, g3, g4⟩ := h4 j (wcn n k') (by show (t.2.1.map (wcn n))[j]? = _; rw [List.getElem?_map, hq]; rfl)
        exact ⟨b, off, vi', vk', c', g0, g1, g2, g3, retype h n k' (lev_kid hl (List.mem_of_getElem? hq)) g4⟩

set_option maxHeartbeats 4000000 in
set_option maxRecDepth 100000 in
/-- The law. -/
theorem law_dsetlocal (d : Int) (x : Im) {n : Nat} {t : DT (n + 1)} {w : World} {vi vk : Value} {c : Int} (hN : NodeAt w (n + 1) t vi vk c) (hb : bulk (n + 1) t ≤ 4000000) :
    Calls Try.prog 6 #[.int .i64 d, .agg #[vi, vk, .int .i64 c], .agg #[.int .i64 x.1, .int .i64 x.2]] w (fun e w' => e = .returned (.bool true) ∧ Below w.heap.size w w') := by
  obtain ⟨⟨i1, i2, icap, rfl⟩, q1, q2, kcap, rfl⟩ := hN.vals
  obtain ⟨w1, hw1⟩ : ∃ w1, w1 = (w.alloc (.cells #[.slice i1 i2 icap, .slice q1 q2 kcap, .int .i64 c] 25)).alloc (.cells #[.int .i64 x.1, .int .i64 x.2] 35) := ⟨_, rfl⟩
  have hsz1 : w1.heap.size = w.heap.size + 2 := by rw [hw1]; simp
  have hB1 : Below w.heap.size w w1 := by rw [hw1]; exact ((Below.refl _ _).alloc (Nat.le_refl _) _).alloc (by rw [World.size_alloc]; omega) _
  have hx0 : Bx w1 w.heap.size [.slice i1 i2 icap, .slice q1 q2 kcap, .int .i64 c] := by rw [hw1]; exact (Bx.new w [.slice i1 i2 icap, .slice q1 q2 kcap, .int .i64 c] 25).alloc _
  have hx1 : Bx w1 (w.heap.size + 1) [.int .i64 x.1, .int .i64 x.2] := by
    rw [hw1]
    have h := Bx.new (w.alloc (.cells #[.slice i1 i2 icap, .slice q1 q2 kcap, .int .i64 c] 25)) [.int .i64 x.1, .int .i64 x.2] 35
    rw [World.size_alloc] at h
    exact h
  have HX0 := hidp hx0
  have HX1 := hidp hx1
  have HB1 := hidp hB1
  have HN := hidp hN
  have HZ := hidp (fits3_is (hN.below hB1) (by omega))
  have HSZ := hidp hsz1
  have a0 := hx0.cell 0 rfl
  have a1 := hx0.cell 1 rfl
  have a2 := hx0.cell 2 rfl
  clear hx0 hx1 hB1 hN hsz1
  go_enter Try.func6, Try.ntmps6
  go_wp2_with fail
  rw [← hw1]
  clear hw1
  refine HZ.out.mono ?_
  rintro e w2 ⟨rfl, hb2⟩
  have HX0b := hidp (Bx.below HX0.out hb2 HX0.out.1)
  have HX1b := hidp (Bx.below HX1.out hb2 HX1.out.1)
  have HB2 := hidp (HB1.out.trans (hb2.mono HB1.out.size))
  have HV := hidp (validD_is d (HN.out.below HB2.out) (by omega))
  have b0 := HX0b.out.cell 0 rfl
  have b1 := HX0b.out.cell 1 rfl
  have b2 := HX0b.out.cell 2 rfl
  clear hb2 HZ a0 a1 a2
  cases hv : (decide (2 ≤ d ∧ d ≤ 128) && validB d.toNat (n + 1) t) with
  | false =>
    rw [hv] at HV
    go_wp2_with fail
    refine HV.out.mono ?_
    rintro e w3 ⟨rfl, hb3⟩
    have HB3 := hidp (HB2.out.trans (hb3.mono HB2.out.size))
    have HA := hidp (aliveD_is w3)
    clear hb3 HV
    go_wp2_with fail
    refine HA.out.mono ?_
    rintro e w4 ⟨rfl, hb4⟩
    have HB4 := hidp (HB3.out.trans (hb4.mono HB3.out.size))
    clear hb4 HA
    go_wp2
    go_ret
    exact ⟨rfl, HB4.out⟩
  | true =>
    rw [hv] at HV
    rw [Bool.and_eq_true, decide_eq_true_eq] at hv
    obtain ⟨D, rfl⟩ : ∃ D : Nat, d = (D : Int) := ⟨d.toNat, by omega⟩
    obtain ⟨⟨hD1, hD2⟩, hvb⟩ := hv
    have hD1' : 2 ≤ D := by omega
    have hD2' : D ≤ 400 := by omega
    have hvb' : validB D (n + 1) t = true := hvb
    have HVB := hidp hvb'
    clear hvb hvb'
    go_wp2_with fail
    refine HV.out.mono ?_
    rintro e w4 ⟨rfl, hb4⟩
    have HX0d := hidp (Bx.below HX0b.out hb4 HX0b.out.1)
    have HX1d := hidp (Bx.below HX1b.out hb4 HX1b.out.1)
    have HB4 := hidp (HB2.out.trans (hb4.mono HB2.out.size))
    have c0 := HX0d.out.cell 0 rfl
    have c1 := HX0d.out.cell 1 rfl
    have c2 := HX0d.out.cell 2 rfl
    have c3 := HX1d.out.cell 0 rfl
    have c4 := HX1d.out.cell 1 rfl
    have hlt4 : w.heap.size + 1 < w4.heap.size := HX1d.out.1
    have hlen : (dAll (n + 1) t).length ≤ 4000000 := by have := dAll_bulk (n + 1) t; omega
    clear hb4 HV b0 b1 b2
    obtain ⟨f0, f1, f2, hff⟩ := ff_form (look II.lt (dAll (n + 1) t) x)
    have HDS := hidp (dset_is hD1' hD2' HVB.out (HN.out.below HB4.out) (by omega) x)
    rw [fo_ff, hff] at HDS
    clear hff
    go_wp2_with fail
    refine HDS.out.mono ?_
    rintro e w7 ⟨h', t', ui, uk, c', rfl, hO, hq, hb7⟩
    obtain ⟨⟨a1, a2, a3, rfl⟩, p1, p2, p3, rfl⟩ := hq.vals
    have hNy := hq.at
    obtain ⟨w8, hw8⟩ : ∃ w8, w8 = (w7.alloc (.cells #[.int .i64 f0, .int .i64 f1, .bool f2] 37)).alloc (.cells #[.slice a1 a2 a3, .slice p1 p2 p3, .int .i64 c'] 25) := ⟨_, rfl⟩
    have hs7 := hb7.size
    have hy1 : Bx w8 (w7.heap.size + 1) [.slice a1 a2 a3, .slice p1 p2 p3, .int .i64 c'] := by
      rw [hw8]
      have h := Bx.new (w7.alloc (.cells #[.int .i64 f0, .int .i64 f1, .bool f2] 37)) [.slice a1 a2 a3, .slice p1 p2 p3, .int .i64 c'] 25
      rw [World.size_alloc] at h
      exact h
    have hb78 : Below w7.heap.size w7 w8 := by rw [hw8]; exact ((Below.refl _ _).alloc (Nat.le_refl _) _).alloc (by rw [World.size_alloc]; omega) _
    have hb8 : Below w4.heap.size w4 w8 := hb7.trans (hb78.mono hs7)
    have HY1 := hidp hy1
    have HX8 := hidp (Bx.below HX0d.out hb8 HX0d.out.1)
    have HB8 := hidp (HB4.out.trans (hb8.mono HB4.out.size))
    have HNY := hidp (hNy.below hb78)
    have HOUT := hidp hO
    have hblk : bulk (h' + 1) (ofBT h' t') ≤ 10000000 := by
      have h1 := ofBT_bulk (mn := D - 1) (by omega) h' 1 t' (Nat.le_refl _) hO.ok
      rw [hO.all, II.put_length] at h1
      have h2 : (if fnd II.lt (dAll (n + 1) t) x = true then 0 else 1) ≤ 1 := by split <;> omega
      omega
    have HBK := hidp hblk
    obtain ⟨hy, hhy⟩ : ∃ hy : Nat, hgt (ofBT h' t') = hy := ⟨_, rfl⟩
    obtain ⟨hx, hhx⟩ : ∃ hx : Nat, hgt t = hx := ⟨_, rfl⟩
    have hgr : (hy ≠ hx) ∨ (hy = hx ∧ VTree D t h' ∧ LocP (h' + 1) (ofBT h' (toBT h' (n + 1) t)) (ofBT h' t')) := by
      have h1 := hgt_ofBT (Nat.le_refl _) hO.ok
      rw [hhy] at h1
      rcases hO.step with ⟨g1, g2, g3⟩ | ⟨V, g2⟩ | ⟨h, V, g3⟩
      · left
        have h2 : hgt t = 0 := by unfold hgt; rw [if_pos g1]
        omega
      · right
        have h2 := V.hgt
        exact ⟨by omega, V, loc_ins hD1' h' 1 _ x V.ok (by rw [V.all]; exact V.srt) t' g2⟩
      · left
        have h2 := V.hgt
        omega
    have hxl : hx ≤ 10000000 := by
      have h1 := lev_bulk (n + 1) t
      rw [← hhx]; unfold hgt
      split
      · omega
      · omega
    have HHH := hidp (And.intro hhy hhx)
    have k0 := hy1.cell 0 rfl
    have k1 := hy1.cell 1 rfl
    have k2 := hy1.cell 2 rfl
    have l0 := HX8.out.cell 0 rfl
    have l1 := HX8.out.cell 1 rfl
    have l2 := HX8.out.cell 2 rfl
    have hl1 := hy1.1
    have hl0 := HX8.out.1
    clear hq hO hNy hb7 hb78 hb8 hy1 hhy hhx hblk c0 c1 c2 c3 c4 HDS
    go_wp2_with fail
    rw [← hw8]
    clear hw8
    have HNHX : Hid (∀ w', Below w8.heap.size w8 w' → Calls Try.prog 16 #[.agg #[.slice i1 i2 icap, .slice q1 q2 kcap, .int .i64 c]] w' (fun e w2 => e = .returned (.int .i64 (hx : Nat)) ∧ Below w'.heap.size w' w2)) := hidp fun w' hb' => by
      have h := nodeHeight_is (HN.out.below (HB8.out.trans (hb'.mono HB8.out.size))) (by omega)
      rw [HHH.out.2] at h
      exact h
    have HNHY : Hid (∀ w', Below w8.heap.size w8 w' → Calls Try.prog 16 #[.agg #[.slice a1 a2 a3, .slice p1 p2 p3, .int .i64 c']] w' (fun e w2 => e = .returned (.int .i64 (hy : Nat)) ∧ Below w'.heap.size w' w2)) := hidp fun w' hb' => by
      have h := nodeHeight_is (HNY.out.below hb') HBK.out
      rw [HHH.out.1] at h
      exact h
    rcases hgr with hgr | ⟨hgr, V, hloc⟩
    · have hbq : (((hx : Nat) : Int) != ((hy : Nat) : Int)) = true := by simp only [bne_iff_ne, ne_eq]; omega
      clear k0 k1 k2 l0 l1 l2
      refine region_class (C := fun w' => Below w8.heap.size w8 w') (by kernel_rfl) (by kernel_rfl) ((Below.refl _ _).drew) ?_
      repeat (first
        | (simp only [hbq]; go_big_quiet_skip)
        | go_big_quiet_skip
        | (go_big_quiet_want
           first
           | (go_big_quiet_op; go_big_quiet_on)
           | (apply Exists.intro
              refine ⟨fun wq hq => ?_, ?_⟩
              (have f0 := (Bx.below HX8.out hq HX8.out.1).cell 0 rfl
               have f1 := (Bx.below HX8.out hq HX8.out.1).cell 1 rfl
               have f2 := (Bx.below HX8.out hq HX8.out.1).cell 2 rfl
               have f3 := (Bx.below HY1.out hq HY1.out.1).cell 0 rfl
               have f4 := (Bx.below HY1.out hq HY1.out.1).cell 1 rfl
               have f5 := (Bx.below HY1.out hq HY1.out.1).cell 2 rfl
               unfold Oper.quietAt
               first
               | (go_simp; done)
               | (go_simp; with_reducible rfl)
               | (go_simp
                  first
                   | (go_at_call 16
                      with_reducible refine (HNHX.out _ hq).mono ?_
                      rintro e w9 ⟨rfl, hb9⟩
                      exact ⟨rfl, hq.trans (hb9.mono hq.size)⟩)
                   | (go_at_call 16
                      with_reducible refine (HNHY.out _ hq).mono ?_
                      rintro e w9 ⟨rfl, hb9⟩
                      exact ⟨rfl, hq.trans (hb9.mono hq.size)⟩)
                   | (go_at_call 13
                      refine (aliveD_is _).mono ?_
                      rintro e w9 ⟨rfl, hb9⟩
                      exact ⟨rfl, hq.trans (hb9.mono hq.size)⟩)))
              try simp only [Act.put, List.setIfInBounds_toArray, List.set_cons_zero, List.set_cons_succ]
              go_big_quiet_on)))
      refine wpQuiet_nil ?_
      intro wz hq
      have HBZ := hidp (HB8.out.trans (hq.mono HB8.out.size))
      clear hq
      go_wp2
      go_ret
      exact ⟨rfl, HBZ.out⟩
    · rw [hgr] at HNHY
      have HV2 := hidp (And.intro V hloc)
      have HBT : Hid (bulk (h' + 1) (ofBT h' (toBT h' (n + 1) t)) ≤ 10000000) := hidp (by
        have h1 := ofBT_bulk (mn := D - 1) (by omega) h' 1 _ (Nat.le_refl _) V.ok
        rw [V.all] at h1
        omega)
      clear hgr V hloc
      go_region_held3 (fun w' => w'.cell? ⟨w7.heap.size + 1, 0, none⟩ = some (.slice a1 a2 a3) ∧ w'.cell? ⟨w7.heap.size + 1, 1, none⟩ = some (.slice p1 p2 p3) ∧ w'.cell? ⟨w7.heap.size + 1, 2, none⟩ = some (.int .i64 c') ∧ w'.cell? ⟨w.heap.size, 0, none⟩ = some (.slice i1 i2 icap) ∧ w'.cell? ⟨w.heap.size, 1, none⟩ = some (.slice q1 q2 kcap) ∧ w'.cell? ⟨w.heap.size, 2, none⟩ = some (.int .i64 c)) (go_keep)
        ((first
          | (go_at_call 16
             refine (HNHY.out _ HB9.out).mono ?_
             rintro e w10 ⟨rfl, hb10⟩
             have HB10 := hidp (HB9.out.trans (hb10.mono HB9.out.size))
             have HX10 := hidp (Bx.below HX9.out hb10 (HX9.out).1)
             have HY10 := hidp (Bx.below HY9.out hb10 (HY9.out).1)
             have p100 := HX10.out.cell 0 rfl
             have p101 := HX10.out.cell 1 rfl
             have p102 := HX10.out.cell 2 rfl
             have q100 := HY10.out.cell 0 rfl
             have q101 := HY10.out.cell 1 rfl
             have q102 := HY10.out.cell 2 rfl
             clear hb10)
          | (go_at_call 16
             refine (HNHX.out _ (Below.refl _ _).drew).mono ?_
             rintro e w9 ⟨rfl, hb9⟩
             have HB9 := hidp ((Below.refl w8.heap.size w8).drew.trans hb9)
             have HX9 := hidp (Bx.below HX8.out.drew hb9 (HX8.out.drew).1)
             have HY9 := hidp (Bx.below HY1.out.drew hb9 (HY1.out.drew).1)
             have p90 := HX9.out.cell 0 rfl
             have p91 := HX9.out.cell 1 rfl
             have p92 := HX9.out.cell 2 rfl
             have q90 := HY9.out.cell 0 rfl
             have q91 := HY9.out.cell 1 rfl
             have q92 := HY9.out.cell 2 rfl
             clear hb9)
          | (go_at_call 27
             refine (wc_is (n + 1) t (HN.out.below (HB8.out.trans (HB10.out.mono HB8.out.size))) (by omega)).mono ?_
             rintro e w11 ⟨v1, v2, v3, rfl, hq11, hb11⟩
             have HNC := hidp (retype h' (n + 1) t HV2.out.1.lev hq11.at)
             obtain ⟨⟨x1, x2, x3, rfl⟩, y1, y2, y3, rfl⟩ := hq11.vals
             have HB11 := hidp (HB10.out.trans (hb11.mono HB10.out.size))
             clear hq11
             have HX11 := hidp (Bx.below HX10.out hb11 (HX10.out).1)
             have HY11 := hidp (Bx.below HY10.out hb11 (HY10.out).1)
             have p110 := HX11.out.cell 0 rfl
             have p111 := HX11.out.cell 1 rfl
             have p112 := HX11.out.cell 2 rfl
             have q110 := HY11.out.cell 0 rfl
             have q111 := HY11.out.cell 1 rfl
             have q112 := HY11.out.cell 2 rfl
             clear hb11)
          | (go_at_call 26
             refine (local_is (h' + 1) _ _ HV2.out.2 HNC.out (HNY.out.below HB11.out) HBT.out HBK.out).mono ?_
             rintro e w12 ⟨rfl, hb12⟩
             have HB12 := hidp (HB11.out.trans (hb12.mono HB11.out.size))
             have HX12 := hidp (Bx.below HX11.out hb12 (HX11.out).1)
             have HY12 := hidp (Bx.below HY11.out hb12 (HY11.out).1)
             have p120 := HX12.out.cell 0 rfl
             have p121 := HX12.out.cell 1 rfl
             have p122 := HX12.out.cell 2 rfl
             have q120 := HY12.out.cell 0 rfl
             have q121 := HY12.out.cell 1 rfl
             have q122 := HY12.out.cell 2 rfl
             clear hb12)
          | (go_at_call 13
             refine (aliveD_is _).mono ?_
             rintro e w13 ⟨rfl, hb13⟩
             have HB13 := hidp (HB12.out.trans (hb13.mono HB12.out.size))
             have HX13 := hidp (Bx.below HX12.out hb13 (HX12.out).1)
             have HY13 := hidp (Bx.below HY12.out hb13 (HY12.out).1)
             have p130 := HX13.out.cell 0 rfl
             have p131 := HX13.out.cell 1 rfl
             have p132 := HX13.out.cell 2 rfl
             have q130 := HY13.out.cell 0 rfl
             have q131 := HY13.out.cell 1 rfl
             have q132 := HY13.out.cell 2 rfl
             clear hb13)))
      have HBZ := hidp (HB8.out.trans (HB13.out.mono HB8.out.size))
      go_wp2
      go_ret
      exact ⟨rfl, HBZ.out⟩
end Go.Proofs.Ytehnobbiiokcgaa.Bt.ND
