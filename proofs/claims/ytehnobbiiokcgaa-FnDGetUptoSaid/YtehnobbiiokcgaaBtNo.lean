/- Nodes as data: the tree of three items, and what the laws ask. -/
import Derived.Test.YtehnobbiiokcgaaBtNn
namespace Go.Proofs.Ytehnobbiiokcgaa.Bt.ND
set_option linter.unusedVariables false
set_option linter.unusedSimpArgs false
open Go Go.RowKit Go.Proofs.Ytehnobbiiokcgaa.Bt

def exT : DT 2 := ([(4, 1)], [([(2, 2)], [], 0), ([(6, 3)], [], 0)], 0)
theorem bx_at {w : World} {k : Nat} (h : w.heap.size = k) (c : List Value) (t : TypeId) : Bx (w.alloc (.cells c.toArray t)) k c := h ▸ Bx.new w c t
theorem its_one {w : World} {b : Nat} {x : Im} (h : Bx w b [.int .i64 x.1, .int .i64 x.2]) : Its w (.slice (some ⟨b, 0, none⟩) 1 1) [x] :=
  ⟨_, 1, rfl, Nat.le_refl _, fun j y hj => by
    cases j with
    | zero =>
      obtain rfl := Option.some.inj hj
      exact ⟨b, 0, rfl, h.cell 0 rfl, h.cell 1 rfl⟩
    | succ j => simp at hj⟩
theorem leaf_one {w : World} {b : Nat} {x : Im} (h : Bx w b [.int .i64 x.1, .int .i64 x.2]) : NodeAt w 1 ([x], [], 0) (.slice (some ⟨b, 0, none⟩) 1 1) (.slice none 0 0) 0 :=
  ⟨rfl, its_one h, none, 0, rfl, Nat.le_refl _, fun j k hj => by simp at hj⟩
set_option maxHeartbeats 2000000 in
/-- 'exNode' -/
theorem exNode_is (w : World) : Calls Try.prog 43 #[] w (fun e w' => ∃ vi vk, e = .returned (.agg #[vi, vk, .int .i64 0]) ∧ NodeAt w' 2 exT vi vk 0 ∧ Below w.heap.size w w') := by
  go_enter Try.func43, Try.ntmps43
  go_wp2
  refine bodyPost_ret (v := .agg #[.slice (some ⟨w.heap.size + 1, 0, none⟩) 1 1, .slice (some ⟨w.heap.size + 1 + 1 + 1 + 1, 0, none⟩) 2 2, .int .i64 0]) (by simp [results, Try.results43, go_sem]) rfl ?_
  have b1 := (((bx_at (w := w.alloc (.cells #[.slice (some ⟨w.heap.size + 1, 0, none⟩) 1 1, .slice (some ⟨w.heap.size + 1 + 1 + 1 + 1, 0, none⟩) 2 2, .int .i64 0] 25)) (k := w.heap.size + 1) (by simp) [.int .i64 4, .int .i64 1] 35).alloc (.cells #[.int .i64 2, .int .i64 2] 35)).alloc (.cells #[.int .i64 6, .int .i64 3] 35)).alloc (.cells #[.slice (some ⟨w.heap.size + 1 + 1, 0, none⟩) 1 1, .slice none 0 0, .int .i64 0, .slice (some ⟨w.heap.size + 1 + 1 + 1, 0, none⟩) 1 1, .slice none 0 0, .int .i64 0] 25)
  have b2 := ((bx_at (w := (w.alloc (.cells #[.slice (some ⟨w.heap.size + 1, 0, none⟩) 1 1, .slice (some ⟨w.heap.size + 1 + 1 + 1 + 1, 0, none⟩) 2 2, .int .i64 0] 25)).alloc (.cells #[.int .i64 4, .int .i64 1] 35)) (k := w.heap.size + 1 + 1) (by simp) [.int .i64 2, .int .i64 2] 35).alloc (.cells #[.int .i64 6, .int .i64 3] 35)).alloc (.cells #[.slice (some ⟨w.heap.size + 1 + 1, 0, none⟩) 1 1, .slice none 0 0, .int .i64 0, .slice (some ⟨w.heap.size + 1 + 1 + 1, 0, none⟩) 1 1, .slice none 0 0, .int .i64 0] 25)
  have b3 := (bx_at (w := ((w.alloc (.cells #[.slice (some ⟨w.heap.size + 1, 0, none⟩) 1 1, .slice (some ⟨w.heap.size + 1 + 1 + 1 + 1, 0, none⟩) 2 2, .int .i64 0] 25)).alloc (.cells #[.int .i64 4, .int .i64 1] 35)).alloc (.cells #[.int .i64 2, .int .i64 2] 35)) (k := w.heap.size + 1 + 1 + 1) (by simp) [.int .i64 6, .int .i64 3] 35).alloc (.cells #[.slice (some ⟨w.heap.size + 1 + 1, 0, none⟩) 1 1, .slice none 0 0, .int .i64 0, .slice (some ⟨w.heap.size + 1 + 1 + 1, 0, none⟩) 1 1, .slice none 0 0, .int .i64 0] 25)
  have b4 := bx_at (w := (((w.alloc (.cells #[.slice (some ⟨w.heap.size + 1, 0, none⟩) 1 1, .slice (some ⟨w.heap.size + 1 + 1 + 1 + 1, 0, none⟩) 2 2, .int .i64 0] 25)).alloc (.cells #[.int .i64 4, .int .i64 1] 35)).alloc (.cells #[.int .i64 2, .int .i64 2] 35)).alloc (.cells #[.int .i64 6, .int .i64 3] 35)) (k := w.heap.size + 1 + 1 + 1 + 1) (by simp) [.slice (some ⟨w.heap.size + 1 + 1, 0, none⟩) 1 1, .slice none 0 0, .int .i64 0, .slice (some ⟨w.heap.size + 1 + 1 + 1, 0, none⟩) 1 1, .slice none 0 0, .int .i64 0] 25
  refine ⟨_, _, rfl, ⟨rfl, its_one (x := (4, 1)) b1, _, 2, rfl, Nat.le_refl _, fun j k hj => ?_⟩, ?_⟩
  · match j, hj with
    | 0, hj =>
      obtain rfl := Option.some.inj hj
      exact ⟨_, 0, _, _, 0, rfl, b4.cell 0 rfl, b4.cell 1 rfl, b4.cell 2 rfl, leaf_one (x := (2, 2)) b2⟩
    | 1, hj =>
      obtain rfl := Option.some.inj hj
      exact ⟨_, 0, _, _, 0, rfl, b4.cell 3 rfl, b4.cell 4 rfl, b4.cell 5 rfl, leaf_one (x := (6, 3)) b3⟩
    | j + 2, hj => simp [exT] at hj
  · exact ((((((Below.refl _ _).alloc (Nat.le_refl _) _).alloc (by simp) _).alloc (by simp; omega) _).alloc (by simp; omega) _).alloc (by simp; omega) _)

set_option maxHeartbeats 2000000 in
set_option maxRecDepth 100000 in
/-- 'aliveD' -/
theorem aliveD_is (w : World) : Calls Try.prog 13 #[] w (fun e w' => e = .returned (.bool true) ∧ Below w.heap.size w w') := by
  have HX := hidp (exNode_is w)
  go_enter Try.func13, Try.ntmps13
  go_wp2_with fail
  refine HX.out.mono ?_
  rintro e w2 ⟨vi, vk, rfl, hN, hb2⟩
  have HK := hidp (dkv_is (D := 2) (by decide) (by decide) (t := exT) (by decide) hN (by decide))
  have HB2 := hidp hb2
  clear hN hb2 HX
  go_wp2_with fail
  refine HK.out.mono ?_
  rintro e w3 ⟨u, v, rfl, hrows, hb3⟩
  have HB3 := hidp (HB2.out.trans (hb3.mono HB2.out.size))
  obtain ⟨g1, g2, r1, r2, _, _, _⟩ := hrows
  obtain ⟨ua, uc, rfl⟩ := r1.len
  obtain ⟨va, vc, rfl⟩ := r2.len
  have e1 : (dAll 2 exT).length = 3 := by decide
  have e2 : hgt exT = 2 := by decide
  have e3 : (II.kv (dAll 2 exT)).length = 3 := by decide
  have e4 : (II.vv (dAll 2 exT)).length = 3 := by decide
  clear r1 r2 hb3 HK HB2
  rw [e1, e2, e3, e4]
  go_wp2
  go_ret
  exact ⟨rfl, HB3.out⟩

/-- 'zzFits3' -/
theorem fits3_is {n : Nat} {t : DT (n + 1)} {w : World} {vi vk : Value} {c : Int} (hN : NodeAt w (n + 1) t vi vk c) (hb : bulk (n + 1) t ≤ 10000000) :
    Calls Try.prog 11 #[.agg #[vi, vk, .int .i64 c]] w (fun e w' => e = .returned (.bool true) ∧ Below w.heap.size w w') := by
  obtain ⟨hc, ⟨ia, icap, rfl, _, hi⟩, a, cap, rfl, hlc, hk⟩ := hN
  have hkl := Nat.le_trans (kids_len t (fun k _ => bulk_pos' k)) hb
  have hil : t.1.length ≤ 10000000 := by have : t.1.length ≤ bulk (n + 1) t := (by show t.1.length ≤ 1 + t.1.length + (t.2.1.map (bulk n)).sum; omega); omega
  have HB := hidp ((Below.refl w.heap.size w).alloc (Nat.le_refl _) (.cells #[.slice ia t.1.length icap, .slice a t.2.1.length cap, .int .i64 c] 25))
  have h1 : ¬ (2147483647 : Int) < (t.1.length : Int) := by omega
  have h2 : ¬ (2147483647 : Int) < (t.2.1.length : Int) := by omega
  clear hc hi hk hkl hil hlc
  go_enter Try.func11, Try.ntmps11
  go_wp2
  go_ret
  exact ⟨rfl, HB.out⟩
/-- 'NodeHeight' -/
theorem nodeHeight_is {n : Nat} {t : DT (n + 1)} {w : World} {vi vk : Value} {c : Int} (hN : NodeAt w (n + 1) t vi vk c) (hb : bulk (n + 1) t ≤ 10000000) :
    Calls Try.prog 16 #[.agg #[vi, vk, .int .i64 c]] w (fun e w' => e = .returned (.int .i64 (hgt t : Nat)) ∧ Below w.heap.size w w') := by
  obtain ⟨p, hp⟩ : ∃ p, p = t.1.length := ⟨_, rfl⟩
  obtain ⟨ia, icap, hvi⟩ : ∃ ia icap, vi = .slice ia p icap := by
    obtain ⟨hcx, ⟨ia, icap, hvi, _, _⟩, _⟩ := hN
    exact ⟨ia, icap, by rw [hp]; exact hvi⟩
  obtain ⟨_, q1, q2, q3, rfl⟩ := hN.vals
  subst hvi
  have hB1 := (Below.refl w.heap.size w).alloc (Nat.le_refl _) (.cells #[.slice ia p icap, .slice q1 q2 q3, .int .i64 c] 25)
  have HB1 := hidp hB1
  have HL := hidp (levels_is (n + 1) t (hN.below hB1) hb)
  have hsz : (w.alloc (.cells #[.slice ia p icap, .slice q1 q2 q3, .int .i64 c] 25)).heap.size = w.heap.size + 1 := by simp
  unfold hgt
  by_cases h0 : p = 0
  · rw [if_pos (by omega)]
    subst h0
    clear hB1 hp hN HL
    go_enter Try.func16, Try.ntmps16
    go_wp2
    go_ret
    exact ⟨rfl, HB1.out⟩
  · rw [if_neg (by omega)]
    have h1 : ¬ (p : Int) = 0 := by omega
    clear hB1 hp hN
    go_enter Try.func16, Try.ntmps16
    go_wp2_with fail
    refine HL.out.mono ?_
    rintro e w2 ⟨rfl, hb2⟩
    have HB2 := hidp (HB1.out.trans (hb2.mono (by rw [hsz]; omega)))
    clear hb2 HL
    go_wp2
    go_ret
    exact ⟨rfl, HB2.out⟩
/-- 'validD' -/
theorem validD_is (d : Int) {n : Nat} {t : DT (n + 1)} {w : World} {vi vk : Value} {c : Int} (hN : NodeAt w (n + 1) t vi vk c) (hb : bulk (n + 1) t ≤ 10000000) :
    Calls Try.prog 12 #[.int .i64 d, .agg #[vi, vk, .int .i64 c]] w (fun e w' => e = .returned (.bool (decide (2 ≤ d ∧ d ≤ 128) && validB d.toNat (n + 1) t)) ∧ Below w.heap.size w w') := by
  obtain ⟨⟨i1, i2, icap, rfl⟩, q1, q2, kcap, rfl⟩ := hN.vals
  have hB1 := (Below.refl w.heap.size w).alloc (Nat.le_refl _) (.cells #[.slice i1 i2 icap, .slice q1 q2 kcap, .int .i64 c] 25)
  have HB1 := hidp hB1
  have hsz : (w.alloc (.cells #[.slice i1 i2 icap, .slice q1 q2 kcap, .int .i64 c] 25)).heap.size = w.heap.size + 1 := by simp
  have HF := hidp (fit_is (w.alloc (.cells #[.slice i1 i2 icap, .slice q1 q2 kcap, .int .i64 c] 25)) d)
  have HN := hidp (hN.below hB1)
  clear hB1 hN
  by_cases hd : 2 ≤ d ∧ d ≤ 128
  · obtain ⟨D, rfl⟩ : ∃ D : Nat, d = (D : Int) := ⟨d.toNat, by omega⟩
    rw [decide_eq_true hd] at HF ⊢
    have HV := hidp (valid_is (D := D) (by omega) (by omega) HN.out hb)
    clear hd HN
    go_enter Try.func12, Try.ntmps12
    go_wp2_with fail
    refine HF.out.mono ?_
    rintro e w2 ⟨rfl, rfl⟩
    go_wp2_with fail
    refine HV.out.mono ?_
    rintro e w3 ⟨rfl, hb3⟩
    have HB3 := hidp (HB1.out.trans (hb3.mono (by rw [hsz]; omega)))
    clear hb3 HV HF
    go_wp2
    go_ret
    exact ⟨by simp, HB3.out⟩
  · rw [decide_eq_false hd] at HF ⊢
    clear hd HN
    go_enter Try.func12, Try.ntmps12
    go_wp2_with fail
    refine HF.out.mono ?_
    rintro e w2 ⟨rfl, rfl⟩
    go_wp2
    go_ret
    exact ⟨rfl, HB1.out⟩
end Go.Proofs.Ytehnobbiiokcgaa.Bt.ND
