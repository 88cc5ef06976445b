/- The reference: Ends, Local. -/
import Derived.Test.YtehnobbiiokcgaaBtOd
import Derived.Deep.DeepCutAuto
namespace Go.Proofs.Ytehnobbiiokcgaa.Bt.ND
set_option linter.unusedVariables false
set_option linter.unusedSimpArgs false
open Go Go.RowKit Go.Proofs.Ytehnobbiiokcgaa.Bt

/-- i: how many are the same from the first one on; k: of the others, from the last one back. -/
structure EndsR {α : Type} (f : α → α → Bool) (A B : List α) (i k : Nat) : Prop where
  le : i ≤ min A.length B.length
  front : ∀ q x y, q < i → A[q]? = some x → B[q]? = some y → f x y = true
  stop : i = min A.length B.length ∨ ∀ x y, A[i]? = some x → B[i]? = some y → f x y = false
  le2 : i + k ≤ min A.length B.length
  back : ∀ q x y, q < k → A[A.length - 1 - q]? = some x → B[B.length - 1 - q]? = some y → f x y = true
  stop2 : i + k = min A.length B.length ∨ ∀ x y, A[A.length - 1 - k]? = some x → B[B.length - 1 - k]? = some y → f x y = false

set_option maxHeartbeats 4000000 in
set_option maxRecDepth 100000 in
/-- 'Ends' -/
theorem ends_is {n : Nat} (a b : DT (n + 1)) {w : World} {ai ak bi bk : Value} {ac bc : Int} (hA : NodeAt w (n + 1) a ai ak ac) (hB : NodeAt w (n + 1) b bi bk bc) (hb : bulk (n + 1) a ≤ 10000000) (hlb : b.2.1.length ≤ 10000000) :
    Calls Try.prog 64 #[.agg #[ai, ak, .int .i64 ac], .agg #[bi, bk, .int .i64 bc]] w (fun e w' => ∃ i k : Nat, e = .returned (.tuple #[.int .i64 i, .int .i64 k]) ∧ EndsR (deq n) a.2.1 b.2.1 i k ∧ Below w.heap.size w w') := by
  obtain ⟨⟨i1, i2, icap, rfl⟩, _⟩ := hA.vals
  obtain ⟨⟨j1, j2, jcap, rfl⟩, _⟩ := hB.vals
  have hkl := Nat.le_trans (kids_len a (fun k _ => bulk_pos' k)) hb
  have hbk : ∀ (j : Nat) (k : DT n), a.2.1[j]? = some k → bulk n k ≤ 10000000 := fun j k hk => by have := bulk_kid (t := a) hk; omega
  obtain ⟨hz1, _, aa, acap, rfl, hac, hka⟩ := hA
  obtain ⟨hz2, _, ba, bcap, rfl, hbc, hkb⟩ := hB
  clear hz1 hz2
  obtain ⟨p1, hp1⟩ : ∃ p, a.2.1.length = p := ⟨_, rfl⟩
  obtain ⟨p2, hp2⟩ : ∃ p, b.2.1.length = p := ⟨_, rfl⟩
  have HP := hidp (And.intro hp1 hp2)
  rw [hp1, hp2]
  rw [hp1] at hkl
  rw [hp2] at hlb
  obtain ⟨w1, hw1⟩ : ∃ w1, w1 = (w.alloc (.cells #[.slice i1 i2 icap, .slice aa p1 acap, .int .i64 ac] 25)).alloc (.cells #[.slice j1 j2 jcap, .slice ba p2 bcap, .int .i64 bc] 25) := ⟨_, rfl⟩
  have hsz1 : w1.heap.size = w.heap.size + 2 := by rw [hw1]; simp
  have hB1 : Below w.heap.size w w1 := by rw [hw1]; exact ((Below.refl _ _).alloc (Nat.le_refl _) _).alloc (by rw [World.size_alloc]; omega) _
  have hx0 : Bx w1 w.heap.size [.slice i1 i2 icap, .slice aa p1 acap, .int .i64 ac] := by rw [hw1]; exact (Bx.new w [.slice i1 i2 icap, .slice aa p1 acap, .int .i64 ac] 25).alloc _
  have hx1 : Bx w1 (w.heap.size + 1) [.slice j1 j2 jcap, .slice ba p2 bcap, .int .i64 bc] := by
    rw [hw1]
    have h := Bx.new (w.alloc (.cells #[.slice i1 i2 icap, .slice aa p1 acap, .int .i64 ac] 25)) [.slice j1 j2 jcap, .slice ba p2 bcap, .int .i64 bc] 25
    rw [World.size_alloc] at h
    exact h
  have HKA : Hid (∀ j k, a.2.1[j]? = some k → ∃ b off vi vk c, aa = some ⟨b, off, none⟩ ∧ b < w1.heap.size ∧ w1.cell? ⟨b, off + j * 3, none⟩ = some vi ∧ w1.cell? ⟨b, off + j * 3 + 1, none⟩ = some vk ∧ w1.cell? ⟨b, off + j * 3 + 2, none⟩ = some (.int .i64 c) ∧ NodeAt w1 n k vi vk c) := hidp fun j k hj => by
    obtain ⟨b, off, vi', vk', c', e, g1, g2, g3, g4⟩ := hka j k hj
    have hbl : b < w.heap.size := World.block_lt_of_cell? w _ g1
    exact ⟨b, off, vi', vk', c', e, by omega, (hB1.cell (p := ⟨b, off + j * 3, none⟩) hbl).trans g1, (hB1.cell (p := ⟨b, off + j * 3 + 1, none⟩) hbl).trans g2, (hB1.cell (p := ⟨b, off + j * 3 + 2, none⟩) hbl).trans g3, g4.below hB1⟩
  have HKB : Hid (∀ j k, b.2.1[j]? = some k → ∃ b off vi vk c, ba = some ⟨b, off, none⟩ ∧ b < w1.heap.size ∧ w1.cell? ⟨b, off + j * 3, none⟩ = some vi ∧ w1.cell? ⟨b, off + j * 3 + 1, none⟩ = some vk ∧ w1.cell? ⟨b, off + j * 3 + 2, none⟩ = some (.int .i64 c) ∧ NodeAt w1 n k vi vk c) := hidp fun j k hj => by
    obtain ⟨b, off, vi', vk', c', e, g1, g2, g3, g4⟩ := hkb j k hj
    have hbl : b < w.heap.size := World.block_lt_of_cell? w _ g1
    exact ⟨b, off, vi', vk', c', e, by omega, (hB1.cell (p := ⟨b, off + j * 3, none⟩) hbl).trans g1, (hB1.cell (p := ⟨b, off + j * 3 + 1, none⟩) hbl).trans g2, (hB1.cell (p := ⟨b, off + j * 3 + 2, none⟩) hbl).trans g3, g4.below hB1⟩
  have HBK := hidp hbk
  have HX0 := hidp hx0
  have HX1 := hidp hx1
  have HB1 := hidp hB1
  have x1 := hx0.cell 1 rfl
  have y1 := hx1.cell 1 rfl
  rw [hw1] at x1 y1
  have HW1 := hidp hw1
  have hsl0 : w.heap.size < w1.heap.size := by omega
  have hsl1 : w.heap.size + 1 < w1.heap.size := by omega
  obtain ⟨L, hL⟩ : ∃ L, L = min p1 p2 := ⟨_, rfl⟩
  have HL : Hid (L ≤ p1 ∧ L ≤ p2 ∧ L = min p1 p2) := hidp (by omega)
  have hmin : min (p1 : Int) (p2 : Int) = (L : Int) := by omega
  have hLb : L ≤ 10000000 := by omega
  clear hka hkb hbk hx0 hx1 hB1 hw1 hsz1 hac hbc
  have hfin : ∀ (i k : Nat), (i ≤ L ∧ (∀ q x y, q < i → a.2.1[q]? = some x → b.2.1[q]? = some y → deq n x y = true) ∧ (i = L ∨ ∀ x y, a.2.1[i]? = some x → b.2.1[i]? = some y → deq n x y = false) ∧ i + k ≤ L ∧ (∀ q x y, q < k → a.2.1[p1 - 1 - q]? = some x → b.2.1[p2 - 1 - q]? = some y → deq n x y = true) ∧ (i + k = L ∨ ∀ x y, a.2.1[p1 - 1 - k]? = some x → b.2.1[p2 - 1 - k]? = some y → deq n x y = false)) → EndsR (deq n) a.2.1 b.2.1 i k := fun i k h => by
    have e : min a.2.1.length b.2.1.length = L := by rw [hp1, hp2]; exact hL.symm
    refine ⟨by rw [e]; exact h.1, h.2.1, by rw [e]; exact h.2.2.1, by rw [e]; exact h.2.2.2.1, ?_, ?_⟩
    · rw [hp1, hp2]; exact h.2.2.2.2.1
    · rw [e, hp1, hp2]; exact h.2.2.2.2.2
  suffices hmain : Calls Try.prog 64 #[.agg #[.slice i1 i2 icap, .slice aa p1 acap, .int .i64 ac], .agg #[.slice j1 j2 jcap, .slice ba p2 bcap, .int .i64 bc]] w (fun e w' => ∃ i k : Nat, e = .returned (.tuple #[.int .i64 i, .int .i64 k]) ∧ (i ≤ L ∧ (∀ q x y, q < i → a.2.1[q]? = some x → b.2.1[q]? = some y → deq n x y = true) ∧ (i = L ∨ ∀ x y, a.2.1[i]? = some x → b.2.1[i]? = some y → deq n x y = false) ∧ i + k ≤ L ∧ (∀ q x y, q < k → a.2.1[p1 - 1 - q]? = some x → b.2.1[p2 - 1 - q]? = some y → deq n x y = true) ∧ (i + k = L ∨ ∀ x y, a.2.1[p1 - 1 - k]? = some x → b.2.1[p2 - 1 - k]? = some y → deq n x y = false)) ∧ Below w.heap.size w w') from hmain.mono fun e w' ⟨i, k, h1, h2, h3⟩ => ⟨i, k, h1, hfin i k h2, h3⟩
  clear hfin hp1 hp2 hL
  go_enter Try.func64, Try.ntmps64
  go_upto_region 1 with (fail)
  go_cut [6] from 9 to 15 (fun u wx => u = .int .i64 (L : Int) ∧ wx = w1)
  case first =>
    go_wp2_with fail
    all_goals go_meet
    all_goals exact ⟨by have := HL.out.2.2; congr 1; omega, HW1.out.symm⟩
  case rest =>
   obtain ⟨rfl, hwc⟩ := hcut
   rw [hwc]
   clear hwc
   clear x1 y1
   go_wp2
   go_loopw [7] (fun i wr => ∃ j : Nat, j ≤ L ∧ i = .int .i64 j ∧ Hid (∀ q x y, q < j → a.2.1[q]? = some x → b.2.1[q]? = some y → deq n x y = true) ∧ Hid (Below w1.heap.size w1 wr)) (fun i _ => L - (intOf i).toNat)
   case atStart => exact ⟨0, Nat.zero_le _, by first | rfl | simp, hidp (fun q x y hq => by omega), hidp (Below.refl _ _)⟩
   case round =>
     obtain ⟨j, hj, rfl, HQ, HBR⟩ := hrel
     by_cases hlt : j < L
     · have jlt : (j : Int) < (L : Int) := by omega
       have jlt1 : (j : Int) < (p1 : Int) := by have := HL.out; omega
       have jlt2 : (j : Int) < (p2 : Int) := by have := HL.out; omega
       obtain ⟨ka, hka⟩ : ∃ k, a.2.1[j]? = some k := ⟨a.2.1[j]'(by rw [HP.out.1]; have := HL.out; omega), List.getElem?_eq_getElem _⟩
       obtain ⟨kb, hkb⟩ : ∃ k, b.2.1[j]? = some k := ⟨b.2.1[j]'(by rw [HP.out.2]; have := HL.out; omega), List.getElem?_eq_getElem _⟩
       obtain ⟨ab, aoff, avi, avk, avc, HAA, habl, g1, g2, g3, hna⟩ := HKA.out j ka hka
       obtain ⟨bb, boff, bvi, bvk, bvc, HBB, hbbl, h1, h2, h3, hnb⟩ := HKB.out j kb hkb
       obtain ⟨⟨m1, m2, m3, rfl⟩, m4, m5, m6, rfl⟩ := hna.vals
       obtain ⟨⟨o1, o2, o3, rfl⟩, o4, o5, o6, rfl⟩ := hnb.vals
       have HC : Hid (∀ w', Below w1.heap.size w1 w' → Calls Try.prog 22 #[.agg #[.slice m1 m2 m3, .slice m4 m5 m6, .int .i64 avc], .agg #[.slice o1 o2 o3, .slice o4 o5 o6, .int .i64 bvc]] w' (fun e w2 => e = .returned (.bool (deq n ka kb)) ∧ Below w'.heap.size w' w2)) := hidp fun w' hw' => same_is n ka kb (hna.below hw') (hnb.below hw') (HBK.out j ka hka)
       have HKK := hidp (And.intro hka hkb)
       have HG := hidp (And.intro g1 (And.intro g2 (And.intro g3 (And.intro h1 (And.intro h2 h3)))))
       clear hka hkb hna hnb g1 g2 g3 h1 h2 h3
       cases hd : deq n ka kb with
       | true =>
         rw [hd] at HC
         go_wp2_with fail
         refine region_class (C := fun w' => Below w1.heap.size w1 w') (by kernel_rfl) (by kernel_rfl) (HBR.out.drew) ?_
         repeat (first
           | go_big_quiet_skip
           | (go_big_quiet_want
              first
              | (go_big_quiet_op; go_big_quiet_on)
              | (apply Exists.intro
                 refine ⟨fun wq hq => ?_, ?_⟩
                 (have q0 := (hq.cell (p := ⟨w.heap.size, 1, none⟩) hsl0).trans (HX0.out.cell 1 rfl)
                  have q1 := (hq.cell (p := ⟨w.heap.size + 1, 1, none⟩) hsl1).trans (HX1.out.cell 1 rfl)
                  rw [HAA] at q0
                  rw [HBB] at q1
                  have q2 := (hq.cell (p := ⟨ab, aoff + j * 3, none⟩) habl).trans HG.out.1
                  have q3 := (hq.cell (p := ⟨ab, aoff + j * 3 + 1, none⟩) habl).trans HG.out.2.1
                  have q4 := (hq.cell (p := ⟨ab, aoff + j * 3 + 2, none⟩) habl).trans HG.out.2.2.1
                  have q5 := (hq.cell (p := ⟨bb, boff + j * 3, none⟩) hbbl).trans HG.out.2.2.2.1
                  have q6 := (hq.cell (p := ⟨bb, boff + j * 3 + 1, none⟩) hbbl).trans HG.out.2.2.2.2.1
                  have q7 := (hq.cell (p := ⟨bb, boff + j * 3 + 2, none⟩) hbbl).trans HG.out.2.2.2.2.2
                  unfold Oper.quietAt
                  first
                  | (go_simp; done)
                  | (go_simp; with_reducible rfl)
                  | (go_simp
                     go_at_call 22
                     refine (HC.out wq hq).mono ?_
                     rintro e w3 ⟨rfl, hb3⟩
                     exact ⟨rfl, hq.trans (hb3.mono hq.size)⟩))
                 try simp only [Act.put, List.setIfInBounds_toArray, List.set_cons_zero, List.set_cons_succ]
                 go_big_quiet_on)))
         refine wpQuiet_nil ?_
         intro wz hq
         have HBZ := hidp hq
         clear hq
         go_wp2
         go_roundw
         case rel => exact ⟨j + 1, by omega, by go_num, hidp (fun q x y hq hx hy => by
           by_cases hqj : q = j
           · subst hqj
             rw [HKK.out.1] at hx
             rw [HKK.out.2] at hy
             obtain rfl := Option.some.inj hx
             obtain rfl := Option.some.inj hy
             exact hd
           · exact HQ.out q x y (by omega) hx hy), HBZ⟩
         case measure => simp [intOf]; omega
       | false =>
         rw [hd] at HC
         go_wp2_with fail
         refine region_class (C := fun w' => Below w1.heap.size w1 w') (by kernel_rfl) (by kernel_rfl) (HBR.out.drew) ?_
         repeat (first
           | go_big_quiet_skip
           | (go_big_quiet_want
              first
              | (go_big_quiet_op; go_big_quiet_on)
              | (apply Exists.intro
                 refine ⟨fun wq hq => ?_, ?_⟩
                 (have q0 := (hq.cell (p := ⟨w.heap.size, 1, none⟩) hsl0).trans (HX0.out.cell 1 rfl)
                  have q1 := (hq.cell (p := ⟨w.heap.size + 1, 1, none⟩) hsl1).trans (HX1.out.cell 1 rfl)
                  rw [HAA] at q0
                  rw [HBB] at q1
                  have q2 := (hq.cell (p := ⟨ab, aoff + j * 3, none⟩) habl).trans HG.out.1
                  have q3 := (hq.cell (p := ⟨ab, aoff + j * 3 + 1, none⟩) habl).trans HG.out.2.1
                  have q4 := (hq.cell (p := ⟨ab, aoff + j * 3 + 2, none⟩) habl).trans HG.out.2.2.1
                  have q5 := (hq.cell (p := ⟨bb, boff + j * 3, none⟩) hbbl).trans HG.out.2.2.2.1
                  have q6 := (hq.cell (p := ⟨bb, boff + j * 3 + 1, none⟩) hbbl).trans HG.out.2.2.2.2.1
                  have q7 := (hq.cell (p := ⟨bb, boff + j * 3 + 2, none⟩) hbbl).trans HG.out.2.2.2.2.2
                  unfold Oper.quietAt
                  first
                  | (go_simp; done)
                  | (go_simp; with_reducible rfl)
                  | (go_simp
                     go_at_call 22
                     refine (HC.out wq hq).mono ?_
                     rintro e w3 ⟨rfl, hb3⟩
                     exact ⟨rfl, hq.trans (hb3.mono hq.size)⟩))
                 try simp only [Act.put, List.setIfInBounds_toArray, List.set_cons_zero, List.set_cons_succ]
                 go_big_quiet_on)))
         refine wpQuiet_nil ?_
         intro wz hq
         have HBZ := hidp hq
         have HN1 : Hid (j ≤ L ∧ (∀ q x y, q < j → a.2.1[q]? = some x → b.2.1[q]? = some y → deq n x y = true) ∧ (j = L ∨ ∀ x y, a.2.1[j]? = some x → b.2.1[j]? = some y → deq n x y = false)) := hidp ⟨hj, HQ.out, .inr (fun x y hx hy => by
           rw [HKK.out.1] at hx
           rw [HKK.out.2] at hy
           obtain rfl := Option.some.inj hx
           obtain rfl := Option.some.inj hy
           exact hd)⟩
         clear hq hd HC HG HKK jlt jlt1 jlt2 HQ hlt
         generalize j = N at *
         go_wp2
         go_loopw [8] (fun i wr => ∃ k M : Nat, k ≤ M ∧ i = .int .i64 k ∧ Hid (N + M = L) ∧ Hid (∀ q x y, q < k → a.2.1[p1 - 1 - q]? = some x → b.2.1[p2 - 1 - q]? = some y → deq n x y = true) ∧ Hid (Below w1.heap.size w1 wr)) (fun i _ => L - (intOf i).toNat)
         case atStart => exact ⟨0, L - N, Nat.zero_le _, rfl, hidp (by have := HN1.out.1; omega), hidp (fun q x y hq => by omega), HBZ⟩
         case round =>
           obtain ⟨k, M, hk, rfl, HNM, HQ2, HBR2⟩ := hrel
           have HNK : Hid (N + k ≤ L ∧ (k = M → N + k = L)) := hidp (by have := HNM.out; omega)
           have hMb : M ≤ 10000000 := by have := HNM.out; omega
           have hwM : IntKind.i64.wrap ((L : Int) - (N : Int)) = (M : Int) := by have := HNM.out; rw [Last.i64_w, IntWalk.wrap64_in _ ⟨by omega, by omega⟩]; omega
           by_cases hlt2 : k < M
           · have klt : (k : Int) < (M : Int) := by omega
             have hkL : k < L := by have := HNM.out; omega
             obtain ⟨E1, HE1⟩ : ∃ E, Hid (E + 1 = p1) := ⟨p1 - 1, hidp (by have := HNM.out; have := HL.out; omega)⟩
             obtain ⟨E2, HE2⟩ : ∃ E, Hid (E + 1 = p2) := ⟨p2 - 1, hidp (by have := HNM.out; have := HL.out; omega)⟩
             obtain ⟨U1, HU1⟩ : ∃ U, Hid (U + k = E1) := ⟨E1 - k, hidp (by have := HE1.out; have := HNM.out; have := HL.out; omega)⟩
             obtain ⟨U2, HU2⟩ : ∃ U, Hid (U + k = E2) := ⟨E2 - k, hidp (by have := HE2.out; have := HNM.out; have := HL.out; omega)⟩
             have hwa : IntKind.i64.wrap ((p1 : Int) - 1) = (E1 : Int) := by have := HE1.out; rw [Last.i64_w, IntWalk.wrap64_in _ ⟨by omega, by omega⟩]; omega
             have hwb : IntKind.i64.wrap ((p2 : Int) - 1) = (E2 : Int) := by have := HE2.out; rw [Last.i64_w, IntWalk.wrap64_in _ ⟨by omega, by omega⟩]; omega
             have hwc : IntKind.i64.wrap ((E1 : Int) - (k : Int)) = (U1 : Int) := by have := HU1.out; have := HE1.out; rw [Last.i64_w, IntWalk.wrap64_in _ ⟨by omega, by omega⟩]; omega
             have hwd : IntKind.i64.wrap ((E2 : Int) - (k : Int)) = (U2 : Int) := by have := HU2.out; have := HE2.out; rw [Last.i64_w, IntWalk.wrap64_in _ ⟨by omega, by omega⟩]; omega
             have u1lt : (U1 : Int) < (p1 : Int) := by have := HU1.out; have := HE1.out; omega
             have u2lt : (U2 : Int) < (p2 : Int) := by have := HU2.out; have := HE2.out; omega
             have HI1 : Hid (p1 - 1 - k = U1 ∧ p2 - 1 - k = U2) := hidp (by have := HU1.out; have := HE1.out; have := HU2.out; have := HE2.out; omega)
             obtain ⟨ka, hka⟩ : ∃ k, a.2.1[U1]? = some k := ⟨a.2.1[U1]'(by rw [HP.out.1]; have := HU1.out; have := HE1.out; omega), List.getElem?_eq_getElem _⟩
             obtain ⟨kb, hkb⟩ : ∃ k, b.2.1[U2]? = some k := ⟨b.2.1[U2]'(by rw [HP.out.2]; have := HU2.out; have := HE2.out; omega), List.getElem?_eq_getElem _⟩
             obtain ⟨ab, aoff, avi, avk, avc, HAA, habl, g1, g2, g3, hna⟩ := HKA.out U1 ka hka
             obtain ⟨bb, boff, bvi, bvk, bvc, HBB, hbbl, h1, h2, h3, hnb⟩ := HKB.out U2 kb hkb
             obtain ⟨⟨m1, m2, m3, rfl⟩, m4, m5, m6, rfl⟩ := hna.vals
             obtain ⟨⟨o1, o2, o3, rfl⟩, o4, o5, o6, rfl⟩ := hnb.vals
             have HC : Hid (∀ w', Below w1.heap.size w1 w' → Calls Try.prog 22 #[.agg #[.slice m1 m2 m3, .slice m4 m5 m6, .int .i64 avc], .agg #[.slice o1 o2 o3, .slice o4 o5 o6, .int .i64 bvc]] w' (fun e w2 => e = .returned (.bool (deq n ka kb)) ∧ Below w'.heap.size w' w2)) := hidp fun w' hw' => same_is n ka kb (hna.below hw') (hnb.below hw') (HBK.out U1 ka hka)
             have HKK := hidp (And.intro hka hkb)
             have HG := hidp (And.intro g1 (And.intro g2 (And.intro g3 (And.intro h1 (And.intro h2 h3)))))
             clear hka hkb hna hnb g1 g2 g3 h1 h2 h3
             cases hd : deq n ka kb with
             | true =>
               rw [hd] at HC
               go_wp2_with fail
               refine region_class (C := fun w' => Below w1.heap.size w1 w') (by kernel_rfl) (by kernel_rfl) (HBR2.out.drew) ?_
               repeat (first
                 | go_big_quiet_skip
                 | (go_big_quiet_want
                    first
                    | (go_big_quiet_op; go_big_quiet_on)
                    | (apply Exists.intro
                       refine ⟨fun wq hq => ?_, ?_⟩
                       (have q0 := (hq.cell (p := ⟨w.heap.size, 1, none⟩) hsl0).trans (HX0.out.cell 1 rfl)
                        have q1 := (hq.cell (p := ⟨w.heap.size + 1, 1, none⟩) hsl1).trans (HX1.out.cell 1 rfl)
                        rw [HAA] at q0
                        rw [HBB] at q1
                        have q2 := (hq.cell (p := ⟨ab, aoff + U1 * 3, none⟩) habl).trans HG.out.1
                        have q3 := (hq.cell (p := ⟨ab, aoff + U1 * 3 + 1, none⟩) habl).trans HG.out.2.1
                        have q4 := (hq.cell (p := ⟨ab, aoff + U1 * 3 + 2, none⟩) habl).trans HG.out.2.2.1
                        have q5 := (hq.cell (p := ⟨bb, boff + U2 * 3, none⟩) hbbl).trans HG.out.2.2.2.1
                        have q6 := (hq.cell (p := ⟨bb, boff + U2 * 3 + 1, none⟩) hbbl).trans HG.out.2.2.2.2.1
                        have q7 := (hq.cell (p := ⟨bb, boff + U2 * 3 + 2, none⟩) hbbl).trans HG.out.2.2.2.2.2
                        unfold Oper.quietAt
                        first
                        | (go_simp; done)
                        | (go_simp; with_reducible rfl)
                        | (go_simp
                           go_at_call 22
                           refine (HC.out wq hq).mono ?_
                           rintro e w3 ⟨rfl, hb3⟩
                           exact ⟨rfl, hq.trans (hb3.mono hq.size)⟩))
                       try simp only [Act.put, List.setIfInBounds_toArray, List.set_cons_zero, List.set_cons_succ]
                       go_big_quiet_on)))
               refine wpQuiet_nil ?_
               intro wz hq
               have HBY := hidp hq
               clear hq
               go_wp2
               go_roundw
               case rel => exact ⟨k + 1, M, by omega, by go_num, HNM, hidp (fun q x y hq hx hy => by
                 by_cases hqk : q = k
                 · subst hqk
                   rw [HI1.out.1, HKK.out.1] at hx
                   rw [HI1.out.2, HKK.out.2] at hy
                   obtain rfl := Option.some.inj hx
                   obtain rfl := Option.some.inj hy
                   exact hd
                 · exact HQ2.out q x y (by omega) hx hy), HBY⟩
               case measure => simp [intOf]; omega
             | false =>
               rw [hd] at HC
               go_wp2_with fail
               refine region_class (C := fun w' => Below w1.heap.size w1 w') (by kernel_rfl) (by kernel_rfl) (HBR2.out.drew) ?_
               repeat (first
                 | go_big_quiet_skip
                 | (go_big_quiet_want
                    first
                    | (go_big_quiet_op; go_big_quiet_on)
                    | (apply Exists.intro
                       refine ⟨fun wq hq => ?_, ?_⟩
                       (have q0 := (hq.cell (p := ⟨w.heap.size, 1, none⟩) hsl0).trans (HX0.out.cell 1 rfl)
                        have q1 := (hq.cell (p := ⟨w.heap.size + 1, 1, none⟩) hsl1).trans (HX1.out.cell 1 rfl)
                        rw [HAA] at q0
                        rw [HBB] at q1
                        have q2 := (hq.cell (p := ⟨ab, aoff + U1 * 3, none⟩) habl).trans HG.out.1
                        have q3 := (hq.cell (p := ⟨ab, aoff + U1 * 3 + 1, none⟩) habl).trans HG.out.2.1
                        have q4 := (hq.cell (p := ⟨ab, aoff + U1 * 3 + 2, none⟩) habl).trans HG.out.2.2.1
                        have q5 := (hq.cell (p := ⟨bb, boff + U2 * 3, none⟩) hbbl).trans HG.out.2.2.2.1
                        have q6 := (hq.cell (p := ⟨bb, boff + U2 * 3 + 1, none⟩) hbbl).trans HG.out.2.2.2.2.1
                        have q7 := (hq.cell (p := ⟨bb, boff + U2 * 3 + 2, none⟩) hbbl).trans HG.out.2.2.2.2.2
                        unfold Oper.quietAt
                        first
                        | (go_simp; done)
                        | (go_simp; with_reducible rfl)
                        | (go_simp
                           go_at_call 22
                           refine (HC.out wq hq).mono ?_
                           rintro e w3 ⟨rfl, hb3⟩
                           exact ⟨rfl, hq.trans (hb3.mono hq.size)⟩))
                       try simp only [Act.put, List.setIfInBounds_toArray, List.set_cons_zero, List.set_cons_succ]
                       go_big_quiet_on)))
               refine wpQuiet_nil ?_
               intro wz hq
               have HBY := hidp hq
               clear hq
               go_wp2
               refine bodyPost_ret (v := .tuple #[.int .i64 N, .int .i64 k]) (by simp [results, Try.results64, go_sem]) rfl ?_
               exact ⟨N, k, rfl, ⟨HN1.out.1, HN1.out.2.1, HN1.out.2.2, HNK.out.1, HQ2.out, .inr (fun x y hx hy => by
                 rw [HI1.out.1, HKK.out.1] at hx
                 rw [HI1.out.2, HKK.out.2] at hy
                 obtain rfl := Option.some.inj hx
                 obtain rfl := Option.some.inj hy
                 exact hd)⟩, HB1.out.trans (HBY.out.mono HB1.out.size)⟩
           · obtain rfl : k = M := by omega
             have klt : ¬ (k : Int) < (k : Int) := by omega
             go_wp2_with fail
             go_quiet (fail)
             go_wp2
             refine bodyPost_ret (v := .tuple #[.int .i64 N, .int .i64 k]) (by simp [results, Try.results64, go_sem]) rfl ?_
             exact ⟨N, k, rfl, ⟨HN1.out.1, HN1.out.2.1, HN1.out.2.2, HNK.out.1, HQ2.out, .inl (HNK.out.2 trivial)⟩, HB1.out.trans ((Below.drewN HBR2.out _).mono HB1.out.size)⟩
     · have hjL : j = L := by omega
       have jlt : ¬ (j : Int) < (L : Int) := by omega
       have HN1 : Hid (j ≤ L ∧ (∀ q x y, q < j → a.2.1[q]? = some x → b.2.1[q]? = some y → deq n x y = true) ∧ (j = L ∨ ∀ x y, a.2.1[j]? = some x → b.2.1[j]? = some y → deq n x y = false)) := hidp ⟨hj, HQ.out, .inl hjL⟩
       clear hjL
       go_wp2_with fail
       go_quiet (fail)
       have HBZ := hidp (Below.drewN HBR.out nq)
       clear HQ jlt hlt
       generalize j = N at *
       go_wp2
       go_loopw [8] (fun i wr => ∃ k M : Nat, k ≤ M ∧ i = .int .i64 k ∧ Hid (N + M = L) ∧ Hid (∀ q x y, q < k → a.2.1[p1 - 1 - q]? = some x → b.2.1[p2 - 1 - q]? = some y → deq n x y = true) ∧ Hid (Below w1.heap.size w1 wr)) (fun i _ => L - (intOf i).toNat)
       case atStart => exact ⟨0, L - N, Nat.zero_le _, rfl, hidp (by have := HN1.out.1; omega), hidp (fun q x y hq => by omega), HBZ⟩
       case round =>
         obtain ⟨k, M, hk, rfl, HNM, HQ2, HBR2⟩ := hrel
         have HNK : Hid (N + k ≤ L ∧ (k = M → N + k = L)) := hidp (by have := HNM.out; omega)
         have hMb : M ≤ 10000000 := by have := HNM.out; omega
         have hwM : IntKind.i64.wrap ((L : Int) - (N : Int)) = (M : Int) := by have := HNM.out; rw [Last.i64_w, IntWalk.wrap64_in _ ⟨by omega, by omega⟩]; omega
         by_cases hlt2 : k < M
         · have klt : (k : Int) < (M : Int) := by omega
           have hkL : k < L := by have := HNM.out; omega
           obtain ⟨E1, HE1⟩ : ∃ E, Hid (E + 1 = p1) := ⟨p1 - 1, hidp (by have := HNM.out; have := HL.out; omega)⟩
           obtain ⟨E2, HE2⟩ : ∃ E, Hid (E + 1 = p2) := ⟨p2 - 1, hidp (by have := HNM.out; have := HL.out; omega)⟩
           obtain ⟨U1, HU1⟩ : ∃ U, Hid (U + k = E1) := ⟨E1 - k, hidp (by have := HE1.out; have := HNM.out; have := HL.out; omega)⟩
           obtain ⟨U2, HU2⟩ : ∃ U, Hid (U + k = E2) := ⟨E2 - k, hidp (by have := HE2.out; have := HNM.out; have := HL.out; omega)⟩
           have hwa : IntKind.i64.wrap ((p1 : Int) - 1) = (E1 : Int) := by have := HE1.out; rw [Last.i64_w, IntWalk.wrap64_in _ ⟨by omega, by omega⟩]; omega
           have hwb : IntKind.i64.wrap ((p2 : Int) - 1) = (E2 : Int) := by have := HE2.out; rw [Last.i64_w, IntWalk.wrap64_in _ ⟨by omega, by omega⟩]; omega
           have hwc : IntKind.i64.wrap ((E1 : Int) - (k : Int)) = (U1 : Int) := by have := HU1.out; have := HE1.out; rw [Last.i64_w, IntWalk.wrap64_in _ ⟨by omega, by omega⟩]; omega
           have hwd : IntKind.i64.wrap ((E2 : Int) - (k : Int)) = (U2 : Int) := by have := HU2.out; have := HE2.out; rw [Last.i64_w, IntWalk.wrap64_in _ ⟨by omega, by omega⟩]; omega
           have u1lt : (U1 : Int) < (p1 : Int) := by have := HU1.out; have := HE1.out; omega
           have u2lt : (U2 : Int) < (p2 : Int) := by have := HU2.out; have := HE2.out; omega
           have HI1 : Hid (p1 - 1 - k = U1 ∧ p2 - 1 - k = U2) := hidp (by have := HU1.out; have := HE1.out; have := HU2.out; have := HE2.out; omega)
           obtain ⟨ka, hka⟩ : ∃ k, a.2.1[U1]? = some k := ⟨a.2.1[U1]'(by rw [HP.out.1]; have := HU1.out; have := HE1.out; omega), List.getElem?_eq_getElem _⟩
           obtain ⟨kb, hkb⟩ : ∃ k, b.2.1[U2]? = some k := ⟨b.2.1[U2]'(by rw [HP.out.2]; have := HU2.out; have := HE2.out; omega), List.getElem?_eq_getElem _⟩
           obtain ⟨ab, aoff, avi, avk, avc, HAA, habl, g1, g2, g3, hna⟩ := HKA.out U1 ka hka
           obtain ⟨bb, boff, bvi, bvk, bvc, HBB, hbbl, h1, h2, h3, hnb⟩ := HKB.out U2 kb hkb
           obtain ⟨⟨m1, m2, m3, rfl⟩, m4, m5, m6, rfl⟩ := hna.vals
           obtain ⟨⟨o1, o2, o3, rfl⟩, o4, o5, o6, rfl⟩ := hnb.vals
           have HC : Hid (∀ w', Below w1.heap.size w1 w' → Calls Try.prog 22 #[.agg #[.slice m1 m2 m3, .slice m4 m5 m6, .int .i64 avc], .agg #[.slice o1 o2 o3, .slice o4 o5 o6, .int .i64 bvc]] w' (fun e w2 => e = .returned (.bool (deq n ka kb)) ∧ Below w'.heap.size w' w2)) := hidp fun w' hw' => same_is n ka kb (hna.below hw') (hnb.below hw') (HBK.out U1 ka hka)
           have HKK := hidp (And.intro hka hkb)
           have HG := hidp (And.intro g1 (And.intro g2 (And.intro g3 (And.intro h1 (And.intro h2 h3)))))
           clear hka hkb hna hnb g1 g2 g3 h1 h2 h3
           cases hd : deq n ka kb with
           | true =>
             rw [hd] at HC
             go_wp2_with fail
             refine region_class (C := fun w' => Below w1.heap.size w1 w') (by kernel_rfl) (by kernel_rfl) (HBR2.out.drew) ?_
             repeat (first
               | go_big_quiet_skip
               | (go_big_quiet_want
                  first
                  | (go_big_quiet_op; go_big_quiet_on)
                  | (apply Exists.intro
                     refine ⟨fun wq hq => ?_, ?_⟩
                     (have q0 := (hq.cell (p := ⟨w.heap.size, 1, none⟩) hsl0).trans (HX0.out.cell 1 rfl)
                      have q1 := (hq.cell (p := ⟨w.heap.size + 1, 1, none⟩) hsl1).trans (HX1.out.cell 1 rfl)
                      rw [HAA] at q0
                      rw [HBB] at q1
                      have q2 := (hq.cell (p := ⟨ab, aoff + U1 * 3, none⟩) habl).trans HG.out.1
                      have q3 := (hq.cell (p := ⟨ab, aoff + U1 * 3 + 1, none⟩) habl).trans HG.out.2.1
                      have q4 := (hq.cell (p := ⟨ab, aoff + U1 * 3 + 2, none⟩) habl).trans HG.out.2.2.1
                      have q5 := (hq.cell (p := ⟨bb, boff + U2 * 3, none⟩) hbbl).trans HG.out.2.2.2.1
                      have q6 := (hq.cell (p := ⟨bb, boff + U2 * 3 + 1, none⟩) hbbl).trans HG.out.2.2.2.2.1
                      have q7 := (hq.cell (p := ⟨bb, boff + U2 * 3 + 2, none⟩) hbbl).trans HG.out.2.2.2.2.2
                      unfold Oper.quietAt
                      first
                      | (go_simp; done)
                      | (go_simp; with_reducible rfl)
                      | (go_simp
                         go_at_call 22
                         refine (HC.out wq hq).mono ?_
                         rintro e w3 ⟨rfl, hb3⟩
                         exact ⟨rfl, hq.trans (hb3.mono hq.size)⟩))
                     try simp only [Act.put, List.setIfInBounds_toArray, List.set_cons_zero, List.set_cons_succ]
                     go_big_quiet_on)))
             refine wpQuiet_nil ?_
             intro wz hq
             have HBY := hidp hq
             clear hq
             go_wp2
             go_roundw
             case rel => exact ⟨k + 1, M, by omega, by go_num, HNM, hidp (fun q x y hq hx hy => by
               by_cases hqk : q = k
               · subst hqk
                 rw [HI1.out.1, HKK.out.1] at hx
                 rw [HI1.out.2, HKK.out.2] at hy
                 obtain rfl := Option.some.inj hx
                 obtain rfl := Option.some.inj hy
                 exact hd
               · exact HQ2.out q x y (by omega) hx hy), HBY⟩
             case measure => simp [intOf]; omega
           | false =>
             rw [hd] at HC
             go_wp2_with fail
             refine region_class (C := fun w' => Below w1.heap.size w1 w') (by kernel_rfl) (by kernel_rfl) (HBR2.out.drew) ?_
             repeat (first
               | go_big_quiet_skip
               | (go_big_quiet_want
                  first
                  | (go_big_quiet_op; go_big_quiet_on)
                  | (apply Exists.intro
                     refine ⟨fun wq hq => ?_, ?_⟩
                     (have q0 := (hq.cell (p := ⟨w.heap.size, 1, none⟩) hsl0).trans (HX0.out.cell 1 rfl)
                      have q1 := (hq.cell (p := ⟨w.heap.size + 1, 1, none⟩) hsl1).trans (HX1.out.cell 1 rfl)
                      rw [HAA] at q0
                      rw [HBB] at q1
                      have q2 := (hq.cell (p := ⟨ab, aoff + U1 * 3, none⟩) habl).trans HG.out.1
                      have q3 := (hq.cell (p := ⟨ab, aoff + U1 * 3 + 1, none⟩) habl).trans HG.out.2.1
                      have q4 := (hq.cell (p := ⟨ab, aoff + U1 * 3 + 2, none⟩) habl).trans HG.out.2.2.1
                      have q5 := (hq.cell (p := ⟨bb, boff + U2 * 3, none⟩) hbbl).trans HG.out.2.2.2.1
                      have q6 := (hq.cell (p := ⟨bb, boff + U2 * 3 + 1, none⟩) hbbl).trans HG.out.2.2.2.2.1
                      have q7 := (hq.cell (p := ⟨bb, boff + U2 * 3 + 2, none⟩) hbbl).trans HG.out.2.2.2.2.2
                      unfold Oper.quietAt
                      first
                      | (go_simp; done)
                      | (go_simp; with_reducible rfl)
                      | (go_simp
                         go_at_call 22
                         refine (HC.out wq hq).mono ?_
                         rintro e w3 ⟨rfl, hb3⟩
                         exact ⟨rfl, hq.trans (hb3.mono hq.size)⟩))
                     try simp only [Act.put, List.setIfInBounds_toArray, List.set_cons_zero, List.set_cons_succ]
                     go_big_quiet_on)))
             refine wpQuiet_nil ?_
             intro wz hq
             have HBY := hidp hq
             clear hq
             go_wp2
             refine bodyPost_ret (v := .tuple #[.int .i64 N, .int .i64 k]) (by simp [results, Try.results64, go_sem]) rfl ?_
             exact ⟨N, k, rfl, ⟨HN1.out.1, HN1.out.2.1, HN1.out.2.2, HNK.out.1, HQ2.out, .inr (fun x y hx hy => by
               rw [HI1.out.1, HKK.out.1] at hx
               rw [HI1.out.2, HKK.out.2] at hy
               obtain rfl := Option.some.inj hx
               obtain rfl := Option.some.inj hy
               exact hd)⟩, HB1.out.trans (HBY.out.mono HB1.out.size)⟩
         · obtain rfl : k = M := by omega
           have klt : ¬ (k : Int) < (k : Int) := by omega
           go_wp2_with fail
           go_quiet (fail)
           go_wp2
           refine bodyPost_ret (v := .tuple #[.int .i64 N, .int .i64 k]) (by simp [results, Try.results64, go_sem]) rfl ?_
           exact ⟨N, k, rfl, ⟨HN1.out.1, HN1.out.2.1, HN1.out.2.2, HNK.out.1, HQ2.out, .inl (HNK.out.2 trivial)⟩, HB1.out.trans ((Below.drewN HBR2.out _).mono HB1.out.size)⟩

/-- The nodes differ along one path at the most. -/
def LocP : (n : Nat) → DT n → DT n → Prop
  | 0, _, _ => False
  | n + 1, a, b => ∀ i k, EndsR (deq n) a.2.1 b.2.1 i k → a.2.1.length ≤ i + k + 1 ∧ (a.2.1.length = i + k + 1 → b.2.1.length = i + k + 1 → ∀ c d, a.2.1[i]? = some c → b.2.1[i]? = some d → LocP n c d)

set_option maxHeartbeats 4000000 in
set_option maxRecDepth 100000 in
/-- 'Local' -/
theorem local_is : ∀ (n : Nat) (a b : DT n) {w : World} {ai ak bi bk : Value} {ac bc : Int}, LocP n a b → NodeAt w n a ai ak ac → NodeAt w n b bi bk bc → bulk n a ≤ 10000000 → bulk n b ≤ 10000000 →
    Calls Try.prog 26 #[.agg #[ai, ak, .int .i64 ac], .agg #[bi, bk, .int .i64 bc], .int .i64 1] w (fun e w' => e = .returned (.bool true) ∧ Below w.heap.size w w')
  | 0, a, _, _, _, _, _, _, _, _, _, _, _, _, _ => a.elim
  | n + 1, a, b, w, ai, ak, bi, bk, ac, bc, hP, hA, hB, hb, hb2 => by
    have IH := fun (c d : DT n) => @local_is n c d
    have hlb := Nat.le_trans (kids_len b (fun k _ => bulk_pos' k)) hb2
    have hEN := fun (w' : World) (hw' : Below w.heap.size w w') => ends_is a b (hA.below hw') (hB.below hw') hb hlb
    have hbk2 : ∀ (j : Nat) (k : DT n), b.2.1[j]? = some k → bulk n k ≤ 10000000 := fun j k hk => by have := bulk_kid (t := b) hk; omega
    have HBK2 := hidp hbk2
    clear hbk2
    obtain ⟨⟨i1, i2, icap, rfl⟩, _⟩ := hA.vals
    obtain ⟨⟨j1, j2, jcap, rfl⟩, _⟩ := hB.vals
    have hkl := Nat.le_trans (kids_len a (fun k _ => bulk_pos' k)) hb
    have hbk : ∀ (j : Nat) (k : DT n), a.2.1[j]? = some k → bulk n k ≤ 10000000 := fun j k hk => by have := bulk_kid (t := a) hk; omega
    obtain ⟨hz1, _, aa, acap, rfl, hac, hka⟩ := hA
    obtain ⟨hz2, _, ba, bcap, rfl, hbc, hkb⟩ := hB
    clear hz1 hz2
    obtain ⟨p1, hp1⟩ : ∃ p, a.2.1.length = p := ⟨_, rfl⟩
    obtain ⟨p2, hp2⟩ : ∃ p, b.2.1.length = p := ⟨_, rfl⟩
    have HP := hidp (And.intro hp1 hp2)
    rw [hp1, hp2]
    rw [hp1] at hkl
    rw [hp2] at hlb
    obtain ⟨w1, hw1⟩ : ∃ w1, w1 = (w.alloc (.cells #[.slice i1 i2 icap, .slice aa p1 acap, .int .i64 ac] 25)).alloc (.cells #[.slice j1 j2 jcap, .slice ba p2 bcap, .int .i64 bc] 25) := ⟨_, rfl⟩
    have hsz1 : w1.heap.size = w.heap.size + 2 := by rw [hw1]; simp
    have hB1 : Below w.heap.size w w1 := by rw [hw1]; exact ((Below.refl _ _).alloc (Nat.le_refl _) _).alloc (by rw [World.size_alloc]; omega) _
    have hx0 : Bx w1 w.heap.size [.slice i1 i2 icap, .slice aa p1 acap, .int .i64 ac] := by rw [hw1]; exact (Bx.new w [.slice i1 i2 icap, .slice aa p1 acap, .int .i64 ac] 25).alloc _
    have hx1 : Bx w1 (w.heap.size + 1) [.slice j1 j2 jcap, .slice ba p2 bcap, .int .i64 bc] := by
      rw [hw1]
      have h := Bx.new (w.alloc (.cells #[.slice i1 i2 icap, .slice aa p1 acap, .int .i64 ac] 25)) [.slice j1 j2 jcap, .slice ba p2 bcap, .int .i64 bc] 25
      rw [World.size_alloc] at h
      exact h
    have HKA : Hid (∀ j k, a.2.1[j]? = some k → ∃ b off vi vk c, aa = some ⟨b, off, none⟩ ∧ b < w1.heap.size ∧ w1.cell? ⟨b, off + j * 3, none⟩ = some vi ∧ w1.cell? ⟨b, off + j * 3 + 1, none⟩ = some vk ∧ w1.cell? ⟨b, off + j * 3 + 2, none⟩ = some (.int .i64 c) ∧ NodeAt w1 n k vi vk c) := hidp fun j k hj => by
      obtain ⟨b, off, vi', vk', c', e, g1, g2, g3, g4⟩ := hka j k hj
      have hbl : b < w.heap.size := World.block_lt_of_cell? w _ g1
      exact ⟨b, off, vi', vk', c', e, by omega, (hB1.cell (p := ⟨b, off + j * 3, none⟩) hbl).trans g1, (hB1.cell (p := ⟨b, off + j * 3 + 1, none⟩) hbl).trans g2, (hB1.cell (p := ⟨b, off + j * 3 + 2, none⟩) hbl).trans g3, g4.below hB1⟩
    have HKB : Hid (∀ j k, b.2.1[j]? = some k → ∃ b off vi vk c, ba = some ⟨b, off, none⟩ ∧ b < w1.heap.size ∧ w1.cell? ⟨b, off + j * 3, none⟩ = some vi ∧ w1.cell? ⟨b, off + j * 3 + 1, none⟩ = some vk ∧ w1.cell? ⟨b, off + j * 3 + 2, none⟩ = some (.int .i64 c) ∧ NodeAt w1 n k vi vk c) := hidp fun j k hj => by
      obtain ⟨b, off, vi', vk', c', e, g1, g2, g3, g4⟩ := hkb j k hj
      have hbl : b < w.heap.size := World.block_lt_of_cell? w _ g1
      exact ⟨b, off, vi', vk', c', e, by omega, (hB1.cell (p := ⟨b, off + j * 3, none⟩) hbl).trans g1, (hB1.cell (p := ⟨b, off + j * 3 + 1, none⟩) hbl).trans g2, (hB1.cell (p := ⟨b, off + j * 3 + 2, none⟩) hbl).trans g3, g4.below hB1⟩
    have HBK := hidp hbk
    have HX0 := hidp hx0
    have HX1 := hidp hx1
    have HB1 := hidp hB1
    have x1 := hx0.cell 1 rfl
    have y1 := hx1.cell 1 rfl
    rw [hw1] at x1 y1
    have HW1 := hidp hw1
    have hsl0 : w.heap.size < w1.heap.size := by omega
    have hsl1 : w.heap.size + 1 < w1.heap.size := by omega
    have HEN := hidp hEN
    have HIH := hidp IH
    have HPP := hidp hP
    have x0 := hx0.cell 0 rfl
    have x2 := hx0.cell 2 rfl
    have y0 := hx1.cell 0 rfl
    have y2 := hx1.cell 2 rfl
    rw [hw1] at x0 x2 y0 y2
    clear hka hkb hbk hx0 hx1 hB1 hsz1 hac hbc hEN IH hP
    rw [hp1, hp2] at HEN
    go_enter Try.func26, Try.ntmps26
    go_wp2_with fail
    rw [← hw1]
    clear hw1 x0 x1 x2 y0 y1 y2
    refine (HEN.out w1 HB1.out).mono ?_
    rintro e w2 ⟨i, k, rfl, hE, hb12⟩
    obtain ⟨hq1, hq2⟩ := HPP.out i k hE
    have hle := hE.le2
    rw [hp1, hp2] at hle
    rw [hp1] at hq1 hq2
    rw [hp2] at hq2
    have HQ2 := hidp hq2
    have HB2 := hidp hb12
    have hxx := Bx.below HX0.out hb12 hsl0
    have hyy := Bx.below HX1.out hb12 hsl1
    have x1 := hxx.cell 1 rfl
    have y1 := hyy.cell 1 rfl
    obtain ⟨T, hT⟩ : ∃ T : Int, T = (p1 : Int) - 1 := ⟨_, rfl⟩
    obtain ⟨SS, hS⟩ : ∃ SS : Int, SS = (i : Int) + (k : Int) := ⟨_, rfl⟩
    obtain ⟨U, hU⟩ : ∃ U : Int, U = (p1 : Int) - (i : Int) := ⟨_, rfl⟩
    obtain ⟨V, hV⟩ : ∃ V : Int, V = U - (k : Int) := ⟨_, rfl⟩
    obtain ⟨U', hU'⟩ : ∃ U : Int, U = (p2 : Int) - (i : Int) := ⟨_, rfl⟩
    obtain ⟨V', hV'⟩ : ∃ V : Int, V = U' - (k : Int) := ⟨_, rfl⟩
    have hwT : IntKind.i64.wrap ((p1 : Int) - 1) = T := by rw [Last.i64_w, IntWalk.wrap64_in _ ⟨by omega, by omega⟩]; exact hT.symm
    have hwS : IntKind.i64.wrap ((i : Int) + (k : Int)) = SS := by rw [Last.i64_w, IntWalk.wrap64_in _ ⟨by omega, by omega⟩]; exact hS.symm
    have hwU : IntKind.i64.wrap ((p1 : Int) - (i : Int)) = U := by rw [Last.i64_w, IntWalk.wrap64_in _ ⟨by omega, by omega⟩]; exact hU.symm
    have hwV : IntKind.i64.wrap (U - (k : Int)) = V := by rw [Last.i64_w, IntWalk.wrap64_in _ ⟨by omega, by omega⟩]; exact hV.symm
    have hwU' : IntKind.i64.wrap ((p2 : Int) - (i : Int)) = U' := by rw [Last.i64_w, IntWalk.wrap64_in _ ⟨by omega, by omega⟩]; exact hU'.symm
    have hwV' : IntKind.i64.wrap (U' - (k : Int)) = V' := by rw [Last.i64_w, IntWalk.wrap64_in _ ⟨by omega, by omega⟩]; exact hV'.symm
    have hnlt : ¬ SS < T := by omega
    have hs2 := hb12.size
    have HPL := hidp (And.intro hp1 hp2)
    by_cases hV1 : V = 1
    · by_cases hV2 : V' = 1
      · have hpi : i < p1 ∧ i < p2 := by omega
        have hpq : p1 = i + k + 1 ∧ p2 = i + k + 1 := by omega
        have HPQ := hidp hpq
        have ilt1 : (i : Int) < (p1 : Int) := by omega
        have ilt2 : (i : Int) < (p2 : Int) := by omega
        have HHP := hidp hpi
        subst hV1
        rw [hV2] at hwV'
        clear hT hS hU hV hU' hV' hV2 hpi hpq hq1 hq2 hle hE hp1 hp2 hb12 hxx hyy
        obtain ⟨ka, hka⟩ : ∃ k, a.2.1[i]? = some k := ⟨a.2.1[i]'(by rw [HP.out.1]; exact HHP.out.1), List.getElem?_eq_getElem _⟩
        obtain ⟨kb, hkb⟩ : ∃ k, b.2.1[i]? = some k := ⟨b.2.1[i]'(by rw [HP.out.2]; exact HHP.out.2), List.getElem?_eq_getElem _⟩
        obtain ⟨ab, aoff, avi, avk, avc, HAA, habl, g1, g2, g3, hna⟩ := HKA.out i ka hka
        obtain ⟨bb, boff, bvi, bvk, bvc, HBB, hbbl, h1, h2, h3, hnb⟩ := HKB.out i kb hkb
        obtain ⟨⟨m1, m2, m3, rfl⟩, m4, m5, m6, rfl⟩ := hna.vals
        obtain ⟨⟨o1, o2, o3, rfl⟩, o4, o5, o6, rfl⟩ := hnb.vals
        have HC : Hid (∀ w', Below w1.heap.size w1 w' → Calls Try.prog 26 #[.agg #[.slice m1 m2 m3, .slice m4 m5 m6, .int .i64 avc], .agg #[.slice o1 o2 o3, .slice o4 o5 o6, .int .i64 bvc], .int .i64 1] w' (fun e w2 => e = .returned (.bool true) ∧ Below w'.heap.size w' w2)) := hidp fun w' hw' => HIH.out ka kb (HQ2.out HPQ.out.1 HPQ.out.2 ka kb hka hkb) (hna.below hw') (hnb.below hw') (HBK.out i ka hka) (HBK2.out i kb hkb)
        have HKK := hidp (And.intro hka hkb)
        have HG := hidp (And.intro g1 (And.intro g2 (And.intro g3 (And.intro h1 (And.intro h2 h3)))))
        clear hka hkb hna hnb g1 g2 g3 h1 h2 h3
        go_wp2_with fail
        refine region_class (C := fun w' => Below w1.heap.size w1 w') (by kernel_rfl) (by kernel_rfl) (HB2.out.drew) ?_
        repeat (first
          | go_big_quiet_skip
          | (go_big_quiet_want
             first
             | (go_big_quiet_op; go_big_quiet_on)
             | (apply Exists.intro
                refine ⟨fun wq hq => ?_, ?_⟩
                (have q0 := (hq.cell (p := ⟨w.heap.size, 1, none⟩) hsl0).trans (HX0.out.cell 1 rfl)
                 have q1 := (hq.cell (p := ⟨w.heap.size + 1, 1, none⟩) hsl1).trans (HX1.out.cell 1 rfl)
                 rw [HAA] at q0
                 rw [HBB] at q1
                 have q2 := (hq.cell (p := ⟨ab, aoff + i * 3, none⟩) habl).trans HG.out.1
                 have q3 := (hq.cell (p := ⟨ab, aoff + i * 3 + 1, none⟩) habl).trans HG.out.2.1
                 have q4 := (hq.cell (p := ⟨ab, aoff + i * 3 + 2, none⟩) habl).trans HG.out.2.2.1
                 have q5 := (hq.cell (p := ⟨bb, boff + i * 3, none⟩) hbbl).trans HG.out.2.2.2.1
                 have q6 := (hq.cell (p := ⟨bb, boff + i * 3 + 1, none⟩) hbbl).trans HG.out.2.2.2.2.1
                 have q7 := (hq.cell (p := ⟨bb, boff + i * 3 + 2, none⟩) hbbl).trans HG.out.2.2.2.2.2
                 unfold Oper.quietAt
                 first
                 | (go_simp; done)
                 | (go_simp; with_reducible rfl)
                 | (go_simp
                    go_at_call 26
                    refine (HC.out wq hq).mono ?_
                    rintro e w3 ⟨rfl, hb3⟩
                    exact ⟨rfl, hq.trans (hb3.mono hq.size)⟩))
                try simp only [Act.put, List.setIfInBounds_toArray, List.set_cons_zero, List.set_cons_succ]
                go_big_quiet_on)))
        refine wpQuiet_nil ?_
        intro wz hq
        have HBZ := hidp hq
        clear hq
        go_wp2
        go_ret
        exact ⟨rfl, HB1.out.trans (HBZ.out.mono HB1.out.size)⟩
      · subst hV1
        clear hT hS hU hV hU' hV' hq1 hq2 hle hE hp1 hp2 hb12 hxx hyy
        go_wp2
        go_ret
        exact ⟨rfl, HB1.out.trans (HB2.out.mono HB1.out.size)⟩
    · clear hT hS hU hV hU' hV' hq1 hq2 hle hE hp1 hp2 hb12 hxx hyy
      go_wp2
      go_ret
      exact ⟨rfl, HB1.out.trans (HB2.out.mono HB1.out.size)⟩
end Go.Proofs.Ytehnobbiiokcgaa.Bt.ND
