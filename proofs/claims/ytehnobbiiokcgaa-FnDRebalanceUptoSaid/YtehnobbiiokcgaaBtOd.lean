/- The reference: are two nodes the same? -/
import Derived.Test.YtehnobbiiokcgaaBtNv
import Derived.Test.YtehnobbiiokcgaaBtNj
namespace Go.Proofs.Ytehnobbiiokcgaa.Bt.ND
set_option linter.unusedVariables false
set_option linter.unusedSimpArgs false
open Go Go.RowKit Go.Proofs.Ytehnobbiiokcgaa.Bt

/-! ### plain -/
def all2 {α : Type} (f : α → α → Bool) : List α → List α → Bool
  | [], [] => true
  | x :: xs, y :: ys => f x y && all2 f xs ys
  | _, _ => false
/-- Are two nodes the same? -/
def deq : (n : Nat) → DT n → DT n → Bool
  | 0, _, _ => false
  | n + 1, a, b => decide (a.2.2 = b.2.2) && decide (a.1 = b.1) && all2 (deq n) a.2.1 b.2.1
theorem all2_iff {α : Type} {f : α → α → Bool} : ∀ (xs ys : List α), (∀ x ∈ xs, ∀ y, f x y = true ↔ x = y) → (all2 f xs ys = true ↔ xs = ys)
  | [], [], _ => by simp [all2]
  | [], y :: ys, _ => by simp [all2]
  | x :: xs, [], _ => by simp [all2]
  | x :: xs, y :: ys, h => by
    simp only [all2, Bool.and_eq_true, List.cons.injEq]
    rw [h x (by simp) y, all2_iff xs ys (fun z hz => h z (by simp [hz]))]
theorem deq_iff : ∀ (n : Nat) (a b : DT n), deq n a b = true ↔ a = b
  | 0, a, _ => a.elim
  | n + 1, a, b => by
    obtain ⟨a1, a2, a3⟩ := a
    obtain ⟨b1, b2, b3⟩ := b
    show (decide (a3 = b3) && decide (a1 = b1) && all2 (deq n) a2 b2) = true ↔ _
    rw [Bool.and_eq_true, Bool.and_eq_true, decide_eq_true_eq, decide_eq_true_eq, all2_iff a2 b2 (fun x _ y => deq_iff n x y)]
    constructor
    · rintro ⟨⟨rfl, rfl⟩, rfl⟩; rfl
    · intro h
      injection h with h1 h2
      injection h2 with h2 h3
      exact ⟨⟨h3, h1⟩, h2⟩
theorem all2_of {α : Type} {f : α → α → Bool} : ∀ (xs ys : List α), xs.length = ys.length → (∀ (i : Nat) (x y : α), xs[i]? = some x → ys[i]? = some y → f x y = true) → all2 f xs ys = true
  | [], [], _, _ => rfl
  | [], y :: ys, h, _ => by simp at h
  | x :: xs, [], h, _ => by simp at h
  | x :: xs, y :: ys, hl, h => by
    simp only [all2, Bool.and_eq_true]
    exact ⟨h 0 x y rfl rfl, all2_of xs ys (by simpa using hl) (fun i a b ha hb => h (i + 1) a b (by simpa using ha) (by simpa using hb))⟩
theorem all2_len {α : Type} {f : α → α → Bool} : ∀ (xs ys : List α), xs.length ≠ ys.length → all2 f xs ys = false
  | [], [], h => absurd rfl h
  | [], y :: ys, _ => rfl
  | x :: xs, [], _ => rfl
  | x :: xs, y :: ys, h => by
    simp only [all2]
    rw [all2_len xs ys (fun e => h (by simp [e]))]; simp
theorem all2_at {α : Type} {f : α → α → Bool} : ∀ (xs ys : List α) (i : Nat) (x y : α), xs[i]? = some x → ys[i]? = some y → f x y = false → all2 f xs ys = false
  | [], ys, i, x, y, h, _, _ => by simp at h
  | x :: xs, [], i, a, b, _, h, _ => by simp at h
  | x :: xs, y :: ys, 0, a, b, h1, h2, h => by
    simp at h1 h2
    subst h1; subst h2
    simp [all2, h]
  | x :: xs, y :: ys, i + 1, a, b, h1, h2, h => by
    simp only [all2]
    rw [all2_at xs ys i a b (by simpa using h1) (by simpa using h2) h]; simp

set_option maxHeartbeats 2000000 in
set_option maxRecDepth 100000 in
/-- 'EqualItems' -/
theorem equalItems_is {w : World} {v u : Value} {l1 l2 : List Im} (hv : Its w v l1) (hu : Its w u l2) (hl : l1.length ≤ 1000000000) :
    Calls Try.prog 60 #[v, u] w (fun e w' => e = .returned (.bool (decide (l1 = l2))) ∧ ∃ a, w' = w.drewN a) := by
  obtain ⟨a1, c1, rfl, _, hi1⟩ := hv
  obtain ⟨a2, c2, rfl, _, hi2⟩ := hu
  obtain ⟨p1, hp1⟩ : ∃ p, l1.length = p := ⟨_, rfl⟩
  obtain ⟨p2, hp2⟩ : ∃ p, l2.length = p := ⟨_, rfl⟩
  have HI1 := hidp hi1
  have HI2 := hidp hi2
  have HP := hidp (And.intro hp1 hp2)
  rw [hp1, hp2]
  rw [hp1] at hl
  clear hi1 hi2
  by_cases hlen : p1 = p2
  · subst hlen
    have HP2 := hidp hp2
    clear hp1 hp2
    by_cases hne : l1 = l2
    · rw [decide_eq_true hne]
      have HNE := hidp hne
      clear hne
      go_enter Try.func60, Try.ntmps60
      go_wp2
      go_loopw [13] (fun i wr => ∃ j m : Nat, j ≤ p1 ∧ i = .int .i64 j ∧ wr = w.drewN m) (fun i _ => p1 - (intOf i).toNat)
      case atStart => exact ⟨0, 0, Nat.zero_le _, rfl, rfl⟩
      case round =>
        obtain ⟨j, m, hj, rfl, rfl⟩ := hrel
        by_cases hlt : j < p1
        · obtain ⟨x, hx⟩ : ∃ x, l1[j]? = some x := ⟨l1[j]'(by rw [HP.out.1]; exact hlt), List.getElem?_eq_getElem _⟩
          obtain ⟨b, off, rfl, x1, x2⟩ := HI1.out j x hx
          rw [HNE.out] at hx
          obtain ⟨b', off', rfl, y1, y2⟩ := HI2.out j x hx
          have jlt : (j : Int) < (p1 : Int) := by omega
          clear hx
          go_wp2_with fail
          go_quiet (fail)
          go_wp2
          go_roundw
          case rel => exact ⟨j + 1, _, by omega, by go_num, rfl⟩
          case measure => simp [intOf]; omega
        · obtain rfl : j = p1 := by omega
          go_wp2
          go_ret
          exact ⟨rfl, _, rfl⟩
    · rw [decide_eq_false hne]
      have HNE := hidp hne
      clear hne
      go_enter Try.func60, Try.ntmps60
      go_wp2
      go_loopw [13] (fun i wr => ∃ j m : Nat, j ≤ p1 ∧ i = .int .i64 j ∧ Hid (∀ q, q < j → l1[q]? = l2[q]?) ∧ wr = w.drewN m) (fun i _ => p1 - (intOf i).toNat)
      case atStart => exact ⟨0, 0, Nat.zero_le _, rfl, hidp (fun q hq => by omega), rfl⟩
      case round =>
        obtain ⟨j, m, hj, rfl, HQ, rfl⟩ := hrel
        by_cases hlt : j < p1
        · obtain ⟨x, hx⟩ : ∃ x, l1[j]? = some x := ⟨l1[j]'(by rw [HP.out.1]; exact hlt), List.getElem?_eq_getElem _⟩
          obtain ⟨y, hy⟩ : ∃ y, l2[j]? = some y := ⟨l2[j]'(by rw [HP.out.2]; exact hlt), List.getElem?_eq_getElem _⟩
          obtain ⟨b, off, rfl, x1, x2⟩ := HI1.out j x hx
          obtain ⟨b', off', rfl, y1, y2⟩ := HI2.out j y hy
          have jlt : (j : Int) < (p1 : Int) := by omega
          have HXY := hidp (And.intro hx hy)
          clear hx hy
          by_cases h1 : x.1 = y.1
          · by_cases h2 : x.2 = y.2
            · rw [h1] at x1
              rw [h2] at x2
              have HEQ := hidp (show x = y from Prod.ext h1 h2)
              clear h1 h2
              go_wp2_with fail
              go_quiet (fail)
              go_wp2
              go_roundw
              case rel => exact ⟨j + 1, _, by omega, by go_num, hidp (fun q hq => by
                by_cases hqj : q = j
                · subst hqj; rw [HXY.out.1, HXY.out.2, HEQ.out]
                · exact HQ.out q (by omega)), rfl⟩
              case measure => simp [intOf]; omega
            · have h2r : ¬ y.2 = x.2 := fun e => h2 e.symm
              go_wp2_with fail
              go_quiet (fail)
              go_wp2
              go_ret
              exact ⟨rfl, _, World.drewN_drewN _ _ _⟩
          · have h1r : ¬ y.1 = x.1 := fun e => h1 e.symm
            go_wp2_with fail
            go_quiet (fail)
            go_wp2
            go_ret
            exact ⟨rfl, _, World.drewN_drewN _ _ _⟩
        · exfalso
          obtain rfl : j = p1 := by omega
          refine HNE.out (List.ext_getElem? fun q => ?_)
          by_cases hq : q < j
          · exact HQ.out q hq
          · rw [List.getElem?_eq_none (by rw [HP.out.1]; omega), List.getElem?_eq_none (by rw [HP.out.2]; omega)]
  · have hne : l1 ≠ l2 := fun e => hlen (by rw [← hp1, ← hp2, e])
    rw [decide_eq_false hne]
    have h1 : ¬ (p1 : Int) = (p2 : Int) := by omega
    clear hne hp1 hp2
    go_enter Try.func60, Try.ntmps60
    go_wp2
    go_ret
    exact ⟨rfl, 0, rfl⟩

/-- The function value. -/
def sameV : Value := .func (.func 22) #[] #[]

/-- What SameNodes tells of the nodes of one level. -/
def SameIH (n : Nat) : Prop := ∀ (a b : DT n) {w : World} {ai ak bi bk : Value} {ac bc : Int}, NodeAt w n a ai ak ac → NodeAt w n b bi bk bc → bulk n a ≤ 10000000 →
    Calls Try.prog 22 #[.agg #[ai, ak, .int .i64 ac], .agg #[bi, bk, .int .i64 bc]] w (fun e w' => e = .returned (.bool (deq n a b)) ∧ Below w.heap.size w w')

set_option maxHeartbeats 4000000 in
set_option maxRecDepth 100000 in
/-- 'SameShapes' with SameNodes. -/
theorem shapes_is {n : Nat} (IH : SameIH n) (a b : DT (n + 1)) {w : World} {ai ak bi bk : Value} {ac bc : Int} (hA : NodeAt w (n + 1) a ai ak ac) (hB : NodeAt w (n + 1) b bi bk bc) (hb : bulk (n + 1) a ≤ 10000000) :
    Calls Try.prog 61 #[.agg #[ai, ak, .int .i64 ac], .agg #[bi, bk, .int .i64 bc], sameV] w (fun e w' => e = .returned (.bool (all2 (deq n) a.2.1 b.2.1)) ∧ Below w.heap.size w w') := by
  obtain ⟨⟨i1, i2, icap, rfl⟩, _⟩ := hA.vals
  obtain ⟨⟨j1, j2, jcap, rfl⟩, _⟩ := hB.vals
  have hkl := Nat.le_trans (kids_len a (fun k _ => bulk_pos' k)) hb
  have hbk : ∀ (j : Nat) (k : DT n), a.2.1[j]? = some k → bulk n k ≤ 10000000 := fun j k hk => by have := bulk_kid (t := a) hk; omega
  obtain ⟨hz1, _, aa, acap, rfl, hac, hka⟩ := hA
  obtain ⟨hz2, _, ba, bcap, rfl, hbc, hkb⟩ := hB
  clear hz1 hz2
  obtain ⟨p1, hp1⟩ : ∃ p, a.2.1.length = p := ⟨_, rfl⟩
  obtain ⟨p2, hp2⟩ : ∃ p, b.2.1.length = p := ⟨_, rfl⟩
  have HP := hidp (And.intro hp1 hp2)
  rw [hp1, hp2]
  rw [hp1] at hkl
  obtain ⟨w1, hw1⟩ : ∃ w1, w1 = (w.alloc (.cells #[.slice i1 i2 icap, .slice aa p1 acap, .int .i64 ac] 25)).alloc (.cells #[.slice j1 j2 jcap, .slice ba p2 bcap, .int .i64 bc] 25) := ⟨_, rfl⟩
  have hsz1 : w1.heap.size = w.heap.size + 2 := by rw [hw1]; simp
  have hB1 : Below w.heap.size w w1 := by rw [hw1]; exact ((Below.refl _ _).alloc (Nat.le_refl _) _).alloc (by rw [World.size_alloc]; omega) _
  have hx0 : Bx w1 w.heap.size [.slice i1 i2 icap, .slice aa p1 acap, .int .i64 ac] := by rw [hw1]; exact (Bx.new w [.slice i1 i2 icap, .slice aa p1 acap, .int .i64 ac] 25).alloc _
  have hx1 : Bx w1 (w.heap.size + 1) [.slice j1 j2 jcap, .slice ba p2 bcap, .int .i64 bc] := by
    rw [hw1]
    have h := Bx.new (w.alloc (.cells #[.slice i1 i2 icap, .slice aa p1 acap, .int .i64 ac] 25)) [.slice j1 j2 jcap, .slice ba p2 bcap, .int .i64 bc] 25
    rw [World.size_alloc] at h
    exact h
  have HKA : Hid (∀ j k, a.2.1[j]? = some k → ∃ b off vi vk c, aa = some ⟨b, off, none⟩ ∧ b < w1.heap.size ∧ w1.cell? ⟨b, off + j * 3, none⟩ = some vi ∧ w1.cell? ⟨b, off + j * 3 + 1, none⟩ = some vk ∧ w1.cell? ⟨b, off + j * 3 + 2, none⟩ = some (.int .i64 c) ∧ NodeAt w1 n k vi vk c) := hidp fun j k hj => by
    obtain ⟨b, off, vi', vk', c', e, g1, g2, g3, g4⟩ := hka j k hj
    have hbl : b < w.heap.size := World.block_lt_of_cell? w _ g1
    exact ⟨b, off, vi', vk', c', e, by omega, (hB1.cell (p := ⟨b, off + j * 3, none⟩) hbl).trans g1, (hB1.cell (p := ⟨b, off + j * 3 + 1, none⟩) hbl).trans g2, (hB1.cell (p := ⟨b, off + j * 3 + 2, none⟩) hbl).trans g3, g4.below hB1⟩
  have HKB : Hid (∀ j k, b.2.1[j]? = some k → ∃ b off vi vk c, ba = some ⟨b, off, none⟩ ∧ b < w1.heap.size ∧ w1.cell? ⟨b, off + j * 3, none⟩ = some vi ∧ w1.cell? ⟨b, off + j * 3 + 1, none⟩ = some vk ∧ w1.cell? ⟨b, off + j * 3 + 2, none⟩ = some (.int .i64 c) ∧ NodeAt w1 n k vi vk c) := hidp fun j k hj => by
    obtain ⟨b, off, vi', vk', c', e, g1, g2, g3, g4⟩ := hkb j k hj
    have hbl : b < w.heap.size := World.block_lt_of_cell? w _ g1
    exact ⟨b, off, vi', vk', c', e, by omega, (hB1.cell (p := ⟨b, off + j * 3, none⟩) hbl).trans g1, (hB1.cell (p := ⟨b, off + j * 3 + 1, none⟩) hbl).trans g2, (hB1.cell (p := ⟨b, off + j * 3 + 2, none⟩) hbl).trans g3, g4.below hB1⟩
  have HBK := hidp hbk
  have HX0 := hidp hx0
  have HX1 := hidp hx1
  have HB1 := hidp hB1
  have HIH := hidp IH
  have x1 := hx0.cell 1 rfl
  have y1 := hx1.cell 1 rfl
  rw [hw1] at x1 y1
  have HW1 := hidp hw1
  have hsl0 : w.heap.size < w1.heap.size := by omega
  have hsl1 : w.heap.size + 1 < w1.heap.size := by omega
  clear hka hkb hbk hx0 hx1 hB1 IH hw1 hsz1 hac hbc hp1 hp2
  by_cases hlen : p1 = p2
  · subst hlen
    unfold sameV
    go_enter Try.func61, Try.ntmps61
    go_wp2
    rw [← HW1.out]
    clear x1 y1
    go_loopw [18] (fun i wr => ∃ j : Nat, j ≤ p1 ∧ i = .int .i64 j ∧ Hid (∀ q x y, q < j → a.2.1[q]? = some x → b.2.1[q]? = some y → deq n x y = true) ∧ Hid (Below w1.heap.size w1 wr)) (fun i _ => p1 - (intOf i).toNat)
    case atStart => exact ⟨0, Nat.zero_le _, rfl, hidp (fun q x y hq => by omega), hidp (Below.refl _ _)⟩
    case round =>
      obtain ⟨j, hj, rfl, HQ, HBR⟩ := hrel
      by_cases hlt : j < p1
      · obtain ⟨ka, hka⟩ : ∃ k, a.2.1[j]? = some k := ⟨a.2.1[j]'(by rw [HP.out.1]; exact hlt), List.getElem?_eq_getElem _⟩
        obtain ⟨kb, hkb⟩ : ∃ k, b.2.1[j]? = some k := ⟨b.2.1[j]'(by rw [HP.out.2]; exact hlt), List.getElem?_eq_getElem _⟩
        obtain ⟨ab, aoff, avi, avk, avc, rfl, habl, g1, g2, g3, hna⟩ := HKA.out j ka hka
        obtain ⟨bb, boff, bvi, bvk, bvc, rfl, hbbl, h1, h2, h3, hnb⟩ := HKB.out j kb hkb
        obtain ⟨⟨m1, m2, m3, rfl⟩, m4, m5, m6, rfl⟩ := hna.vals
        obtain ⟨⟨o1, o2, o3, rfl⟩, o4, o5, o6, rfl⟩ := hnb.vals
        have HC : Hid (∀ w', Below w1.heap.size w1 w' → Calls Try.prog 22 #[.agg #[.slice m1 m2 m3, .slice m4 m5 m6, .int .i64 avc], .agg #[.slice o1 o2 o3, .slice o4 o5 o6, .int .i64 bvc]] w' (fun e w2 => e = .returned (.bool (deq n ka kb)) ∧ Below w'.heap.size w' w2)) := hidp fun w' hw' => HIH.out ka kb (hna.below hw') (hnb.below hw') (HBK.out j ka hka)
        have HKK := hidp (And.intro hka hkb)
        have jlt : (j : Int) < (p1 : Int) := by omega
        have HG := hidp (And.intro g1 (And.intro g2 (And.intro g3 (And.intro h1 (And.intro h2 h3)))))
        clear hka hkb hna hnb g1 g2 g3 h1 h2 h3
        cases hd : deq n ka kb with
        | true =>
          rw [hd] at HC
          go_wp2_with fail
          refine region_class (C := fun w' => Below w1.heap.size w1 w') (by kernel_rfl) (by kernel_rfl) (HBR.out.drew) ?_
          repeat (first
            | go_big_quiet_skip
            | (go_big_quiet_want
               first
               | (go_big_quiet_op; go_big_quiet_on)
               | (apply Exists.intro
                  refine ⟨fun wq hq => ?_, ?_⟩
                  (have q0 := (hq.cell (p := ⟨w.heap.size, 1, none⟩) hsl0).trans (HX0.out.cell 1 rfl)
                   have q1 := (hq.cell (p := ⟨w.heap.size + 1, 1, none⟩) hsl1).trans (HX1.out.cell 1 rfl)
                   have q2 := (hq.cell (p := ⟨ab, aoff + j * 3, none⟩) habl).trans HG.out.1
                   have q3 := (hq.cell (p := ⟨ab, aoff + j * 3 + 1, none⟩) habl).trans HG.out.2.1
                   have q4 := (hq.cell (p := ⟨ab, aoff + j * 3 + 2, none⟩) habl).trans HG.out.2.2.1
                   have q5 := (hq.cell (p := ⟨bb, boff + j * 3, none⟩) hbbl).trans HG.out.2.2.2.1
                   have q6 := (hq.cell (p := ⟨bb, boff + j * 3 + 1, none⟩) hbbl).trans HG.out.2.2.2.2.1
                   have q7 := (hq.cell (p := ⟨bb, boff + j * 3 + 2, none⟩) hbbl).trans HG.out.2.2.2.2.2
                   unfold Oper.quietAt
                   first
                   | (go_simp; done)
                   | (go_simp; with_reducible rfl)
                   | (go_simp
                      go_at_call 22
                      refine (HC.out wq hq).mono ?_
                      rintro e w3 ⟨rfl, hb3⟩
                      exact ⟨rfl, hq.trans (hb3.mono hq.size)⟩))
                  try simp only [Act.put, List.setIfInBounds_toArray, List.set_cons_zero, List.set_cons_succ]
                  go_big_quiet_on)))
          refine wpQuiet_nil ?_
          intro wz hq
          have HBZ := hidp hq
          clear hq
          go_wp2
          go_roundw
          case rel => exact ⟨j + 1, by omega, by go_num, hidp (fun q x y hq hx hy => by
            by_cases hqj : q = j
            · subst hqj
              rw [HKK.out.1] at hx
              rw [HKK.out.2] at hy
              obtain rfl := Option.some.inj hx
              obtain rfl := Option.some.inj hy
              exact hd
            · exact HQ.out q x y (by omega) hx hy), HBZ⟩
          case measure => simp [intOf]; omega
        | false =>
          rw [hd] at HC
          go_wp2_with fail
          refine region_class (C := fun w' => Below w1.heap.size w1 w') (by kernel_rfl) (by kernel_rfl) (HBR.out.drew) ?_
          repeat (first
            | go_big_quiet_skip
            | (go_big_quiet_want
               first
               | (go_big_quiet_op; go_big_quiet_on)
               | (apply Exists.intro
                  refine ⟨fun wq hq => ?_, ?_⟩
                  (have q0 := (hq.cell (p := ⟨w.heap.size, 1, none⟩) hsl0).trans (HX0.out.cell 1 rfl)
                   have q1 := (hq.cell (p := ⟨w.heap.size + 1, 1, none⟩) hsl1).trans (HX1.out.cell 1 rfl)
                   have q2 := (hq.cell (p := ⟨ab, aoff + j * 3, none⟩) habl).trans HG.out.1
                   have q3 := (hq.cell (p := ⟨ab, aoff + j * 3 + 1, none⟩) habl).trans HG.out.2.1
                   have q4 := (hq.cell (p := ⟨ab, aoff + j * 3 + 2, none⟩) habl).trans HG.out.2.2.1
                   have q5 := (hq.cell (p := ⟨bb, boff + j * 3, none⟩) hbbl).trans HG.out.2.2.2.1
                   have q6 := (hq.cell (p := ⟨bb, boff + j * 3 + 1, none⟩) hbbl).trans HG.out.2.2.2.2.1
                   have q7 := (hq.cell (p := ⟨bb, boff + j * 3 + 2, none⟩) hbbl).trans HG.out.2.2.2.2.2
                   unfold Oper.quietAt
                   first
                   | (go_simp; done)
                   | (go_simp; with_reducible rfl)
                   | (go_simp
                      go_at_call 22
                      refine (HC.out wq hq).mono ?_
                      rintro e w3 ⟨rfl, hb3⟩
                      exact ⟨rfl, hq.trans (hb3.mono hq.size)⟩))
                  try simp only [Act.put, List.setIfInBounds_toArray, List.set_cons_zero, List.set_cons_succ]
                  go_big_quiet_on)))
          refine wpQuiet_nil ?_
          intro wz hq
          have HBZ := hidp hq
          clear hq
          go_wp2
          go_ret
          exact ⟨by rw [all2_at _ _ j ka kb HKK.out.1 HKK.out.2 hd]; try rfl, HB1.out.trans (HBZ.out.mono HB1.out.size)⟩
      · obtain rfl : j = p1 := by omega
        have hall := all2_of (f := deq n) a.2.1 b.2.1 (by rw [HP.out.1, HP.out.2]) (fun i x y hx hy => HQ.out i x y (by have := (List.getElem?_eq_some_iff.1 hx).1; rw [HP.out.1] at this; exact this) hx hy)
        have HALL := hidp hall
        clear hall
        go_wp2
        go_ret
        exact ⟨by rw [HALL.out]; try rfl, HB1.out.trans (HBR.out.mono HB1.out.size)⟩
  · have h1 : ¬ (p1 : Int) = (p2 : Int) := by omega
    rw [all2_len _ _ (by rw [HP.out.1, HP.out.2]; exact hlen)]
    unfold sameV
    go_enter Try.func61, Try.ntmps61
    go_wp2
    go_ret
    exact ⟨rfl, by rw [← HW1.out]; exact HB1.out⟩

set_option maxHeartbeats 4000000 in
set_option maxRecDepth 100000 in
/-- 'SameNodes' -/
theorem same_is : ∀ n, SameIH n
  | 0 => fun a _ _ _ _ _ _ _ _ _ _ _ => a.elim
  | n + 1 => fun a b w ai ak bi bk ac bc hA hB hb => by
    have hSH := fun (w' : World) (hw' : Below w.heap.size w w') => shapes_is (same_is n) a b (hA.below hw') (hB.below hw') hb
    obtain ⟨⟨i1, i2, icap, rfl⟩, i4, i5, i6, rfl⟩ := hA.vals
    obtain ⟨⟨j1, j2, jcap, rfl⟩, j4, j5, j6, rfl⟩ := hB.vals
    have hil : a.1.length ≤ 10000000 := by have : a.1.length ≤ bulk (n + 1) a := (by show a.1.length ≤ 1 + a.1.length + (a.2.1.map (bulk n)).sum; omega); omega
    obtain ⟨hca, hia, _⟩ := hA
    obtain ⟨hcb, hib, _⟩ := hB
    have hEQ := fun (w' : World) (hw' : Below w.heap.size w w') => equalItems_is (hia.below hw') (hib.below hw') (by omega)
    obtain ⟨w1, hw1⟩ : ∃ w1, w1 = (w.alloc (.cells #[.slice i1 i2 icap, .slice i4 i5 i6, .int .i64 ac] 25)).alloc (.cells #[.slice j1 j2 jcap, .slice j4 j5 j6, .int .i64 bc] 25) := ⟨_, rfl⟩
    have hsz1 : w1.heap.size = w.heap.size + 2 := by rw [hw1]; simp
    have hB1 : Below w.heap.size w w1 := by rw [hw1]; exact ((Below.refl _ _).alloc (Nat.le_refl _) _).alloc (by rw [World.size_alloc]; omega) _
    have hx0 : Bx w1 w.heap.size [.slice i1 i2 icap, .slice i4 i5 i6, .int .i64 ac] := by rw [hw1]; exact (Bx.new w [.slice i1 i2 icap, .slice i4 i5 i6, .int .i64 ac] 25).alloc _
    have hx1 : Bx w1 (w.heap.size + 1) [.slice j1 j2 jcap, .slice j4 j5 j6, .int .i64 bc] := by
      rw [hw1]
      have h := Bx.new (w.alloc (.cells #[.slice i1 i2 icap, .slice i4 i5 i6, .int .i64 ac] 25)) [.slice j1 j2 jcap, .slice j4 j5 j6, .int .i64 bc] 25
      rw [World.size_alloc] at h
      exact h
    have e1 : deq (n + 1) a b = (decide (ac = bc) && decide (a.1 = b.1) && all2 (deq n) a.2.1 b.2.1) := by rw [hca, hcb]; rfl
    rw [e1]
    have HSH := hidp hSH
    have HEQ := hidp hEQ
    have HX0 := hidp hx0
    have HX1 := hidp hx1
    have HB1 := hidp hB1
    have x0 := hx0.cell 0 rfl
    have x2 := hx0.cell 2 rfl
    have y0 := hx1.cell 0 rfl
    have y2 := hx1.cell 2 rfl
    clear hSH hEQ hca hcb hia hib hx0 hx1 hB1 hsz1 e1
    by_cases hc : ac = bc
    · subst hc
      rw [decide_eq_true rfl, Bool.true_and]
      cases hi : decide (a.1 = b.1) with
      | false =>
        rw [Bool.false_and]
        go_enter Try.func22, Try.ntmps22
        go_wp2_with fail
        rw [← hw1]
        clear hw1
        have h := HEQ.out w1 HB1.out
        rw [hi] at h
        refine h.mono ?_
        clear h
        rintro e w2 ⟨rfl, q2, rfl⟩
        clear x0 x2 y0 y2
        go_wp2
        go_ret
        exact ⟨rfl, Below.drewN HB1.out _⟩
      | true =>
        rw [Bool.true_and]
        go_enter Try.func22, Try.ntmps22
        go_wp2_with fail
        rw [← hw1]
        clear hw1
        have h := HEQ.out w1 HB1.out
        rw [hi] at h
        refine h.mono ?_
        clear h
        rintro e w2 ⟨rfl, q2, rfl⟩
        clear x0 x2 y0 y2
        have x0 := (HX0.out.drewN q2).cell 0 rfl
        have x1 := (HX0.out.drewN q2).cell 1 rfl
        have x2 := (HX0.out.drewN q2).cell 2 rfl
        have y0 := (HX1.out.drewN q2).cell 0 rfl
        have y1 := (HX1.out.drewN q2).cell 1 rfl
        have y2 := (HX1.out.drewN q2).cell 2 rfl
        have HS := hidp (HSH.out (w1.drewN q2) (Below.drewN HB1.out _))
        go_wp2_with fail
        refine HS.out.mono ?_
        rintro e w3 ⟨rfl, hb3⟩
        have HB3 := hidp ((Below.drewN HB1.out q2).trans (hb3.mono HB1.out.size))
        clear hb3
        cases hv : all2 (deq n) a.2.1 b.2.1 with
        | true =>
          go_wp2
          go_ret
          exact ⟨by first | rfl | (rw [hv]; try rfl), HB3.out⟩
        | false =>
          go_wp2
          go_ret
          exact ⟨by first | rfl | (rw [hv]; try rfl), HB3.out⟩
    · have hcr : ¬ bc = ac := fun e => hc e.symm
      rw [decide_eq_false hc, Bool.false_and, Bool.false_and]
      rw [hw1] at x0 x2 y0 y2
      go_enter Try.func22, Try.ntmps22
      go_wp2
      go_ret
      exact ⟨rfl, by rw [← hw1]; exact HB1.out⟩

end Go.Proofs.Ytehnobbiiokcgaa.Bt.ND
