/- Nodes as data: trees of whatever shape, as they came in (no program). Nodes as data: the walks of what asks whether a node is a right one. -/
import Derived.Test.YtehnobbiiokcgaaBtRow
import Derived.Test.YtehnobbiiokcgaaBtTree
import Derived.Test.YtehnobbiiokcgaaProg
import Derived.WalkKit
import Derived.Deep.DeepMust
namespace Go.Proofs.Ytehnobbiiokcgaa.Bt.ND
set_option linter.unusedVariables false
set_option linter.unusedSimpArgs false
open Go Go.RowKit Go.Proofs.Ytehnobbiiokcgaa.Bt

/-- An item: key and value. -/
abbrev Im := Int × Int
/-- A node as data: its items, its kids, its count (n: more than its depth). -/
@[reducible] def DT : Nat → Type
  | 0 => Empty
  | n + 1 => List Im × List (DT n) × Int
def DT.its {n : Nat} (t : DT (n + 1)) : List Im := t.1
def DT.kids {n : Nat} (t : DT (n + 1)) : List (DT n) := t.2.1

/-! ### in memory -/
/-- v is a slice that reads as the items l. -/
def Its (w : World) (v : Value) (l : List Im) : Prop :=
  ∃ a cap, v = .slice a l.length cap ∧ l.length ≤ cap ∧ ∀ j x, l[j]? = some x → ∃ b off, a = some ⟨b, off, none⟩ ∧ w.cell? ⟨b, off + j * 2, none⟩ = some (.int .i64 x.1) ∧ w.cell? ⟨b, off + j * 2 + 1, none⟩ = some (.int .i64 x.2)
theorem Its.below {w w' : World} {v : Value} {l : List Im} (h : Its w v l) (hb : Below w.heap.size w w') : Its w' v l := by
  obtain ⟨a, cap, e, hlc, hc⟩ := h
  refine ⟨a, cap, e, hlc, fun j x hx => ?_⟩
  obtain ⟨b, off, ha, h1, h2⟩ := hc j x hx
  exact ⟨b, off, ha, (hb.cell (p := ⟨b, off + j * 2, none⟩) (World.block_lt_of_cell? w _ h1)).trans h1, (hb.cell (p := ⟨b, off + j * 2 + 1, none⟩) (World.block_lt_of_cell? w _ h2)).trans h2⟩
/-- The two slices vi, vk and the number c are the node t. -/
def NodeAt (w : World) : (n : Nat) → DT n → Value → Value → Int → Prop
  | 0, _, _, _, _ => False
  | n + 1, t, vi, vk, c => c = t.2.2 ∧ Its w vi t.1 ∧ ∃ a cap, vk = .slice a t.2.1.length cap ∧ t.2.1.length ≤ cap ∧ ∀ j k, t.2.1[j]? = some k →
      ∃ b off vi' vk' c', a = some ⟨b, off, none⟩ ∧ w.cell? ⟨b, off + j * 3, none⟩ = some vi' ∧ w.cell? ⟨b, off + j * 3 + 1, none⟩ = some vk' ∧ w.cell? ⟨b, off + j * 3 + 2, none⟩ = some (.int .i64 c') ∧ NodeAt w n k vi' vk' c'
theorem NodeAt.below {w w' : World} (hb : Below w.heap.size w w') : ∀ {n : Nat} {t : DT n} {vi vk : Value} {c : Int}, NodeAt w n t vi vk c → NodeAt w' n t vi vk c
  | 0, _, _, _, _, h => h
  | n + 1, t, vi, vk, c, h => by
    obtain ⟨h1, h2, a, cap, e, hlc, hk⟩ := h
    refine ⟨h1, h2.below hb, a, cap, e, hlc, fun j k hj => ?_⟩
    obtain ⟨b, off, vi', vk', c', ha, g1, g2, g3, g4⟩ := hk j k hj
    exact ⟨b, off, vi', vk', c', ha, (hb.cell (p := ⟨b, off + j * 3, none⟩) (World.block_lt_of_cell? w _ g1)).trans g1, (hb.cell (p := ⟨b, off + j * 3 + 1, none⟩) (World.block_lt_of_cell? w _ g2)).trans g2,
      (hb.cell (p := ⟨b, off + j * 3 + 2, none⟩) (World.block_lt_of_cell? w _ g3)).trans g3, g4.below hb⟩
theorem NodeAt.form {w : World} : ∀ {n : Nat} {t : DT n} {vi vk : Value} {c : Int}, NodeAt w n t vi vk c → ∃ m, n = m + 1
  | 0, _, _, _, _, h => h.elim
  | m + 1, _, _, _, _, _ => ⟨m, rfl⟩

/-! ### what the definitions make of a node -/
/-- All items, in order. -/
def dAll : (n : Nat) → DT n → List Im
  | 0, _ => []
  | n + 1, t => weave t.1 (t.2.1.map (dAll n))
/-- How many levels, and whether they are the same everywhere. -/
def lev : (n : Nat) → DT n → Nat × Bool
  | 0, _ => (0, false)
  | n + 1, t => match t.2.1 with
    | [] => (1, true)
    | k :: ks => if (k :: ks).length = t.1.length + 1 then ((lev n k).1 + 1, ks.foldl (fun is k' => is && (lev n k').2 && decide ((lev n k').1 = (lev n k).1)) (lev n k).2) else (0, false)
/-- Are the nodes filled? -/
def filled (D : Nat) : (least n : Nat) → DT n → Bool
  | _, 0, _ => false
  | least, n + 1, t => decide (least ≤ t.1.length) && decide (t.1.length ≤ 2 * D - 1) && t.2.1.all (filled D (D - 1) n)
/-- Do the keys rise? -/
def rising (l : List Im) : Prop := l.Pairwise (fun a b => a.1 < b.1)
/-- How many items and nodes there are, each counted as often as it is met. -/
def bulk : (n : Nat) → DT n → Nat
  | 0, _ => 0
  | n + 1, t => 1 + t.1.length + (t.2.1.map (bulk n)).sum

theorem weave_len {I : Type} : ∀ (xs : List I) (ls : List (List I)), (weave xs ls).length = xs.length + (ls.map List.length).sum
  | [], ls => by simp [weave]
  | x :: xs, [] => by simp [weave]
  | x :: xs, l :: ls => by
    have := weave_len xs ls
    simp only [weave, List.length_append, List.length_cons, List.map_cons, List.sum_cons, this]; omega
theorem dAll_bulk : ∀ (n : Nat) (t : DT n), (dAll n t).length ≤ bulk n t
  | 0, _ => Nat.le_refl _
  | n + 1, t => by
    show (weave t.1 (t.2.1.map (dAll n))).length ≤ 1 + t.1.length + (t.2.1.map (bulk n)).sum
    rw [weave_len, List.map_map]
    have h : ((t.2.1.map (List.length ∘ dAll n)).sum) ≤ (t.2.1.map (bulk n)).sum := by
      induction t.2.1 with
      | nil => simp
      | cons k ks ih =>
        have := dAll_bulk n k
        simp only [List.map_cons, List.sum_cons, Function.comp_apply] at ih ⊢; omega
    omega

/-! ### the tree of a node whose levels are the same everywhere -/
def toBT : (h n : Nat) → DT n → BT Im h
  | _, 0, t => t.elim
  | 0, _ + 1, t => t.1
  | h + 1, n + 1, t => (t.1, t.2.1.map (toBT h n))
theorem lev_pos : ∀ (n : Nat) (t : DT n), (lev n t).2 = true → 0 < (lev n t).1
  | 0, _, h => by simp [lev] at h
  | n + 1, t, h => by
    unfold lev at h ⊢
    cases hk : t.2.1 with
    | nil => simp
    | cons k ks =>
      rw [hk] at h
      simp only at h ⊢
      split
      · simp
      · rename_i hn
        rw [if_neg hn] at h; cases h
theorem foldl_and {α : Type} (f : α → Bool) : ∀ (l : List α) (b : Bool), l.foldl (fun is x => is && f x) b = (b && l.all f)
  | [], b => by simp
  | x :: l, b => by rw [List.foldl_cons, foldl_and f l]; simp [Bool.and_assoc]
/-- The levels of a node with kids. -/
theorem lev_cons {n : Nat} {t : DT (n + 1)} {k : DT n} {ks : List (DT n)} (hk : t.2.1 = k :: ks) : lev (n + 1) t = if (k :: ks).length = t.1.length + 1 then ((lev n k).1 + 1, (k :: ks).all (fun k' => (lev n k').2 && decide ((lev n k').1 = (lev n k).1))) else (0, false) := by
  rw [lev, hk]
  simp only
  split
  · have h := foldl_and (fun k' => (lev n k').2 && decide ((lev n k').1 = (lev n k).1)) ks (lev n k).2
    congr 1
    rw [List.all_cons]
    simp only [Bool.and_assoc] at h ⊢
    rw [h]; simp
  · rfl
/-- Its tree holds the same items. -/
theorem toBT_all : ∀ (h n : Nat) (t : DT n), lev n t = (h + 1, true) → BT.all h (toBT h n t) = dAll n t
  | _, 0, t, _ => t.elim
  | 0, n + 1, t, hl => by
    cases hk : t.2.1 with
    | nil =>
      show t.1 = weave t.1 (t.2.1.map (dAll n))
      rw [hk]; cases t.1 <;> simp [weave]
    | cons k ks =>
      rw [lev_cons hk] at hl
      split at hl
      · simp only [Prod.mk.injEq] at hl
        have h2 := hl.2
        rw [List.all_cons, Bool.and_eq_true, Bool.and_eq_true] at h2
        have := lev_pos n k h2.1.1
        omega
      · cases hl
  | h + 1, n + 1, t, hl => by
    cases hk : t.2.1 with
    | nil =>
      unfold lev at hl; rw [hk] at hl
      simp at hl
    | cons k ks =>
      rw [lev_cons hk] at hl
      split at hl
      · simp only [Prod.mk.injEq] at hl
        show weave t.1 ((t.2.1.map (toBT h n)).map (BT.all h)) = weave t.1 (t.2.1.map (dAll n))
        rw [List.map_map]
        congr 1
        refine List.map_congr_left fun k' hk' => ?_
        rw [hk] at hk'
        have h3 := List.all_eq_true.1 hl.2 k' hk'
        rw [Bool.and_eq_true, decide_eq_true_eq] at h3
        exact toBT_all h n k' (Prod.ext (by rw [h3.2]; show (lev n k).1 = h + 1; omega) h3.1)
      · cases hl
/-- Its tree is a right one. -/
theorem toBT_ok {D : Nat} : ∀ (h n least : Nat) (t : DT n), lev n t = (h + 1, true) → filled D least n t = true → BT.ok (D - 1) (2 * D - 1) least h (toBT h n t)
  | _, 0, _, t, _, _ => t.elim
  | 0, n + 1, least, t, hl, hf => by
    unfold filled at hf
    rw [Bool.and_eq_true, Bool.and_eq_true, decide_eq_true_eq, decide_eq_true_eq] at hf
    exact hf.1
  | h + 1, n + 1, least, t, hl, hf => by
    unfold filled at hf
    rw [Bool.and_eq_true, Bool.and_eq_true, decide_eq_true_eq, decide_eq_true_eq] at hf
    cases hk : t.2.1 with
    | nil =>
      unfold lev at hl; rw [hk] at hl
      simp at hl
    | cons k ks =>
      rw [lev_cons hk] at hl
      split at hl
      · rename_i hn
        simp only [Prod.mk.injEq] at hl
        refine ⟨hf.1.1, hf.1.2, ?_, fun c hc => ?_⟩
        · show (t.2.1.map (toBT h n)).length = t.1.length + 1
          rw [List.length_map, hk]; exact hn
        · have hc' : c ∈ t.2.1.map (toBT h n) := hc
          obtain ⟨k', hk', rfl⟩ := List.mem_map.1 hc'
          have hk2 := hk'
          rw [hk] at hk2
          have h3 := List.all_eq_true.1 hl.2 k' hk2
          rw [Bool.and_eq_true, decide_eq_true_eq] at h3
          exact toBT_ok h n (D - 1) k' (Prod.ext (by rw [h3.2]; show (lev n k).1 = h + 1; omega) h3.1) (List.all_eq_true.1 hf.2 k' hk')
      · cases hl
end Go.Proofs.Ytehnobbiiokcgaa.Bt.ND

namespace Go.Proofs.Ytehnobbiiokcgaa.Bt.ND
set_option linter.unusedVariables false
set_option linter.unusedSimpArgs false
open Go Go.RowKit Go.Proofs.Ytehnobbiiokcgaa.Bt

variable {w : World}

theorem hidp {p : Prop} (h : p) : Hid p := h
theorem lev_le : ∀ (n : Nat) (t : DT n), (lev n t).1 ≤ bulk n t
  | 0, t => t.elim
  | n + 1, t => by
    cases hk : t.2.1 with
    | nil => rw [lev, hk]; have := (show 1 ≤ bulk (n + 1) t by show 1 ≤ 1 + t.1.length + (t.2.1.map (bulk n)).sum; omega); exact this
    | cons k ks =>
      rw [lev_cons hk]
      have := lev_le n k
      split
      · show (lev n k).1 + 1 ≤ 1 + t.1.length + (t.2.1.map (bulk n)).sum
        rw [hk, List.map_cons, List.sum_cons]; omega
      · exact Nat.zero_le _
/-- The bool that the loop keeps. -/
def same (n : Nat) (h : Nat) (ks : List (DT n)) (b : Bool) : Bool := ks.foldl (fun is k' => is && (lev n k').2 && decide ((lev n k').1 = h)) b
theorem same_take {n h : Nat} {ks : List (DT n)} {b : Bool} {j : Nat} {k : DT n} (hk : ks[j]? = some k) : same n h (ks.take (j + 1)) b = (same n h (ks.take j) b && (lev n k).2 && decide ((lev n k).1 = h)) := by
  unfold same
  rw [List.take_add_one, hk, List.foldl_append]; rfl
theorem le_sum : ∀ {l : List Nat} {x : Nat}, x ∈ l → x ≤ l.sum
  | a :: l, x, h => by
    rw [List.sum_cons]
    rcases List.mem_cons.1 h with rfl | h
    · omega
    · have := le_sum h; omega
theorem bulk_kid {n : Nat} {t : DT (n + 1)} {j : Nat} {k : DT n} (hk : t.2.1[j]? = some k) : bulk n k + t.1.length + 1 ≤ bulk (n + 1) t := by
  have h : bulk n k ≤ (t.2.1.map (bulk n)).sum := le_sum (List.mem_map.2 ⟨k, List.mem_of_getElem? hk, rfl⟩)
  show bulk n k + t.1.length + 1 ≤ 1 + t.1.length + (t.2.1.map (bulk n)).sum
  omega
theorem kids_len {n : Nat} (t : DT (n + 1)) (h : ∀ k ∈ t.2.1, 1 ≤ bulk n k) : t.2.1.length ≤ bulk (n + 1) t := by
  show t.2.1.length ≤ 1 + t.1.length + (t.2.1.map (bulk n)).sum
  have : t.2.1.length ≤ (t.2.1.map (bulk n)).sum := by
    revert h
    induction t.2.1 with
    | nil => intro _; simp
    | cons a l ih =>
      intro h
      have h1 := h a (by simp)
      have h2 := ih (fun k hk => h k (by simp [hk]))
      simp only [List.length_cons, List.map_cons, List.sum_cons]; omega
  omega
theorem bulk_pos' : ∀ {n : Nat} (t : DT n), 1 ≤ bulk n t
  | 0, t => t.elim
  | n + 1, t => by show 1 ≤ 1 + t.1.length + (t.2.1.map (bulk n)).sum; omega

set_option maxHeartbeats 2000000 in
set_option maxRecDepth 100000 in
/-- 'Levels' -/
theorem levels_is : ∀ (n : Nat) (t : DT n) {w : World} {vi vk : Value} {c : Int}, NodeAt w n t vi vk c → bulk n t ≤ 10000000 →
    Calls Try.prog 48 #[.agg #[vi, vk, .int .i64 c]] w (fun e w' => e = .returned (.tuple #[.int .i64 ((lev n t).1 : Nat), .bool (lev n t).2]) ∧ Below w.heap.size w w')
  | 0, _, _, _, _, _, h, _ => h.elim
  | n + 1, t, w, vi, vk, c, hN, hb => by
    have IH := fun (k : DT n) => @levels_is n k
    obtain ⟨hc, ⟨ia, icap, rfl, _, hi⟩, a, cap, rfl, hlc, hk⟩ := hN
    have hkl := kids_len t (fun k _ => bulk_pos' k)
    have hil : t.1.length ≤ 10000000 := by have : t.1.length ≤ bulk (n + 1) t := (by show t.1.length ≤ 1 + t.1.length + (t.2.1.map (bulk n)).sum; omega); omega
    have hB1 : Below w.heap.size w (w.alloc (.cells #[.slice ia t.1.length icap, .slice a t.2.1.length cap, .int .i64 c] 25)) := (Below.refl _ _).alloc (Nat.le_refl _) _
    have HB1 := hidp hB1
    have HK := hidp hk
    clear hi hk hB1 hc
    cases hks : t.2.1 with
    | nil =>
      have e1 : lev (n + 1) t = (1, true) := by rw [lev, hks]
      rw [e1]
      rw [hks] at HB1
      clear HK IH
      go_enter Try.func48, Try.ntmps48
      go_wp2
      go_ret2
      exact ⟨rfl, HB1.out⟩
    | cons k ks =>
      obtain ⟨b, off, vi0, vk0, c0, ha0, g1, g2, g3, hn0⟩ := HK.out 0 k (by rw [hks]; rfl)
      subst ha0
      rw [hks] at hlc hkl HB1
      have hcap : 1 ≤ cap := by simp at hlc; omega
      have hkl' : ks.length + 1 ≤ 10000000 := Nat.le_trans hkl hb
      by_cases hn : (k :: ks).length = t.1.length + 1
      · have e1 : lev (n + 1) t = ((lev n k).1 + 1, same n (lev n k).1 ks (lev n k).2) := by
          rw [lev, hks]; simp only; rw [if_pos hn]; rfl
        rw [e1]
        have hni : ((ks.length : Int) + 1) = (t.1.length : Int) + 1 := by simp at hn; omega
        have hsz : (w.alloc (.cells #[.slice ia t.1.length icap, .slice (some ⟨b, off, none⟩) (k :: ks).length cap, .int .i64 c] 25)).heap.size = w.heap.size + 1 := by simp
        have hbk := bulk_kid (t := t) (j := 0) (k := k) (by rw [hks]; rfl)
        have hle := lev_le n k
        have hI := IH k (hn0.below HB1.out) (by omega)
        have hbl : b < w.heap.size := World.block_lt_of_cell? w _ g1
        have hbne : ¬ b = w.heap.size := by omega
        rw [Nat.zero_mul, Nat.add_zero] at g1 g2 g3
        have HI := hidp hI
        obtain ⟨i1, i2, icap0, hvi0⟩ : ∃ x y z, vi0 = .slice x y z := by
          obtain ⟨m, rfl⟩ := hn0.form
          obtain ⟨_, ⟨x, y, e, _⟩, _⟩ := hn0
          exact ⟨x, _, y, e⟩
        obtain ⟨q1, q2, kcap0, hvk0⟩ : ∃ x y z, vk0 = .slice x y z := by
          obtain ⟨m, rfl⟩ := hn0.form
          obtain ⟨_, _, x, y, e, _⟩ := hn0
          exact ⟨x, _, y, e⟩
        subst hvi0; subst hvk0
        clear hI hn0
        have hcc : (1 : Int) ≤ (cap : Int) := by omega
        have hlc1 : (1 : Int) ≤ ((ks.length + 1 : Nat) : Int) := by omega
        go_enter Try.func48, Try.ntmps48
        go_wp2_with fail
        refine HI.out.mono ?_
        rintro e w2 ⟨rfl, hb2⟩
        have HB2 := hidp (HB1.out.trans (hb2.mono (by rw [hsz]; omega)))
        have cx1 := (hb2.cell (p := ⟨w.heap.size, 1, none⟩) (by show w.heap.size < _; rw [hsz]; omega)).trans ((Bx.new w [.slice ia t.1.length icap, .slice (some ⟨b, off, none⟩) (k :: ks).length cap, .int .i64 c] 25).cell 1 rfl)
        clear hb2 HI HB1 g1 g2 g3
        by_cases hc1 : cap = 1
        · subst hc1
          have hks0 : ks = [] := List.eq_nil_of_length_eq_zero (by have h : ks.length + 1 ≤ 1 := hlc; omega)
          have e2 : same n (lev n k).1 ks (lev n k).2 = (lev n k).2 := by rw [hks0]; rfl
          have HE2 := hidp e2
          clear IH HK e1 e2
          go_wp2
          go_loopw [5, 34] (fun is i wr => is = .bool (lev n k).2 ∧ i = .int .i64 0 ∧ wr = w2) (fun _ _ _ => 0)
          case atStart => exact ⟨rfl, rfl, rfl⟩
          case round =>
            obtain ⟨rfl, rfl, rfl⟩ := hrel
            go_wp2
            go_ret2
            exact ⟨by rw [HE2.out]; first | rfl | go_num, HB2.out⟩
        · have hc1' : ¬ (cap : Int) = 1 := by omega
          go_wp2
          go_loopw [5, 34] (fun is i wr => ∃ j : Nat, j ≤ ks.length ∧ i = .int .i64 j ∧ is = .bool (same n (lev n k).1 (ks.take j) (lev n k).2) ∧ Hid (Below w.heap.size w wr)) (fun _ i _ => ks.length - (intOf i).toNat)
          case atStart => exact ⟨0, Nat.zero_le _, rfl, rfl, HB2⟩
          case round =>
            obtain ⟨j, hj, rfl, rfl, HBR⟩ := hrel
            by_cases hlt : j < ks.length
            · obtain ⟨k', hk'⟩ : ∃ k', ks[j]? = some k' := ⟨ks[j], List.getElem?_eq_getElem hlt⟩
              obtain ⟨b', off', vi', vk', c', ha, g1, g2, g3, hn'⟩ := HK.out (j + 1) k' (by rw [hks]; simpa using hk')
              obtain ⟨rfl, rfl⟩ : b = b' ∧ off = off' := by
                injection ha with ha
                injection ha with h1 h2 _
                exact ⟨h1, h2⟩
              have hbl : b < w.heap.size := World.block_lt_of_cell? w _ g1
              have y1 : wr.cell? ⟨b, off + 3 + j * 3, none⟩ = some vi' := by rw [show off + 3 + j * 3 = off + (j + 1) * 3 by omega]; exact (HBR.out.cell (p := ⟨b, off + (j + 1) * 3, none⟩) hbl).trans g1
              have y2 : wr.cell? ⟨b, off + 3 + j * 3 + 1, none⟩ = some vk' := by rw [show off + 3 + j * 3 + 1 = off + (j + 1) * 3 + 1 by omega]; exact (HBR.out.cell (p := ⟨b, off + (j + 1) * 3 + 1, none⟩) hbl).trans g2
              have y3 : wr.cell? ⟨b, off + 3 + j * 3 + 2, none⟩ = some (.int .i64 c') := by rw [show off + 3 + j * 3 + 2 = off + (j + 1) * 3 + 2 by omega]; exact (HBR.out.cell (p := ⟨b, off + (j + 1) * 3 + 2, none⟩) hbl).trans g3
              have hs0 := HBR.out.size
              have hBA : Below w.heap.size w (wr.alloc (.cells #[vi', vk', .int .i64 c'] 25)) := HBR.out.alloc hs0 _
              have hbk := bulk_kid (t := t) (j := j + 1) (k := k') (by rw [hks]; simpa using hk')
              have hI := IH k' (hn'.below hBA) (by omega)
              have HI := hidp hI
              have HBA := hidp hBA
              have HST := hidp (same_take (n := n) (h := (lev n k).1) (b := (lev n k).2) hk')
              have jlt : (j : Int) < (ks.length : Int) := by omega
              obtain ⟨i1', i2', icap', hvi⟩ : ∃ x y z, vi' = .slice x y z := by
                obtain ⟨m, rfl⟩ := hn'.form
                obtain ⟨_, ⟨x, y, e, _⟩, _⟩ := hn'
                exact ⟨x, _, y, e⟩
              obtain ⟨q1', q2', kcap', hvk⟩ : ∃ x y z, vk' = .slice x y z := by
                obtain ⟨m, rfl⟩ := hn'.form
                obtain ⟨_, _, x, y, e, _⟩ := hn'
                exact ⟨x, _, y, e⟩
              subst hvi; subst hvk
              clear g1 g2 g3 hI hBA hk' ha IH HK hn'
              go_wp2_with fail
              refine HI.out.mono ?_
              rintro e w3 ⟨rfl, hb3⟩
              have HB3 := hidp (HBA.out.trans (hb3.mono (by rw [World.size_alloc]; omega)))
              clear hb3 HI HBA
              generalize hsj : same n (lev n k).1 (ks.take j) (lev n k).2 = sj at HST ⊢
              generalize hlk : (lev n k').2 = lk at HST ⊢
              by_cases hhh : (lev n k').1 = (lev n k).1
              · have hz : (((lev n k').1 : Nat) : Int) = (((lev n k).1 : Nat) : Int) := by rw [hhh]
                cases sj <;> cases lk
                all_goals (go_wp2; go_roundw)
                all_goals first | (exact ⟨j + 1, by omega, by go_num, by rw [HST.out, hhh]; simp, HB3⟩) | (simp [intOf]; omega)
              · have hz : ¬ (((lev n k').1 : Nat) : Int) = (((lev n k).1 : Nat) : Int) := fun e => hhh (Int.ofNat.inj e)
                cases sj <;> cases lk
                all_goals (go_wp2; go_roundw)
                all_goals first | (exact ⟨j + 1, by omega, by go_num, by (rw [HST.out, decide_eq_false hhh]; simp <;> exact hz), HB3⟩) | (simp [intOf]; omega)
            · obtain rfl : j = ks.length := by omega
              rw [List.take_length]
              clear IH HK
              go_wp2
              go_ret2
              exact ⟨by first | rfl | go_num, HBR.out⟩
      · have e1 : lev (n + 1) t = (0, false) := by
          rw [lev, hks]; simp only; rw [if_neg hn]
        rw [e1]
        have hni : ¬ ((ks.length : Int) + 1) = (t.1.length : Int) + 1 := by simp at hn; omega
        clear HK IH hn0 g1 g2 g3
        go_enter Try.func48, Try.ntmps48
        go_wp2
        go_ret2
        exact ⟨rfl, HB1.out⟩
end Go.Proofs.Ytehnobbiiokcgaa.Bt.ND
