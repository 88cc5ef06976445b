/- Nodes as data: trees of whatever shape, as they came in (no program). -/
import Derived.Test.YtehnobbiiokcgaaBtRow
import Derived.Test.YtehnobbiiokcgaaBtTree
import Derived.Test.YtehnobbiiokcgaaBtSl
namespace Go.Proofs.Ytehnobbiiokcgaa.Bt.ND
set_option linter.unusedVariables false
set_option linter.unusedSimpArgs false
open Go Go.RowKit Go.Proofs.Ytehnobbiiokcgaa.Bt

/-- An item: key and value. -/
abbrev Im := Int × Int
/-- A node as data: its items, its kids, its count (n: more than its depth). -/
@[reducible] def DT : Nat → Type
  | 0 => Empty
  | n + 1 => List Im × List (DT n) × Int
def DT.its {n : Nat} (t : DT (n + 1)) : List Im := t.1
def DT.kids {n : Nat} (t : DT (n + 1)) : List (DT n) := t.2.1

/-! ### in memory -/
/-- v is a slice that reads as the items l. -/
def Its (w : World) (v : Value) (l : List Im) : Prop :=
  ∃ a cap, v = .slice a l.length cap ∧ l.length ≤ cap ∧ ∀ j x, l[j]? = some x → ∃ b off, a = some ⟨b, off, none⟩ ∧ w.cell? ⟨b, off + j * 2, none⟩ = some (.int .i64 x.1) ∧ w.cell? ⟨b, off + j * 2 + 1, none⟩ = some (.int .i64 x.2)
theorem Its.below {w w' : World} {v : Value} {l : List Im} (h : Its w v l) (hb : Below w.heap.size w w') : Its w' v l := by
  obtain ⟨a, cap, e, hlc, hc⟩ := h
  refine ⟨a, cap, e, hlc, fun j x hx => ?_⟩
  obtain ⟨b, off, ha, h1, h2⟩ := hc j x hx
  exact ⟨b, off, ha, (hb.cell (p := ⟨b, off + j * 2, none⟩) (World.block_lt_of_cell? w _ h1)).trans h1, (hb.cell (p := ⟨b, off + j * 2 + 1, none⟩) (World.block_lt_of_cell? w _ h2)).trans h2⟩
/-- The two slices vi, vk and the number c are the node t. -/
def NodeAt (w : World) : (n : Nat) → DT n → Value → Value → Int → Prop
  | 0, _, _, _, _ => False
  | n + 1, t, vi, vk, c => c = t.2.2 ∧ Its w vi t.1 ∧ ∃ a cap, vk = .slice a t.2.1.length cap ∧ t.2.1.length ≤ cap ∧ ∀ j k, t.2.1[j]? = some k →
      ∃ b off vi' vk' c', a = some ⟨b, off, none⟩ ∧ w.cell? ⟨b, off + j * 3, none⟩ = some vi' ∧ w.cell? ⟨b, off + j * 3 + 1, none⟩ = some vk' ∧ w.cell? ⟨b, off + j * 3 + 2, none⟩ = some (.int .i64 c') ∧ NodeAt w n k vi' vk' c'
theorem NodeAt.below {w w' : World} (hb : Below w.heap.size w w') : ∀ {n : Nat} {t : DT n} {vi vk : Value} {c : Int}, NodeAt w n t vi vk c → NodeAt w' n t vi vk c
  | 0, _, _, _, _, h => h
  | n + 1, t, vi, vk, c, h => by
    obtain ⟨h1, h2, a, cap, e, hlc, hk⟩ := h
    refine ⟨h1, h2.below hb, a, cap, e, hlc, fun j k hj => ?_⟩
    obtain ⟨b, off, vi', vk', c', ha, g1, g2, g3, g4⟩ := hk j k hj
    exact ⟨b, off, vi', vk', c', ha, (hb.cell (p := ⟨b, off + j * 3, none⟩) (World.block_lt_of_cell? w _ g1)).trans g1, (hb.cell (p := ⟨b, off + j * 3 + 1, none⟩) (World.block_lt_of_cell? w _ g2)).trans g2,
      (hb.cell (p := ⟨b, off + j * 3 + 2, none⟩) (World.block_lt_of_cell? w _ g3)).trans g3, g4.below hb⟩
theorem NodeAt.form {w : World} : ∀ {n : Nat} {t : DT n} {vi vk : Value} {c : Int}, NodeAt w n t vi vk c → ∃ m, n = m + 1
  | 0, _, _, _, _, h => h.elim
  | m + 1, _, _, _, _, _ => ⟨m, rfl⟩

/-! ### what the definitions make of a node -/
/-- All items, in order. -/
def dAll : (n : Nat) → DT n → List Im
  | 0, _ => []
  | n + 1, t => weave t.1 (t.2.1.map (dAll n))
/-- How many levels, and whether they are the same everywhere. -/
def lev : (n : Nat) → DT n → Nat × Bool
  | 0, _ => (0, false)
  | n + 1, t => match t.2.1 with
    | [] => (1, true)
    | k :: ks => if (k :: ks).length = t.1.length + 1 then ((lev n k).1 + 1, ks.foldl (fun is k' => is && (lev n k').2 && decide ((lev n k').1 = (lev n k).1)) (lev n k).2) else (0, false)
/-- Are the nodes filled? -/
def filled (D : Nat) : (least n : Nat) → DT n → Bool
  | _, 0, _ => false
  | least, n + 1, t => decide (least ≤ t.1.length) && decide (t.1.length ≤ 2 * D - 1) && t.2.1.all (filled D (D - 1) n)
/-- Do the keys rise? -/
def rising (l : List Im) : Prop := l.Pairwise (fun a b => a.1 < b.1)
/-- How many items and nodes there are, each counted as often as it is met. -/
def bulk : (n : Nat) → DT n → Nat
  | 0, _ => 0
  | n + 1, t => 1 + t.1.length + (t.2.1.map (bulk n)).sum

theorem weave_len {I : Type} : ∀ (xs : List I) (ls : List (List I)), (weave xs ls).length = xs.length + (ls.map List.length).sum
  | [], ls => by simp [weave]
  | x :: xs, [] => by simp [weave]
  | x :: xs, l :: ls => by
    have := weave_len xs ls
    simp only [weave, List.length_append, List.length_cons, List.map_cons, List.sum_cons, this]; omega
theorem dAll_bulk : ∀ (n : Nat) (t : DT n), (dAll n t).length ≤ bulk n t
  | 0, _ => Nat.le_refl _
  | n + 1, t => by
    show (weave t.1 (t.2.1.map (dAll n))).length ≤ 1 + t.1.length + (t.2.1.map (bulk n)).sum
    rw [weave_len, List.map_map]
    have h : ((t.2.1.map (List.length ∘ dAll n)).sum) ≤ (t.2.1.map (bulk n)).sum := by
      induction t.2.1 with
      | nil => simp
      | cons k ks ih =>
        have := dAll_bulk n k
        simp only [List.map_cons, List.sum_cons, Function.comp_apply] at ih ⊢; omega
    omega

/-! ### the tree of a node whose levels are the same everywhere -/
def toBT : (h n : Nat) → DT n → BT Im h
  | _, 0, t => t.elim
  | 0, _ + 1, t => t.1
  | h + 1, n + 1, t => (t.1, t.2.1.map (toBT h n))
theorem lev_pos : ∀ (n : Nat) (t : DT n), (lev n t).2 = true → 0 < (lev n t).1
  | 0, _, h => by simp [lev] at h
  | n + 1, t, h => by
    unfold lev at h ⊢
    cases hk : t.2.1 with
    | nil => simp
    | cons k ks =>
      rw [hk] at h
      simp only at h ⊢
      split
      · simp
      · rename_i hn
        rw [if_neg hn] at h; cases h
theorem foldl_and {α : Type} (f : α → Bool) : ∀ (l : List α) (b : Bool), l.foldl (fun is x => is && f x) b = (b && l.all f)
  | [], b => by simp
  | x :: l, b => by rw [List.foldl_cons, foldl_and f l]; simp [Bool.and_assoc]
/-- The levels of a node with kids. -/
theorem lev_cons {n : Nat} {t : DT (n + 1)} {k : DT n} {ks : List (DT n)} (hk : t.2.1 = k :: ks) : lev (n + 1) t = if (k :: ks).length = t.1.length + 1 then ((lev n k).1 + 1, (k :: ks).all (fun k' => (lev n k').2 && decide ((lev n k').1 = (lev n k).1))) else (0, false) := by
  rw [lev, hk]
  simp only
  split
  · have h := foldl_and (fun k' => (lev n k').2 && decide ((lev n k').1 = (lev n k).1)) ks (lev n k).2
    congr 1
    rw [List.all_cons]
    simp only [Bool.and_assoc] at h ⊢
    rw [h]; simp
  · rfl
/-- Its tree holds the same items. -/
theorem toBT_all : ∀ (h n : Nat) (t : DT n), lev n t = (h + 1, true) → BT.all h (toBT h n t) = dAll n t
  | _, 0, t, _ => t.elim
  | 0, n + 1, t, hl => by
    cases hk : t.2.1 with
    | nil =>
      show t.1 = weave t.1 (t.2.1.map (dAll n))
      rw [hk]; cases t.1 <;> simp [weave]
    | cons k ks =>
      rw [lev_cons hk] at hl
      split at hl
      · simp only [Prod.mk.injEq] at hl
        have h2 := hl.2
        rw [List.all_cons, Bool.and_eq_true, Bool.and_eq_true] at h2
        have := lev_pos n k h2.1.1
        omega
      · cases hl
  | h + 1, n + 1, t, hl => by
    cases hk : t.2.1 with
    | nil =>
      unfold lev at hl; rw [hk] at hl
      simp at hl
    | cons k ks =>
      rw [lev_cons hk] at hl
      split at hl
      · simp only [Prod.mk.injEq] at hl
        show weave t.1 ((t.2.1.map (toBT h n)).map (BT.all h)) = weave t.1 (t.2.1.map (dAll n))
        rw [List.map_map]
        congr 1
        refine List.map_congr_left fun k' hk' => ?_
        rw [hk] at hk'
        have h3 := List.all_eq_true.1 hl.2 k' hk'
        rw [Bool.and_eq_true, decide_eq_true_eq] at h3
        exact toBT_all h n k' (Prod.ext (by rw [h3.2]; show (lev n k).1 = h + 1; omega) h3.1)
      · cases hl
/-- Its tree is a right one. -/
theorem toBT_ok {D : Nat} : ∀ (h n least : Nat) (t : DT n), lev n t = (h + 1, true) → filled D least n t = true → BT.ok (D - 1) (2 * D - 1) least h (toBT h n t)
  | _, 0, _, t, _, _ => t.elim
  | 0, n + 1, least, t, hl, hf => by
    unfold filled at hf
    rw [Bool.and_eq_true, Bool.and_eq_true, decide_eq_true_eq, decide_eq_true_eq] at hf
    exact hf.1
  | h + 1, n + 1, least, t, hl, hf => by
    unfold filled at hf
    rw [Bool.and_eq_true, Bool.and_eq_true, decide_eq_true_eq, decide_eq_true_eq] at hf
    cases hk : t.2.1 with
    | nil =>
      unfold lev at hl; rw [hk] at hl
      simp at hl
    | cons k ks =>
      rw [lev_cons hk] at hl
      split at hl
      · rename_i hn
        simp only [Prod.mk.injEq] at hl
        refine ⟨hf.1.1, hf.1.2, ?_, fun c hc => ?_⟩
        · show (t.2.1.map (toBT h n)).length = t.1.length + 1
          rw [List.length_map, hk]; exact hn
        · have hc' : c ∈ t.2.1.map (toBT h n) := hc
          obtain ⟨k', hk', rfl⟩ := List.mem_map.1 hc'
          have hk2 := hk'
          rw [hk] at hk2
          have h3 := List.all_eq_true.1 hl.2 k' hk2
          rw [Bool.and_eq_true, decide_eq_true_eq] at h3
          exact toBT_ok h n (D - 1) k' (Prod.ext (by rw [h3.2]; show (lev n k).1 = h + 1; omega) h3.1) (List.all_eq_true.1 hf.2 k' hk')
      · cases hl
end Go.Proofs.Ytehnobbiiokcgaa.Bt.ND
