/- Nodes as data: a node with the right counts is its tree's node. -/
import Derived.Test.YtehnobbiiokcgaaBtOg
namespace Go.Proofs.Ytehnobbiiokcgaa.Bt.ND
set_option linter.unusedVariables false
set_option linter.unusedSimpArgs false
open Go Go.RowKit Go.Proofs.Ytehnobbiiokcgaa.Bt

theorem lev_nil {n : Nat} {t : DT (n + 1)} (hl : lev (n + 1) t = (1, true)) : t.2.1 = [] := by
  cases hk : t.2.1 with
  | nil => rfl
  | cons k ks =>
    rw [lev_cons hk] at hl
    split at hl
    · simp only [Prod.mk.injEq] at hl
      have h2 := hl.2
      rw [List.all_cons, Bool.and_eq_true, Bool.and_eq_true] at h2
      have := lev_pos n k h2.1.1
      omega
    · cases hl
theorem lev_kid {h n : Nat} {t : DT (n + 1)} (hl : lev (n + 1) t = (h + 2, true)) {k' : DT n} (hk' : k' ∈ t.2.1) : lev n k' = (h + 1, true) := by
  cases hk : t.2.1 with
  | nil => rw [hk] at hk'; cases hk'
  | cons k ks =>
    rw [lev_cons hk] at hl
    split at hl
    · simp only [Prod.mk.injEq] at hl
      rw [hk] at hk'
      have h3 := List.all_eq_true.1 hl.2 k' hk'
      rw [Bool.and_eq_true, decide_eq_true_eq] at h3
      exact Prod.ext (by rw [h3.2]; show (lev n k).1 = h + 1; omega) h3.1
    · cases hl
/-- A node with the right counts is its tree's node. -/
theorem retype : ∀ (h n : Nat) (t : DT n) {w : World} {vi vk : Value} {c : Int}, lev n t = (h + 1, true) → NodeAt w n (wcn n t) vi vk c → NodeAt w (h + 1) (ofBT h (toBT h n t)) vi vk c
  | _, 0, t, _, _, _, _, _, _ => t.elim
  | 0, n + 1, t, w, vi, vk, c, hl, hN => by
    have hall := toBT_all 0 (n + 1) t hl
    have hnil := lev_nil hl
    obtain ⟨h1, h2, ka, kcap, e, h3, h4⟩ := hN
    refine ⟨?_, h2, ka, kcap, ?_, Nat.zero_le _, fun j k hk => ?_⟩
    · rw [h1]
      show (((dAll (n + 1) t).length : Nat) : Int) = ((List.length t.1 : Nat) : Int)
      rw [← hall]; rfl
    · rw [e]
      show Value.slice ka (t.2.1.map (wcn n)).length kcap = Value.slice ka 0 kcap
      rw [hnil]; rfl
    · have h5 : ([] : List (DT 0))[j]? = some k := hk
      simp at h5
  | h + 1, n + 1, t, w, vi, vk, c, hl, hN => by
    have hall := toBT_all (h + 1) (n + 1) t hl
    obtain ⟨h1, h2, ka, kcap, e, h3, h4⟩ := hN
    have hlen : (ofBT (h + 1) (toBT (h + 1) (n + 1) t)).2.1.length = (wcn (n + 1) t).2.1.length := by
      show ((t.2.1.map (toBT h n)).map (ofBT h)).length = (t.2.1.map (wcn n)).length
      simp
    refine ⟨?_, h2, ka, kcap, ?_, ?_, fun j k hk => ?_⟩
    · rw [h1]
      show (((dAll (n + 1) t).length : Nat) : Int) = (((BT.all (h + 1) (toBT (h + 1) (n + 1) t)).length : Nat) : Int)
      rw [hall]
    · rw [e, hlen]
    · rw [hlen]; exact h3
    · have hk2 : ((t.2.1.map (toBT h n)).map (ofBT h))[j]? = some k := hk
      rw [List.getElem?_map, List.getElem?_map] at hk2
      cases hq : t.2.1[j]? with
      | none => rw [hq] at hk2; cases hk2
      | some k' =>
        rw [hq] at hk2
        obtain rfl : ofBT h (toBT h n k') = k := by simpa using hk2
        obtain ⟨b, off, vi', vk', c', g0, g1, g2, g3, g4⟩ := h4 j (wcn n k') (by show (t.2.1.map (wcn n))[j]? = _; rw [List.getElem?_map, hq]; rfl)
        exact ⟨b, off, vi', vk', c', g0, g1, g2, g3, retype h n k' (lev_kid hl (List.mem_of_getElem? hq)) g4⟩
end Go.Proofs.Ytehnobbiiokcgaa.Bt.ND
