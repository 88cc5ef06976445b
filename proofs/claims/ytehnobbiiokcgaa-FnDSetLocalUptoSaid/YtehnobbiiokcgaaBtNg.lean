/- Nodes as data: Filled. -/
import Derived.Test.YtehnobbiiokcgaaBtNf
import Derived.Test.YtehnobbiiokcgaaBtLast
namespace Go.Proofs.Ytehnobbiiokcgaa.Bt.ND
set_option linter.unusedVariables false
set_option linter.unusedSimpArgs false
open Go Go.RowKit Go.Proofs.Ytehnobbiiokcgaa.Bt

theorem NodeAt.vals {w : World} : ∀ {n : Nat} {t : DT n} {vi vk : Value} {c : Int}, NodeAt w n t vi vk c → (∃ x y z, vi = .slice x y z) ∧ ∃ x y z, vk = .slice x y z
  | 0, _, _, _, _, h => h.elim
  | n + 1, t, vi, vk, c, h => by
    obtain ⟨_, ⟨x, y, e, _⟩, a, b, e2, _⟩ := h
    exact ⟨⟨x, _, y, e⟩, a, _, b, e2⟩
theorem all_take {α : Type} {f : α → Bool} {l : List α} {j : Nat} {x : α} (h : l[j]? = some x) : (l.take (j + 1)).all f = ((l.take j).all f && f x) := by
  rw [List.take_add_one, h, List.all_append]; simp

set_option maxHeartbeats 2000000 in
set_option maxRecDepth 100000 in
/-- 'Filled' -/
theorem filled_is {D : Nat} (hD : 2 ≤ D) (hD2 : D ≤ 1000) : ∀ (n : Nat) (t : DT n) (least : Nat) {w : World} {vi vk : Value} {c : Int}, least ≤ 1000 → NodeAt w n t vi vk c → bulk n t ≤ 10000000 →
    Calls Try.prog 54 #[.int .i64 D, .int .i64 least, .agg #[vi, vk, .int .i64 c]] w (fun e w' => e = .returned (.bool (filled D least n t)) ∧ Below w.heap.size w w')
  | 0, _, _, _, _, _, _, _, h, _ => h.elim
  | n + 1, t, least, w, vi, vk, c, hle, hN, hb => by
    have IH := fun (k : DT n) => @filled_is D hD hD2 n k (D - 1)
    obtain ⟨hc, ⟨ia, icap, rfl, _, hi⟩, a, cap, rfl, hlc, hk⟩ := hN
    have hkl := Nat.le_trans (kids_len t (fun k _ => bulk_pos' k)) hb
    have hil : t.1.length ≤ 10000000 := by have : t.1.length ≤ bulk (n + 1) t := (by show t.1.length ≤ 1 + t.1.length + (t.2.1.map (bulk n)).sum; omega); omega
    have hB1 : Below w.heap.size w (w.alloc (.cells #[.slice ia t.1.length icap, .slice a t.2.1.length cap, .int .i64 c] 25)) := (Below.refl _ _).alloc (Nat.le_refl _) _
    have HB1 := hidp hB1
    have HK := hidp hk
    have ef : filled D least (n + 1) t = (decide (least ≤ t.1.length) && decide (t.1.length ≤ 2 * D - 1) && t.2.1.all (filled D (D - 1) n)) := rfl
    clear hi hk hB1 hc
    have hm1 : IntKind.i64.wrap (2 * (D : Int)) = 2 * (D : Int) := by rw [Last.i64_w, IntWalk.wrap64_in _ ⟨by omega, by omega⟩]
    by_cases h1 : t.1.length < least
    · have e1 : filled D least (n + 1) t = false := by rw [ef, decide_eq_false (by omega)]; rfl
      rw [e1]
      have h1' : (t.1.length : Int) < (least : Int) := by omega
      clear HK IH ef
      go_enter Try.func54, Try.ntmps54
      go_wp2
      go_ret
      exact ⟨rfl, HB1.out⟩
    · have h1' : ¬ (t.1.length : Int) < (least : Int) := by omega
      by_cases h2 : 2 * D - 1 < t.1.length
      · have e1 : filled D least (n + 1) t = false := by rw [ef, decide_eq_false (show ¬ t.1.length ≤ 2 * D - 1 by omega)]; simp
        rw [e1]
        have h2' : 2 * (D : Int) - 1 < (t.1.length : Int) := by omega
        clear HK IH ef
        go_enter Try.func54, Try.ntmps54
        go_wp2
        go_ret
        exact ⟨rfl, HB1.out⟩
      · have h2' : ¬ 2 * (D : Int) - 1 < (t.1.length : Int) := by omega
        have e1 : filled D least (n + 1) t = t.2.1.all (filled D (D - 1) n) := by rw [ef, decide_eq_true (by omega), decide_eq_true (by omega)]; simp
        rw [e1]
        have HE := hidp e1
        clear ef e1
        have hd1 : ((D - 1 : Nat) : Int) = (D : Int) - 1 := by omega
        go_enter Try.func54, Try.ntmps54
        go_wp2
        go_loopw [26] (fun i wr => ∃ j : Nat, j ≤ t.2.1.length ∧ i = .int .i64 j ∧ Hid ((t.2.1.take j).all (filled D (D - 1) n) = true ∧ Below w.heap.size w wr)) (fun i _ => t.2.1.length - (intOf i).toNat)
        case atStart => exact ⟨0, Nat.zero_le _, rfl, hidp ⟨by simp, HB1.out⟩⟩
        case round =>
          obtain ⟨j, hj, rfl, HBR⟩ := hrel
          by_cases hlt : j < t.2.1.length
          · obtain ⟨k', hk'⟩ : ∃ k', t.2.1[j]? = some k' := ⟨t.2.1[j], List.getElem?_eq_getElem hlt⟩
            obtain ⟨b, off, vi', vk', c', rfl, g1, g2, g3, hn'⟩ := HK.out j k' hk'
            have hbl : b < w.heap.size := World.block_lt_of_cell? w _ g1
            have y1 := (HBR.out.2.cell (p := ⟨b, off + j * 3, none⟩) hbl).trans g1
            have y2 := (HBR.out.2.cell (p := ⟨b, off + j * 3 + 1, none⟩) hbl).trans g2
            have y3 := (HBR.out.2.cell (p := ⟨b, off + j * 3 + 2, none⟩) hbl).trans g3
            have hs0 := HBR.out.2.size
            obtain ⟨⟨i1, i2, icap', rfl⟩, q1, q2, kcap', rfl⟩ := hn'.vals
            have hBA := HBR.out.2.alloc hs0 (.cells #[.slice i1 i2 icap', .slice q1 q2 kcap', .int .i64 c'] 25)
            have hbk := bulk_kid (t := t) (j := j) (k := k') hk'
            have hI := IH k' (by omega) (hn'.below hBA) (by omega)
            rw [hd1] at hI
            have HBA := hidp hBA
            have HST := hidp (all_take (f := filled D (D - 1) n) hk')
            have HM := hidp (List.mem_of_getElem? hk')
            have jlt : (j : Int) < (t.2.1.length : Int) := by omega
            clear g1 g2 g3 hBA hk' HK IH hn'
            cases hv : filled D (D - 1) n k' with
            | true =>
              rw [hv] at hI
              have HI := hidp hI
              clear hI
              go_wp2_with fail
              refine HI.out.mono ?_
              rintro e w3 ⟨rfl, hb3⟩
              have HB3 := hidp (HBA.out.trans (hb3.mono (by rw [World.size_alloc]; omega)))
              clear hb3 HI HBA
              go_wp2
              go_roundw
              case rel => exact ⟨j + 1, by omega, by go_num, hidp ⟨by rw [HST.out, HBR.out.1, hv]; rfl, HB3.out⟩⟩
              case measure => simp [intOf]; omega
            | false =>
              rw [hv] at hI
              have HI := hidp hI
              clear hI
              go_wp2_with fail
              refine HI.out.mono ?_
              rintro e w3 ⟨rfl, hb3⟩
              have HB3 := hidp (HBA.out.trans (hb3.mono (by rw [World.size_alloc]; omega)))
              clear hb3 HI HBA
              go_wp2
              go_ret
              have e0 : t.2.1.all (filled D (D - 1) n) = false := List.all_eq_false.2 ⟨k', HM.out, by rw [hv]; simp⟩
              exact ⟨by rw [e0]; try rfl, HB3.out⟩
          · obtain rfl : j = t.2.1.length := by omega
            have HF := hidp HBR.out
            clear HBR HK IH
            go_wp2
            go_ret
            obtain ⟨g1, g2⟩ := HF.out
            rw [List.take_length] at g1
            exact ⟨by rw [g1]; try rfl, g2⟩
end Go.Proofs.Ytehnobbiiokcgaa.Bt.ND
