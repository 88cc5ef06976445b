/- Maps from strings: 'turned' of words. -/
import Derived.Test.YtbfaldccnaekeaaBtWy
import Derived.Test.YtbfaldccnaekeaaBtWv
import Derived.Test.YtbfaldccnaekeaaBtShW
import Derived.Shelf.SlicesE.Clone
import Derived.Shelf.SlicesQ.Reverse
import Derived.Lib.OwnBridge
namespace Go.Proofs.Ytbfaldccnaekeaa.Bt.W
set_option linter.unusedVariables false
set_option linter.unusedSimpArgs false
open Go Go.RowKit Go.Shelf Go.Sort Go.Proofs Go.Proofs.Ytbfaldccnaekeaa.Bt

variable {w : World}

theorem holdsK_of {g cap : Nat} {l : List Wd} (hok : (⟨g, 0, cap, itemCells EW l⟩ : Ch).Ok w) : HoldsK EW.enc 2 w g 0 l.toArray := by
  intro j hj
  rw [size_flatK] at hj
  rw [get_flatK _ _ _ _ hj]
  have hj2 : j / 2 < l.length := by simp at hj; omega
  have hx : l[j / 2]? = some l[j / 2] := List.getElem?_eq_getElem hj2
  have hu := itemCells_get (E := EW) l (j / 2) _ hx (j % 2) (show j % 2 < 2 by omega)
  rw [show j / 2 * EW.sz + j % 2 = j from by show j / 2 * 2 + j % 2 = j; omega] at hu
  have hl : (EW.enc l[j / 2]).length = 2 := rfl
  have he : (EW.enc l[j / 2])[j % 2]? = some (EW.enc l[j / 2])[j % 2]! := by
    rw [List.getElem!_eq_getElem?_getD, List.getElem?_eq_getElem (by rw [hl]; omega)]; rfl
  rw [he] at hu
  have hm : M w g (0 + j) = some (EW.enc l[j / 2])[j % 2]! := hok.val j _ hu
  have hd : l.toArray[j / 2]! = l[j / 2] := by simp [hj2]
  rw [hd]
  exact ⟨M_cell hm, M_froz hm⟩
theorem wds_of_holds {g cap : Nat} {l : List Wd} (h : HoldsK EW.enc 2 w g 0 l.toArray) : Wds w (.slice (some ⟨g, 0, none⟩) l.length cap) l := by
  refine ⟨_, cap, rfl, fun j x hx => ⟨g, 0, rfl, ?_⟩⟩
  have hj := (List.getElem?_eq_some_iff.1 hx).1
  have hd : l.toArray[j]! = x := by
    have := (List.getElem?_eq_some_iff.1 hx).2
    simp [hj, this]
  have h0 := (h.cell (i := j) (c := 0) (by simpa using hj) (by decide)).1
  have h1 := (h.cell (i := j) (c := 1) (by simpa using hj) (by decide)).1
  rw [hd] at h0 h1
  exact ⟨h0, h1⟩

/-- Where a list may lie. -/
def Own0 (v : Value) (n : Nat) : Prop := ∃ a cap, v = .slice a n cap ∧ (a = none ∨ ∃ b off, a = some ⟨b, off, none⟩)
theorem Own0.of_row {v : Value} {n : Nat} {xs : List Value} {g : Option Nat} (h : Row 2 w v n xs g) : Own0 v n := by
  rcases h.2 with ⟨rfl, rfl, _⟩ | ⟨b, cap, _, rfl, _⟩
  · exact ⟨none, 0, rfl, .inl rfl⟩
  · exact ⟨_, cap, rfl, .inr ⟨b, 0, rfl⟩⟩

set_option maxHeartbeats 1000000 in
set_option maxRecDepth 100000 in
/-- 'turned' -/
theorem turnedW_is {v : Value} {l : List Wd} (hv : Wds w v l) (ho : Own0 v l.length) (hl : l.length ≤ 4294967296) :
    Calls Try.prog 27 #[v] w (fun e w' => ∃ u, e = .returned u ∧ Wds w' u l.reverse ∧ Below w.heap.size w w') := by
  obtain ⟨a, cap, rfl, hw⟩ := ho
  have HE : Hid (∀ (A : Option Addr) (c : Nat) (w1 : World), Calls Try.prog 70 #[.slice A 0 c] w1 (fun e w' => e = .returned (.tuple #[]) ∧ w' = w1)) := hidp fun A c w1 => AnyQ.slices_Reverse_empty Try.laysReverseW A c w1
  rcases hw with rfl | ⟨b, off, rfl⟩
  · have h0 : l = [] := by
      obtain ⟨a, c, e, hc⟩ := hv
      cases l with
      | nil => rfl
      | cons x l =>
        obtain ⟨_, _, h, _⟩ := hc 0 x rfl
        injection e with e
        rw [← e] at h; cases h
    subst h0
    have HC : Hid (Calls Try.prog 69 #[.slice none 0 cap] w (fun e w' => e = .returned (.slice none 0 0) ∧ w' = w)) := hidp (AnyE.slices_Clone_nil Try.laysCloneW 0 cap w)
    clear hv
    show Calls _ _ #[.slice none 0 cap] w _
    go_enter Try.func27, Try.ntmps27
    go_wp2_with fail
    refine HC.out.mono ?_
    rintro e w1 ⟨rfl, rfl⟩
    go_wp2_with fail
    refine (HE.out _ _ _).mono ?_
    rintro e w2 ⟨rfl, rfl⟩
    go_wp2
    go_ret
    exact ⟨_, rfl, ⟨none, 0, rfl, fun j x hx => by simp at hx⟩, Below.refl _ _⟩
  · obtain ⟨i0, hi0, hz0, hz1, hz2⟩ := info_parts infoW
    obtain ⟨a', c', A, e', hA, hcl⟩ := hv.flat
    injection e' with e1 _ e3
    subst e1
    subst e3
    have hcc : ∀ j u, (itemCells EW l)[j]? = some u → w.cell? ⟨b, off + j, none⟩ = some u := fun j u hj => by
      have h0 : 0 < l.length := by
        have := (List.getElem?_eq_some_iff.1 hj).1
        rw [itemCells_length] at this
        rcases Nat.eq_zero_or_pos l.length with h | h
        · rw [h] at this; omega
        · exact h
      have h1 := (hcl j u hj).1
      have h2 := hA h0
      injection h2 with h2
      rw [← h2, Addr.add_lit] at h1
      exact h1
    have hclone : Calls Try.prog 69 #[.slice (some ⟨b, off, none⟩) l.length cap] w (fun e w' => ∃ v', e = .returned v' ∧ w'.ownsRow w.heap.size 38 2 v' l.length (itemCells EW l) ∧ v' ≠ .slice none 0 0 ∧ Below w.heap.size w w') :=
      AnyE.slices_Clone Try.laysCloneW i0 _ 2 24 hi0 hz0 hz1 hz2 (by rfl) (by decide) Try.sizeOf38 b off l.length cap (itemCells EW l) w (itemCells_length _) (by unfold maxLen; omega) (by omega) hcc (itemCells_one _)
    have HC := hidp hclone
    clear hclone hcc hcl hA hv hi0 hz0 hz1 hz2
    go_enter Try.func27, Try.ntmps27
    go_wp2_with fail
    refine HC.out.mono ?_
    rintro e w1 ⟨v1, rfl, hown, _, hbel⟩
    rcases Nat.eq_zero_or_pos l.length with h0 | h0
    · obtain ⟨a1, c1, rfl⟩ : ∃ a c, v1 = .slice a 0 c := by
        rcases hown.2 with ⟨rfl, _⟩ | ⟨g, cap', cur, rfl, _⟩
        · exact ⟨_, _, rfl⟩
        · exact ⟨_, _, by rw [h0]⟩
      obtain rfl := List.eq_nil_of_length_eq_zero h0
      have HB := hidp hbel
      clear hown hbel HC
      go_wp2_with fail
      refine (HE.out _ _ _).mono ?_
      rintro e w2 ⟨rfl, rfl⟩
      go_wp2
      go_ret
      exact ⟨_, rfl, ⟨a1, c1, rfl, fun j x hx => by simp at hx⟩, HB.out⟩
    · obtain ⟨g, gc, rfl, hBg, hg, hcn, hcm, _, hok⟩ := Ch.of_owns hown h0
      have hH := holdsK_of hok
      have hrev : Calls Try.prog 70 #[.slice (some ⟨g, 0, none⟩) l.toArray.size gc] w1 (fun e w' => e = .returned (.tuple #[]) ∧ ∃ n, w' = putRowK EW.enc 2 (Sort.ahead w1 n) g 0 l.toArray.reverse) :=
        AnyQ.slices_Reverse Try.laysReverseW 2 Try.isAgg38 Try.sizeOf38 EW.enc (fun _ => rfl) EW.one g 0 gc l.toArray w1 hH (by simp; omega)
      rw [List.size_toArray] at hrev
      have HV := hidp hrev
      have HX : Hid (∀ n, Wds (putRowK EW.enc 2 (Sort.ahead w1 n) g 0 l.toArray.reverse) (.slice (some ⟨g, 0, none⟩) l.length gc) l.reverse ∧ Below w.heap.size w (putRowK EW.enc 2 (Sort.ahead w1 n) g 0 l.toArray.reverse)) := hidp fun n => by
        have h2 := holdsK_putRowK EW.enc 2 (Sort.ahead w1 n) g 0 l.toArray l.toArray.reverse hH (by simp)
        rw [List.reverse_toArray] at h2 ⊢
        have h3 := wds_of_holds (cap := gc) h2
        rw [List.length_reverse] at h3
        exact ⟨h3, Lib.below_putRow (enc := id) (q := n) (d := flatK EW.enc 2 l.reverse.toArray) hbel hBg⟩
      clear hown hbel HC hok hH hrev HE
      rw [show sv (some (g, 0)) l.length gc = .slice (some ⟨g, 0, none⟩) l.length gc from rfl]
      go_wp2_with fail
      refine HV.out.mono ?_
      rintro e w2 ⟨rfl, n, rfl⟩
      have HY := hidp (HX.out n)
      clear HX HV
      generalize putRowK EW.enc 2 (Sort.ahead w1 n) g 0 l.toArray.reverse = w3 at HY ⊢
      go_wp2
      go_ret
      exact ⟨_, rfl, HY.out.1, HY.out.2⟩
end Go.Proofs.Ytbfaldccnaekeaa.Bt.W
