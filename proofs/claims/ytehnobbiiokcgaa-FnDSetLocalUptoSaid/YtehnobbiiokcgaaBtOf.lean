/- The plain law of setting: what is set changes one path of nodes. -/
import Derived.Test.YtehnobbiiokcgaaBtOe
import Derived.Test.YtehnobbiiokcgaaBtNy
namespace Go.Proofs.Ytehnobbiiokcgaa.Bt.ND
set_option linter.unusedVariables false
set_option linter.unusedSimpArgs false
open Go Go.RowKit Go.Proofs.Ytehnobbiiokcgaa.Bt

theorem deq_refl {n : Nat} (a : DT n) : deq n a a = true := (deq_iff n a a).2 rfl
theorem loc_same {n : Nat} {a b : DT (n + 1)} (h : a.2.1 = b.2.1) : LocP (n + 1) a b := fun i k E => by
  rw [← h] at E
  have h1 := E.le
  rw [Nat.min_self] at h1
  have hi : i = a.2.1.length := by
    rcases E.stop with h2 | h2
    · rw [Nat.min_self] at h2; exact h2
    · by_cases hlt : i < a.2.1.length
      · have := h2 _ _ (List.getElem?_eq_getElem hlt) (List.getElem?_eq_getElem hlt)
        rw [deq_refl] at this; cases this
      · omega
  exact ⟨by omega, fun h3 => by omega⟩
/-- One child is another one. -/
theorem loc_set {n p : Nat} {a b : DT (n + 1)} {c c' : DT n} (hc : a.2.1[p]? = some c) (hb : b.2.1 = a.2.1.set p c') (hne : deq n c c' = false) (hl : LocP n c c') : LocP (n + 1) a b := fun i k E => by
  have hp := (List.getElem?_eq_some_iff.1 hc).1
  rw [hb] at E ⊢
  have hlen : (a.2.1.set p c').length = a.2.1.length := List.length_set
  have hmin : min a.2.1.length (a.2.1.set p c').length = a.2.1.length := by rw [hlen, Nat.min_self]
  have hBp : (a.2.1.set p c')[p]? = some c' := by rw [List.getElem?_set_self hp]
  have hBn : ∀ q, q ≠ p → (a.2.1.set p c')[q]? = a.2.1[q]? := fun q hq => List.getElem?_set_ne (by omega)
  have e1 := E.le
  have e2 := E.le2
  rw [hmin] at e1 e2
  have hi : i = p := by
    rcases Nat.lt_trichotomy i p with h | h | h
    · rcases E.stop with h2 | h2
      · rw [hmin] at h2; omega
      · have h3 := h2 _ _ (List.getElem?_eq_getElem (by omega)) (by rw [hBn i (by omega)]; exact List.getElem?_eq_getElem (by omega))
        rw [deq_refl] at h3; cases h3
    · exact h
    · have h3 := E.front p c c' h hc hBp
      rw [hne] at h3; cases h3
  subst hi
  have hk : k = a.2.1.length - 1 - i := by
    rcases Nat.lt_trichotomy k (a.2.1.length - 1 - i) with h | h | h
    · rcases E.stop2 with h2 | h2
      · rw [hmin] at h2; omega
      · rw [hlen] at h2
        have h3 := h2 _ _ (List.getElem?_eq_getElem (by omega)) (by rw [hBn _ (by omega)]; exact List.getElem?_eq_getElem (by omega))
        rw [deq_refl] at h3; cases h3
    · exact h
    · have h3 := E.back (a.2.1.length - 1 - i) c c' h (by rw [show a.2.1.length - 1 - (a.2.1.length - 1 - i) = i by omega]; exact hc) (by rw [hlen, show a.2.1.length - 1 - (a.2.1.length - 1 - i) = i by omega]; exact hBp)
      rw [hne] at h3; cases h3
  refine ⟨by omega, fun _ _ c1 d1 h1 h2 => ?_⟩
  obtain rfl := Option.some.inj (hc.symm.trans h1)
  obtain rfl := Option.some.inj (hBp.symm.trans h2)
  exact hl
/-- Two children in the place of one. -/
theorem loc_two {n p : Nat} {a b : DT (n + 1)} {c l r : DT n} (hc : a.2.1[p]? = some c) (hb : b.2.1 = a.2.1.take p ++ l :: r :: a.2.1.drop (p + 1)) (h1 : deq n c l = false) (h2 : deq n c r = false) : LocP (n + 1) a b := fun i k E => by
  have hp := (List.getElem?_eq_some_iff.1 hc).1
  rw [hb] at E ⊢
  generalize hA : a.2.1 = A at *
  have htl : (A.take p).length = p := by rw [List.length_take]; omega
  have hlen : (A.take p ++ l :: r :: A.drop (p + 1)).length = A.length + 1 := by simp; omega
  have hmin : min A.length (A.take p ++ l :: r :: A.drop (p + 1)).length = A.length := by rw [hlen]; omega
  have hlo : ∀ q, q < p → (A.take p ++ l :: r :: A.drop (p + 1))[q]? = A[q]? := fun q hq => by rw [List.getElem?_append_left (by omega), List.getElem?_take, if_pos hq]
  have hBp : (A.take p ++ l :: r :: A.drop (p + 1))[p]? = some l := by rw [List.getElem?_append_right (by omega), htl, Nat.sub_self]; rfl
  have hBr : (A.take p ++ l :: r :: A.drop (p + 1))[p + 1]? = some r := by rw [List.getElem?_append_right (by omega), htl, Nat.add_sub_cancel_left]; rfl
  have hhi : ∀ q, p < q → (A.take p ++ l :: r :: A.drop (p + 1))[q + 1]? = A[q]? := fun q hq => by
    obtain ⟨d, rfl⟩ : ∃ d, q = p + 1 + d := ⟨q - p - 1, by omega⟩
    rw [List.getElem?_append_right (by omega), htl, show p + 1 + d + 1 - p = d + 2 by omega]
    simp
  have e1 := E.le
  have e2 := E.le2
  rw [hmin] at e1 e2
  have hi : i = p := by
    rcases Nat.lt_trichotomy i p with h | h | h
    · rcases E.stop with h3 | h3
      · rw [hmin] at h3; omega
      · have h4 := h3 _ _ (List.getElem?_eq_getElem (by omega)) (by rw [hlo i h]; exact List.getElem?_eq_getElem (by omega))
        rw [deq_refl] at h4; cases h4
    · exact h
    · have h3 := E.front p c l h hc hBp
      rw [h1] at h3; cases h3
  subst hi
  have hk : k = A.length - 1 - i := by
    rcases Nat.lt_trichotomy k (A.length - 1 - i) with h | h | h
    · rcases E.stop2 with h3 | h3
      · rw [hmin] at h3; omega
      · rw [hlen] at h3
        have h4 := h3 _ _ (List.getElem?_eq_getElem (i := A.length - 1 - k) (by omega)) (by rw [show A.length + 1 - 1 - k = (A.length - 1 - k) + 1 by omega, hhi _ (by omega)]; exact List.getElem?_eq_getElem (by omega))
        rw [deq_refl] at h4; cases h4
    · exact h
    · have h3 := E.back (A.length - 1 - i) c r h (by rw [show A.length - 1 - (A.length - 1 - i) = i by omega]; exact hc) (by rw [hlen, show A.length + 1 - 1 - (A.length - 1 - i) = i + 1 by omega]; exact hBr)
      rw [h2] at h3; cases h3
  exact ⟨by omega, fun h3 h4 => by omega⟩

theorem neq_all {h : Nat} {c d : BT Im h} (hn : (BT.all h c).length ≠ (BT.all h d).length) : deq (h + 1) (ofBT h c) (ofBT h d) = false := by
  cases hd : deq (h + 1) (ofBT h c) (ofBT h d) with
  | false => rfl
  | true =>
    have e := (deq_iff _ _ _).1 hd
    have e2 := congrArg (dAll (h + 1)) e
    rw [ofBT_all, ofBT_all] at e2
    exact absurd (by rw [e2]) hn
/-- One child is replaced, whether by the same one or not. -/
theorem loc_one {h p : Nat} {t : BT Im (h + 1)} {xs : List Im} {c c' : BT Im h} (hc : t.2[p]? = some c) (hl : LocP (h + 1) (ofBT h c) (ofBT h c')) : LocP (h + 2) (ofBT (h + 1) t) (ofBT (h + 1) ((xs, t.2.set p c') : BT Im (h + 1))) := by
  have hA : (ofBT (h + 1) t).2.1[p]? = some (ofBT h c) := by
    show (t.2.map (ofBT h))[p]? = _
    rw [List.getElem?_map, hc]; rfl
  have hB : (ofBT (h + 1) ((xs, t.2.set p c') : BT Im (h + 1))).2.1 = (ofBT (h + 1) t).2.1.set p (ofBT h c') := by
    show (t.2.set p c').map (ofBT h) = (t.2.map (ofBT h)).set p (ofBT h c')
    rw [List.map_set]
  cases hd : deq (h + 1) (ofBT h c) (ofBT h c') with
  | true =>
    have e := (deq_iff _ _ _).1 hd
    refine loc_same ?_
    rw [hB, ← e]
    refine (List.ext_getElem? fun q => ?_)
    by_cases hq : q = p
    · subst hq
      rw [List.getElem?_set_self (List.getElem?_eq_some_iff.1 hA).1, hA]
    · rw [List.getElem?_set_ne (fun e => hq e.symm)]
  | false => exact loc_set hA hB hd hl
set_option maxHeartbeats 1000000 in
/-- Setting changes one path. -/
theorem loc_ins {D : Nat} (hD : 2 ≤ D) : ∀ (h lo : Nat) (t : BT Im h) (x : Im), BT.ok (D - 1) (2 * D - 1) lo h t → Srt II.lt (BT.all h t) → ∀ t', ((∃ y, insN II.lt (2 * D - 1) h t x = .rep t' y) ∨ insN II.lt (2 * D - 1) h t x = .new t') → LocP (h + 1) (ofBT h t) (ofBT h t')
  | 0, _, _, _, _, _, _, _ => loc_same rfl
  | h + 1, lo, t, x, hok, hs, t', hI => by
    rw [insN] at hI
    cases hl : look II.lt t.1 x with
    | some y =>
      rw [hl] at hI
      simp only at hI
      rcases hI with ⟨y', hI⟩ | hI
      · injection hI with e _
        subst e
        exact loc_same rfl
      · cases hI
    | none =>
      rw [hl] at hI
      simp only at hI
      have hp := pos_le (lt := II.lt) t.1 x
      have hkl : t.2.length = t.1.length + 1 := hok.2.2.1
      obtain ⟨c, hc⟩ : ∃ c, t.2[pos II.lt t.1 x]? = some c := ⟨_, List.getElem?_eq_getElem (by omega)⟩
      rw [hc] at hI
      simp only at hI
      have hcok := hok.2.2.2 c (List.mem_of_getElem? hc)
      have hsub : (BT.all h c).Sublist (weave t.1 (t.2.map (BT.all h))) := weave_kid hp (by rw [List.getElem?_map, hc]; rfl)
      have hcs : Srt II.lt (BT.all h c) := List.Pairwise.sublist hsub hs
      have IH := loc_ins hD h (D - 1) c x hcok hcs
      cases hi : insN II.lt (2 * D - 1) h c x with
      | rep c' y =>
        rw [hi] at hI
        simp only at hI
        rcases hI with ⟨y', hI⟩ | hI
        · injection hI with e _
          subst e
          exact loc_one hc (IH c' (.inl ⟨y, hi⟩))
        · cases hI
      | new c' =>
        rw [hi] at hI
        simp only at hI
        rcases hI with ⟨y', hI⟩ | hI
        · cases hI
        · injection hI with e
          subst e
          exact loc_one hc (IH c' (.inr hi))
      | split =>
        rw [hi] at hI
        simp only at hI
        have hfull : (BT.its c).length = 2 * D - 1 := by
          have h1 := insN_ok II.ord (mn := D - 1) (mx := 2 * D - 1) (by omega) (by omega) (by omega) h (D - 1) c x hcok hcs
          rw [hi] at h1
          exact h1.2.1
        obtain ⟨l, m, r, hsp, hlok, hrok, _, _⟩ := splitN_some (mn := D - 1) hcok hfull (by omega) (by omega)
        have hall := splitN_all hsp hcok
        have hll := ok_len h (D - 1) l hlok
        have hrl := ok_len h (D - 1) r hrok
        have hcl : (BT.all h c).length = (BT.all h l).length + 1 + (BT.all h r).length := by rw [hall]; simp; omega
        rw [hsp] at hI
        simp only at hI
        by_cases hf : t.1.length = 2 * D - 1
        · rw [if_pos hf] at hI
          rcases hI with ⟨y', hI⟩ | hI <;> cases hI
        · rw [if_neg hf] at hI
          have hA : (ofBT (h + 1) t).2.1[pos II.lt t.1 x]? = some (ofBT h c) := by
            show (t.2.map (ofBT h))[_]? = _
            rw [List.getElem?_map, hc]; rfl
          -- two children in the place of c
          have htwo : ∀ (xs : List Im) (l' r' : BT Im h), (BT.all h l').length ≤ (BT.all h l).length + 1 → (BT.all h r').length ≤ (BT.all h r).length + 1 → LocP (h + 2) (ofBT (h + 1) t) (ofBT (h + 1) ((xs, t.2.take (pos II.lt t.1 x) ++ l' :: r' :: t.2.drop (pos II.lt t.1 x + 1)) : BT Im (h + 1))) := fun xs l' r' g1 g2 =>
            loc_two hA (by
              show (t.2.take _ ++ l' :: r' :: t.2.drop _).map (ofBT h) = (t.2.map (ofBT h)).take _ ++ ofBT h l' :: ofBT h r' :: (t.2.map (ofBT h)).drop _
              rw [List.map_append, List.map_cons, List.map_cons, List.map_take, List.map_drop]) (neq_all (by omega)) (neq_all (by omega))
          have hlsub : (BT.all h l).Sublist (BT.all h c) := by rw [hall]; exact List.sublist_append_left _ _
          have hrsub : (BT.all h r).Sublist (BT.all h c) := by rw [hall]; exact (List.sublist_cons_self _ _).trans (List.sublist_append_right _ _)
          have hins : ∀ (d d' : BT Im h), BT.ok (D - 1) (2 * D - 1) (D - 1) h d → Srt II.lt (BT.all h d) → ((∃ y, insN II.lt (2 * D - 1) h d x = .rep d' y) ∨ insN II.lt (2 * D - 1) h d x = .new d') → (BT.all h d').length ≤ (BT.all h d).length + 1 := fun d d' hdok hds hd => by
            have h1 := insN_ok II.ord (mn := D - 1) (mx := 2 * D - 1) (by omega) (by omega) (by omega) h (D - 1) d x hdok hds
            have h2 : BT.all h d' = put II.lt (BT.all h d) x := by
              rcases hd with ⟨y, hd⟩ | hd
              · rw [hd] at h1; exact h1.2.1
              · rw [hd] at h1; exact h1.2.1
            rw [h2, II.put_length]
            split <;> omega
          have hlen2 : (t.2.take (pos II.lt t.1 x)).length = pos II.lt t.1 x := by rw [List.length_take]; omega
          unfold ins1 splat at hI
          simp only at hI
          cases hl2 : look II.lt (t.1.take (pos II.lt t.1 x) ++ m :: t.1.drop (pos II.lt t.1 x)) x with
          | some y =>
            rw [hl2] at hI
            simp only at hI
            rcases hI with ⟨y', hI⟩ | hI
            · injection hI with e _
              subst e
              exact htwo _ l r (by omega) (by omega)
            · cases hI
          | none =>
            rw [hl2] at hI
            simp only at hI
            have hp2 := splat_pos (lt := II.lt) (xs := t.1) (x := x) (m := m)
            have hset0 : ∀ d : BT Im h, (t.2.take (pos II.lt t.1 x) ++ l :: r :: t.2.drop (pos II.lt t.1 x + 1)).set (pos II.lt t.1 x) d = t.2.take (pos II.lt t.1 x) ++ d :: r :: t.2.drop (pos II.lt t.1 x + 1) := fun d => by
              rw [List.set_append_right _ _ (by omega), hlen2, Nat.sub_self]; rfl
            have hset1 : ∀ d : BT Im h, (t.2.take (pos II.lt t.1 x) ++ l :: r :: t.2.drop (pos II.lt t.1 x + 1)).set (pos II.lt t.1 x + 1) d = t.2.take (pos II.lt t.1 x) ++ l :: d :: t.2.drop (pos II.lt t.1 x + 1) := fun d => by
              rw [List.set_append_right _ _ (by omega), hlen2, Nat.add_sub_cancel_left]; rfl
            have hget0 : (t.2.take (pos II.lt t.1 x) ++ l :: r :: t.2.drop (pos II.lt t.1 x + 1))[pos II.lt t.1 x]? = some l := by rw [List.getElem?_append_right (by omega), hlen2, Nat.sub_self]; rfl
            have hget1 : (t.2.take (pos II.lt t.1 x) ++ l :: r :: t.2.drop (pos II.lt t.1 x + 1))[pos II.lt t.1 x + 1]? = some r := by rw [List.getElem?_append_right (by omega), hlen2, Nat.add_sub_cancel_left]; rfl
            rcases hp2 with hp2 | hp2
            · rw [hp2, hget0] at hI
              simp only at hI
              cases hd : insN II.lt (2 * D - 1) h l x with
              | split => rw [hd] at hI; rcases hI with ⟨y', hI⟩ | hI <;> cases hI
              | rep d' y =>
                rw [hd] at hI
                rcases hI with ⟨y', hI⟩ | hI
                · injection hI with e _
                  subst e
                  rw [hset0]
                  exact htwo _ d' r (hins l d' hlok (List.Pairwise.sublist hlsub hcs) (.inl ⟨y, hd⟩)) (by omega)
                · cases hI
              | new d' =>
                rw [hd] at hI
                rcases hI with ⟨y', hI⟩ | hI
                · cases hI
                · injection hI with e
                  subst e
                  rw [hset0]
                  exact htwo _ d' r (hins l d' hlok (List.Pairwise.sublist hlsub hcs) (.inr hd)) (by omega)
            · rw [hp2, hget1] at hI
              simp only at hI
              cases hd : insN II.lt (2 * D - 1) h r x with
              | split => rw [hd] at hI; rcases hI with ⟨y', hI⟩ | hI <;> cases hI
              | rep d' y =>
                rw [hd] at hI
                rcases hI with ⟨y', hI⟩ | hI
                · injection hI with e _
                  subst e
                  rw [hset1]
                  exact htwo _ l d' (by omega) (hins r d' hrok (List.Pairwise.sublist hrsub hcs) (.inl ⟨y, hd⟩))
                · cases hI
              | new d' =>
                rw [hd] at hI
                rcases hI with ⟨y', hI⟩ | hI
                · cases hI
                · injection hI with e
                  subst e
                  rw [hset1]
                  exact htwo _ l d' (by omega) (hins r d' hrok (List.Pairwise.sublist hrsub hcs) (.inr hd))
end Go.Proofs.Ytehnobbiiokcgaa.Bt.ND
