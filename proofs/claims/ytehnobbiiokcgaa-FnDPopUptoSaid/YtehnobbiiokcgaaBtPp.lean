/- The end of a tree: its first or its last leaf (what PopMin and PopMax take away). No program. Maps: what taking the first or the last item away leaves (no walk). -/
import Derived.Test.YtehnobbiiokcgaaBtRel
import Derived.Test.YtehnobbiiokcgaaBtIId6
import Derived.Test.YtehnobbiiokcgaaBtIIy
namespace Go.Proofs.Ytehnobbiiokcgaa.Bt
set_option linter.unusedVariables false
set_option linter.unusedSimpArgs false

section
variable {I : Type} {nd nd' : Nat → Option (NodeR I)} {iso : Int}

theorem disj_flatten {ls : List (List Nat)} (hd : ls.flatten.Nodup) {i j : Nat} {a b : List Nat} (ha : ls[i]? = some a) (hb : ls[j]? = some b) (hij : i ≠ j) {x : Nat} (hxa : x ∈ a) (hxb : x ∈ b) : False := by
  obtain ⟨e, _⟩ := flatten_set ha a
  rw [e] at hd
  have h1 := List.nodup_append.1 hd
  have h2 := List.nodup_append.1 h1.2.1
  rcases Nat.lt_or_gt_of_ne hij with h | h
  · have hm : x ∈ (ls.drop (i + 1)).flatten := List.mem_flatten.2 ⟨b, List.mem_of_getElem? (i := j - (i + 1)) (by rw [List.getElem?_drop, show i + 1 + (j - (i + 1)) = j by omega]; exact hb), hxb⟩
    exact h2.2.2 x hxa x hm rfl
  · have hm : x ∈ (ls.take i).flatten := List.mem_flatten.2 ⟨b, List.mem_of_getElem? (i := j) (by rw [List.getElem?_take, if_pos h]; exact hb), hxb⟩
    exact h1.2.2 x hm x (List.mem_append.2 (.inl hxa)) rfl

/-- Which child lies at the end. -/
def eix (last : Bool) (len : Nat) : Nat := if last then len - 1 else 0
/-- A list without the item at the end. -/
def cutE (last : Bool) (l : List I) : List I := if last then l.dropLast else l.tail
theorem cutE_length (last : Bool) (l : List I) : (cutE last l).length = l.length - 1 := by
  unfold cutE; cases last <;> simp
/-- The leaf at the end. -/
def leafE (last : Bool) : (h : Nat) → BT I h → List I
  | 0, l => l
  | h + 1, t => match t.2[eix last t.2.length]? with
    | some c => leafE last h c
    | none => []
/-- The tree without the item at the end. -/
def popE (last : Bool) : (h : Nat) → BT I h → BT I h
  | 0, l => (cutE last (l : List I) : List I)
  | h + 1, t => match t.2[eix last t.2.length]? with
    | some c => (t.1, t.2.set (eix last t.2.length) (popE last h c))
    | none => t

theorem popE_succ {last : Bool} {h : Nat} {t : BT I (h + 1)} {c : BT I h} (hc : t.2[eix last t.2.length]? = some c) : popE last (h + 1) t = (t.1, t.2.set (eix last t.2.length) (popE last h c)) := by
  rw [popE, hc]
theorem leafE_succ {last : Bool} {h : Nat} {t : BT I (h + 1)} {c : BT I h} (hc : t.2[eix last t.2.length]? = some c) : leafE last (h + 1) t = leafE last h c := by
  rw [leafE, hc]
theorem ok_end {mn mx lo h : Nat} {t : BT I (h + 1)} (last : Bool) (hok : BT.ok mn mx lo (h + 1) t) : ∃ c, t.2[eix last t.2.length]? = some c ∧ BT.ok mn mx mn h c := by
  obtain ⟨h1, h2, h3, h4⟩ := hok
  have hj : eix last t.2.length < t.2.length := by unfold eix; split <;> omega
  exact ⟨_, List.getElem?_eq_getElem hj, h4 _ (List.getElem_mem hj)⟩

/-- Its items. -/
theorem popE_all {mn mx : Nat} (hmn : 1 ≤ mn) (last : Bool) : ∀ (h lo : Nat) (t : BT I h), 1 ≤ lo → BT.ok mn mx lo h t → BT.all h (popE last h t) = cutE last (BT.all h t) ∧ BT.all h t ≠ []
  | 0, lo, t, hlo, hok => by
    have h1 : lo ≤ List.length t := hok.1
    refine ⟨rfl, fun h => ?_⟩
    have h2 : (t : List I) = [] := h
    rw [h2] at h1
    simp at h1
    omega
  | h + 1, lo, t, hlo, hok => by
    obtain ⟨c, hc, hcok⟩ := ok_end last hok
    obtain ⟨ih, ihn⟩ := popE_all hmn last h mn c hmn hcok
    have hkl : t.2.length = t.1.length + 1 := hok.2.2.1
    rw [popE_succ hc]
    show weave t.1 ((t.2.set _ (popE last h c)).map (BT.all h)) = cutE last (weave t.1 (t.2.map (BT.all h))) ∧ weave t.1 (t.2.map (BT.all h)) ≠ []
    rw [List.map_set]
    have hm : (t.2.map (BT.all h))[eix last t.2.length]? = some (BT.all h c) := by rw [List.getElem?_map, hc]; rfl
    have hjl : eix last t.2.length ≤ t.1.length := by unfold eix; split <;> omega
    have hm2 : ((t.2.map (BT.all h)).set (eix last t.2.length) (BT.all h (popE last h c)))[eix last t.2.length]? = some (BT.all h (popE last h c)) := List.getElem?_set_self (List.getElem?_eq_some_iff.1 hm).1
    have hdr : ((t.2.map (BT.all h)).set (eix last t.2.length) (BT.all h (popE last h c))).drop (eix last t.2.length + 1) = (t.2.map (BT.all h)).drop (eix last t.2.length + 1) := by
      rw [List.drop_set, if_pos (by omega)]
    rw [weave_at _ _ _ _ hjl hm, weave_at _ _ _ _ hjl hm2, wpre_set, hdr, ih]
    refine ⟨?_, fun e => ihn (by
      have e2 := congrArg List.length e
      simp only [List.length_append, List.length_nil] at e2
      exact List.eq_nil_of_length_eq_zero (by omega))⟩
    cases last with
    | false =>
      show wpre 0 _ _ ++ ((BT.all h c).tail ++ _) = (wpre 0 _ _ ++ (BT.all h c ++ _)).tail
      simp only [wpre, List.nil_append]
      cases hb : BT.all h c with
      | nil => exact absurd hb ihn
      | cons x xs => rfl
    | true =>
      have e0 : eix true t.2.length = t.1.length := by unfold eix; simp; omega
      rw [e0]
      have e1 : wpost (t.1.drop t.1.length) ((t.2.map (BT.all h)).drop (t.1.length + 1)) = [] := by
        rw [List.drop_length, List.drop_eq_nil_of_le (by simp; omega)]; rfl
      rw [e1, List.append_nil, List.append_nil]
      show _ ++ (BT.all h c).dropLast = (_ ++ BT.all h c).dropLast
      rw [List.dropLast_append_of_ne_nil ihn]

/-- The item at the end. -/
def endI (last : Bool) (l : List I) : Option I := if last then l.getLast? else l.head?
/-- It lies in the leaf at the end. -/
theorem leafE_endI {mn mx : Nat} (hmn : 1 ≤ mn) (last : Bool) : ∀ (h lo : Nat) (t : BT I h), 1 ≤ lo → BT.ok mn mx lo h t → endI last (BT.all h t) = endI last (leafE last h t)
  | 0, _, _, _, _ => rfl
  | h + 1, lo, t, hlo, hok => by
    obtain ⟨c, hc, hcok⟩ := ok_end last hok
    have ih := leafE_endI hmn last h mn c hmn hcok
    have ihn := (popE_all hmn last h mn c hmn hcok).2
    have hkl : t.2.length = t.1.length + 1 := hok.2.2.1
    rw [leafE_succ hc, ← ih]
    show endI last (weave t.1 (t.2.map (BT.all h))) = _
    have hm : (t.2.map (BT.all h))[eix last t.2.length]? = some (BT.all h c) := by rw [List.getElem?_map, hc]; rfl
    have hjl : eix last t.2.length ≤ t.1.length := by unfold eix; split <;> omega
    rw [weave_at _ _ _ _ hjl hm]
    cases last with
    | false =>
      show (wpre 0 _ _ ++ (BT.all h c ++ _)).head? = (BT.all h c).head?
      simp only [wpre, List.nil_append]
      cases hb : BT.all h c with
      | nil => exact absurd hb ihn
      | cons x xs => rfl
    | true =>
      have e0 : eix true t.2.length = t.1.length := by unfold eix; simp; omega
      rw [e0]
      have e1 : wpost (t.1.drop t.1.length) ((t.2.map (BT.all h)).drop (t.1.length + 1)) = [] := by
        rw [List.drop_length, List.drop_eq_nil_of_le (by simp; omega)]; rfl
      rw [e1, List.append_nil]
      show (_ ++ BT.all h c).getLast? = (BT.all h c).getLast?
      rw [List.getLast?_append]
      cases hb : (BT.all h c).getLast? with
      | none => exact absurd (List.getLast?_eq_none_iff.1 hb) ihn
      | some y => rfl
/-- A tree of one item is a leaf. -/
theorem all_lo {mn mx : Nat} : ∀ (h lo : Nat) (t : BT I h), BT.ok mn mx lo h t → lo ≤ (BT.all h t).length
  | 0, _, _, hok => hok.1
  | h + 1, lo, t, hok => by
    show lo ≤ (weave t.1 (t.2.map (BT.all h))).length
    have hl : t.1.Sublist (weave t.1 (t.2.map (BT.all h))) := weave_sub _ _
    exact Nat.le_trans hok.1 hl.length_le
theorem all_one {mn mx lo h : Nat} {t : BT I h} (hmn : 1 ≤ mn) (hlo : 1 ≤ lo) (hok : BT.ok mn mx lo h t) (h1 : (BT.all h t).length = 1) : h = 0 := by
  cases h with
  | zero => rfl
  | succ h =>
    obtain ⟨c, hc, hcok⟩ := ok_end false hok
    have h2 := all_lo h mn c hcok
    have hkl : t.2.length = t.1.length + 1 := hok.2.2.1
    have h3 : lo ≤ t.1.length := hok.1
    have hm : (t.2.map (BT.all h))[0]? = some (BT.all h c) := by rw [List.getElem?_map]; show Option.map _ t.2[0]? = _; rw [show t.2[0]? = some c from hc]; rfl
    obtain ⟨x, xs, hx⟩ : ∃ x xs, t.1 = x :: xs := by
      cases hq : t.1 with
      | nil => rw [hq] at h3; simp at h3; omega
      | cons x xs => exact ⟨x, xs, rfl⟩
    have h4 : (weave t.1 (t.2.map (BT.all h))).length = 1 := h1
    obtain ⟨d, ds, hd⟩ : ∃ d ds, t.2 = d :: ds := by
      cases hq : t.2 with
      | nil => rw [hq] at hkl; simp at hkl
      | cons d ds => exact ⟨d, ds, rfl⟩
    rw [hd] at hm
    simp at hm
    rw [hx, hd, List.map_cons, hm] at h4
    simp only [weave, List.length_append, List.length_cons] at h4
    omega

/-- The leaf at the end is one of the leaves. -/
theorem leafE_ok {mn mx : Nat} (last : Bool) : ∀ (h lo : Nat) (t : BT I h), BT.ok mn mx lo h t → (h = 0 ∨ mn ≤ (leafE last h t).length) ∧ (leafE last h t).length ≤ mx
  | 0, lo, t, hok => ⟨.inl rfl, hok.2⟩
  | h + 1, lo, t, hok => by
    obtain ⟨c, hc, hcok⟩ := ok_end last hok
    rw [leafE_succ hc]
    have ih := leafE_ok last h mn c hcok
    refine ⟨.inr ?_, ih.2⟩
    cases h with
    | zero => exact hcok.1
    | succ h => exact ih.1.resolve_left (by omega)
/-- It stands well while the leaf at the end has items to spare. -/
theorem popE_ok {mn mx : Nat} (last : Bool) : ∀ (h lo : Nat) (t : BT I h), lo ≤ mn → BT.ok mn mx lo h t → mn < (leafE last h t).length → BT.ok mn mx lo h (popE last h t)
  | 0, lo, t, hlo, hok, hl => by
    have h1 : mn < List.length t := hl
    have h2 : List.length t ≤ mx := hok.2
    have h3 := cutE_length last (t : List I)
    exact ⟨by show lo ≤ (cutE last (t : List I)).length; omega, by show (cutE last (t : List I)).length ≤ mx; omega⟩
  | h + 1, lo, t, hlo, hok, hl => by
    obtain ⟨c, hc, hcok⟩ := ok_end last hok
    rw [leafE_succ hc] at hl
    rw [popE_succ hc]
    obtain ⟨h1, h2, h3, h4⟩ := hok
    refine ⟨h1, h2, by show (t.2.set _ _).length = _; rw [List.length_set]; exact h3, fun d hd => ?_⟩
    rcases List.mem_or_eq_of_mem_set hd with hd | rfl
    · exact h4 d hd
    · exact popE_ok last h mn c (Nat.le_refl _) hcok hl

/-- What is done to the nodes on the way to the end (L): their counts, and the leaf. -/
def Popped (last : Bool) (nd nd' : Nat → Option (NodeR I)) : (h n : Nat) → List Nat → Prop
  | 0, n, L => L = [n] ∧ ∃ r r', nd n = some r ∧ nd' n = some r' ∧ r'.iso = r.iso ∧ r'.kids = none ∧ r'.count = r.count - 1 ∧ r'.items = cutE last r.items
  | h + 1, n, L => ∃ (r : NodeR I) (k : KidR) (p : Nat) (L' : List Nat), nd n = some r ∧ r.kids = some k ∧ k.kids[eix last k.kids.length]? = some (some p) ∧ L = n :: L' ∧ nd' n = some { r with count := r.count - 1 } ∧ Popped last nd nd' h p L'

theorem Popped.tr {mn mx : Nat} (hmn : 1 ≤ mn) {last : Bool} : ∀ {h lo n : Nat} {t : BT I h} {ids L : List Nat}, 1 ≤ lo → BT.ok mn mx lo h t → Tr nd iso h n t ids → ids.Nodup → Popped last nd nd' h n L → (∀ q ∈ ids, q ∉ L → nd' q = nd q) → Tr nd' iso h n (popE last h t) ids ∧ ∀ q ∈ L, q ∈ ids
  | 0, lo, n, t, ids, L, hlo, hok, T, hd, P, ho => by
    obtain ⟨rfl, r, h1, h2, h3, h4, h5⟩ := T
    obtain ⟨rfl, r0, r', e1, e2, e3, e4, e5, e6⟩ := P
    rw [h1] at e1
    obtain rfl := Option.some.inj e1
    have hl : lo ≤ List.length t := hok.1
    have h3' : r.items = (t : List I) := h3
    refine ⟨⟨rfl, r', e2, by rw [e3]; exact h2, by rw [e6, h3']; rfl, e4, ?_⟩, fun q hq => hq⟩
    have h6 := cutE_length last (t : List I)
    show r'.count = ((cutE last (t : List I)).length : Nat)
    rw [e5, h5]
    omega
  | h + 1, lo, n, t, ids, L, hlo, hok, T, hd, P, ho => by
    obtain ⟨r, k, ps, idss, h1, h2, h3, h4, h5, h6, h7, h8, rfl, h10⟩ := T
    obtain ⟨r0, k0, p, L', e1, e2, e3, rfl, e5, P'⟩ := P
    rw [h1] at e1
    obtain rfl := Option.some.inj e1
    rw [h4] at e2
    obtain rfl := Option.some.inj e2
    obtain ⟨c, hc, hcok⟩ := ok_end last hok
    have hall := popE_all hmn last (h + 1) lo t hlo hok
    obtain ⟨j, hj⟩ : ∃ j, eix last t.2.length = j := ⟨_, rfl⟩
    rw [h5, List.length_map, h7, hj, List.getElem?_map] at e3
    obtain ⟨is, his⟩ : ∃ is, idss[j]? = some is := get_of_len h8.symm (by rw [← hj]; exact hc)
    have hps : ps[j]? = some p := by
      cases hp : ps[j]? with
      | none => rw [hp] at e3; cases e3
      | some p' => rw [hp] at e3; simpa using e3
    rw [popE_succ hc] at hall ⊢
    rw [hj] at hc hall ⊢
    obtain ⟨f1, _⟩ := flatten_set his is
    have hn0 := (List.nodup_cons.1 hd).1
    have hn1 := (List.nodup_cons.1 hd).2
    have hsub : ∀ q ∈ is, q ∈ idss.flatten := fun q hq => List.mem_flatten.2 ⟨is, List.mem_of_getElem? his, hq⟩
    have hisd : is.Nodup := by
      rw [f1] at hn1
      exact (List.nodup_append.1 (List.nodup_append.1 hn1).2.1).1
    obtain ⟨T', hL'⟩ := Popped.tr hmn hmn hcok (h10 j p c is hps hc his) hisd P' (fun q hq hqL => ho q (List.mem_cons_of_mem _ (hsub q hq)) (fun hm => by
      rcases List.mem_cons.1 hm with rfl | hm
      · exact hn0 (hsub _ hq)
      · exact hqL hm))
    refine ⟨⟨_, k, ps, idss, e5, h2, h3, h4, h5, ?_, ?_, ?_, rfl, fun i q d is' hq hdi hi => ?_⟩, fun q hq => ?_⟩
    · show r.count - 1 = ((BT.all (h + 1) ((t.1, t.2.set j (popE last h c)) : BT I (h + 1))).length : Nat)
      rw [hall.1, cutE_length, h6]
      have h9 : 0 < (BT.all (h + 1) t).length := List.length_pos_iff.2 hall.2
      omega
    · show ps.length = (t.2.set j _).length
      rw [List.length_set]; exact h7
    · show idss.length = (t.2.set j _).length
      rw [List.length_set]; exact h8
    · have hdi' : (t.2.set j (popE last h c))[i]? = some d := hdi
      by_cases hij : j = i
      · subst hij
        rw [List.getElem?_set_self (by have := (List.getElem?_eq_some_iff.1 hc).1; omega)] at hdi'
        rw [hps] at hq
        obtain rfl := Option.some.inj hq
        obtain rfl := Option.some.inj hdi'
        rw [his] at hi
        obtain rfl := Option.some.inj hi
        exact T'
      · rw [List.getElem?_set_ne hij] at hdi'
        refine (h10 i q d is' hq hdi' hi).keep fun x hx => ho x (List.mem_cons_of_mem _ (List.mem_flatten.2 ⟨is', List.mem_of_getElem? hi, hx⟩)) (fun hm => ?_)
        rcases List.mem_cons.1 hm with rfl | hm
        · exact hn0 (List.mem_flatten.2 ⟨is', List.mem_of_getElem? hi, hx⟩)
        · exact disj_flatten hn1 his hi hij (hL' x hm) hx
    · rcases List.mem_cons.1 hq with rfl | hq
      · simp
      · exact List.mem_cons_of_mem _ (hsub q (hL' q hq))

/-- The nodes on the way to the end, with their records. -/
def Way (last : Bool) (nd : Nat → Option (NodeR I)) : (h n : Nat) → List (Nat × NodeR I) → Prop
  | 0, n, P => ∃ r, P = [(n, r)] ∧ nd n = some r ∧ r.kids = none
  | h + 1, n, P => ∃ (r : NodeR I) (k : KidR) (p : Nat) (P' : List (Nat × NodeR I)), nd n = some r ∧ r.kids = some k ∧ k.kids[eix last k.kids.length]? = some (some p) ∧ P = (n, r) :: P' ∧ Way last nd h p P'
theorem Way.length {last : Bool} : ∀ {h n : Nat} {P : List (Nat × NodeR I)}, Way last nd h n P → P.length = h + 1
  | 0, n, P, ⟨r, e, _⟩ => by rw [e]; rfl
  | h + 1, n, P, ⟨r, k, p, P', _, _, _, e, W⟩ => by rw [e, List.length_cons, W.length]
theorem Way.head {last : Bool} : ∀ {h n : Nat} {P : List (Nat × NodeR I)}, Way last nd h n P → ∃ r, P[0]? = some (n, r)
  | 0, n, P, ⟨r, e, _⟩ => ⟨r, by rw [e]; rfl⟩
  | h + 1, n, P, ⟨r, k, p, P', _, _, _, e, W⟩ => ⟨r, by rw [e]; rfl⟩
theorem Way.mem {last : Bool} : ∀ {h n : Nat} {P : List (Nat × NodeR I)}, Way last nd h n P → ∀ x ∈ P, nd x.1 = some x.2
  | 0, n, P, ⟨r, e, h1, _⟩, x, hx => by
    rw [e] at hx
    obtain rfl : x = (n, r) := by simpa using hx
    exact h1
  | h + 1, n, P, ⟨r, k, p, P', h1, _, _, e, W⟩, x, hx => by
    rw [e] at hx
    rcases List.mem_cons.1 hx with rfl | hx
    · exact h1
    · exact W.mem x hx
/-- One step down. -/
theorem Way.next {last : Bool} : ∀ {h n : Nat} {P : List (Nat × NodeR I)}, Way last nd h n P → ∀ (i a : Nat) (r : NodeR I), P[i]? = some (a, r) → i < h → ∃ k p rp, r.kids = some k ∧ k.kids[eix last k.kids.length]? = some (some p) ∧ P[i + 1]? = some (p, rp)
  | 0, n, P, W, i, a, r, hi, hl => by omega
  | h + 1, n, P, ⟨r0, k, p, P', h1, h2, h3, e, W⟩, i, a, r, hi, hl => by
    rw [e] at hi ⊢
    cases i with
    | zero =>
      have h4 : (n, r0) = (a, r) := by simpa using hi
      obtain ⟨rp, hp⟩ := W.head
      injection h4 with _ h5
      subst h5
      exact ⟨k, p, rp, h2, h3, by simpa using hp⟩
    | succ i => simpa using W.next i a r (by simpa using hi) (by omega)
/-- The leaf. -/
theorem Way.leaf {last : Bool} : ∀ {h n : Nat} {P : List (Nat × NodeR I)}, Way last nd h n P → ∀ (a : Nat) (r : NodeR I), P[h]? = some (a, r) → r.kids = none
  | 0, n, P, ⟨r0, e, h1, h2⟩, a, r, hi => by
    rw [e] at hi
    have h4 : (n, r0) = (a, r) := by simpa using hi
    injection h4 with _ h5
    subst h5
    exact h2
  | h + 1, n, P, ⟨r0, k, p, P', h1, h2, h3, e, W⟩, a, r, hi => by
    rw [e] at hi
    exact W.leaf a r (by simpa using hi)
/-- A tree has its way. -/
theorem Tr.way {mn mx : Nat} (last : Bool) : ∀ {h lo n : Nat} {t : BT I h} {ids : List Nat}, BT.ok mn mx lo h t → Tr nd iso h n t ids → ids.Nodup →
    ∃ P, Way last nd h n P ∧ (P.map (·.1)).Nodup ∧ (∀ x ∈ P, x.1 ∈ ids ∧ x.2.iso = iso ∧ 0 ≤ x.2.count ∧ x.2.count ≤ ((BT.all h t).length : Nat)) ∧ ∀ (a : Nat) (r : NodeR I), P[h]? = some (a, r) → r.items = leafE last h t
  | 0, lo, n, t, ids, hok, T, hd => by
    obtain ⟨rfl, r, h1, h2, h3, h4, h5⟩ := T
    refine ⟨[(n, r)], ⟨r, rfl, h1, h4⟩, by simp, fun x hx => ?_, fun a r' hr => ?_⟩
    · obtain rfl : x = (n, r) := by simpa using hx
      have h8 : r.count = ((BT.all 0 t).length : Nat) := h5
      exact ⟨by simp, h2, by show 0 ≤ r.count; omega, by show r.count ≤ _; omega⟩
    · have h6 : (n, r) = (a, r') := by simpa using hr
      injection h6 with _ h7
      subst h7
      exact h3
  | h + 1, lo, n, t, ids, hok, T, hd => by
    obtain ⟨r, k, ps, idss, h1, h2, h3, h4, h5, h6, h7, h8, rfl, h10⟩ := T
    obtain ⟨c, hc, hcok⟩ := ok_end last hok
    obtain ⟨p, hp⟩ := get_of_len h7.symm hc
    obtain ⟨is, his⟩ := get_of_len h8.symm hc
    obtain ⟨f1, _⟩ := flatten_set his is
    have hn0 := (List.nodup_cons.1 hd).1
    have hn1 := (List.nodup_cons.1 hd).2
    have hisd : is.Nodup := by
      rw [f1] at hn1
      exact (List.nodup_append.1 (List.nodup_append.1 hn1).2.1).1
    have hsub : ∀ q ∈ is, q ∈ idss.flatten := fun q hq => List.mem_flatten.2 ⟨is, List.mem_of_getElem? his, hq⟩
    have hjl : eix last t.2.length ≤ t.1.length := by have h11 : t.2.length = t.1.length + 1 := hok.2.2.1; unfold eix; split <;> omega
    have hcl : (BT.all h c).length ≤ (BT.all (h + 1) t).length := by
      show _ ≤ (weave t.1 (t.2.map (BT.all h))).length
      rw [weave_at _ t.1 (t.2.map (BT.all h)) (BT.all h c) hjl (by rw [List.getElem?_map, hc]; rfl)]
      simp only [List.length_append]
      omega
    obtain ⟨P', W, hP1, hP2, hP3⟩ := Tr.way last hcok (h10 _ p c is hp hc his) hisd
    refine ⟨(n, r) :: P', ⟨r, k, p, P', h1, h4, by rw [h5, List.length_map, h7, List.getElem?_map, hp]; rfl, rfl, W⟩, ?_, fun x hx => ?_, fun a r' hr => ?_⟩
    · rw [List.map_cons, List.nodup_cons]
      refine ⟨fun hm => ?_, hP1⟩
      obtain ⟨x, hx, hxn⟩ := List.mem_map.1 hm
      have h9 := hsub _ (hP2 x hx).1
      rw [hxn] at h9
      exact hn0 h9
    · rcases List.mem_cons.1 hx with rfl | hx
      · exact ⟨by simp, h2, by show 0 ≤ r.count; omega, by show r.count ≤ _; omega⟩
      · have h9 := hP2 x hx
        exact ⟨List.mem_cons_of_mem _ (hsub _ h9.1), h9.2.1, h9.2.2.1, by omega⟩
    · rw [leafE_succ hc]
      exact hP3 a r' (by simpa using hr)
/-- How many children a node on the way has. -/
theorem Way.kids_le {mn mx : Nat} {last : Bool} : ∀ {h lo n : Nat} {t : BT I h} {ids : List Nat} {P : List (Nat × NodeR I)}, Way last nd h n P → BT.ok mn mx lo h t → Tr nd iso h n t ids → ∀ x ∈ P, ∀ k, x.2.kids = some k → k.kids.length ≤ mx + 1
  | 0, lo, n, t, ids, P, ⟨r, e, h1, h2⟩, hok, T, x, hx, k, hk => by
    rw [e] at hx
    obtain rfl : x = (n, r) := by simpa using hx
    rw [h2] at hk
    cases hk
  | h + 1, lo, n, t, ids, P, ⟨r0, k0, p, P', g1, g2, g3, e, W⟩, hok, T, x, hx, k, hk => by
    obtain ⟨r, k1, ps, idss, h1, h2, h3, h4, h5, h6, h7, h8, _, h10⟩ := T
    rw [h1] at g1
    obtain rfl := Option.some.inj g1
    rw [h4] at g2
    obtain rfl := Option.some.inj g2
    obtain ⟨c, hc, hcok⟩ := ok_end last hok
    rw [e] at hx
    rcases List.mem_cons.1 hx with rfl | hx
    · rw [h4] at hk
      obtain rfl := Option.some.inj hk
      rw [h5, List.length_map, h7]
      have a1 : t.2.length = t.1.length + 1 := hok.2.2.1
      have a2 : t.1.length ≤ mx := hok.2.1
      omega
    · obtain ⟨is, his⟩ := get_of_len h8.symm hc
      have hps : ps[eix last t.2.length]? = some p := by
        rw [h5, List.length_map, h7, List.getElem?_map] at g3
        cases hp : ps[eix last t.2.length]? with
        | none => rw [hp] at g3; cases g3
        | some p' => rw [hp] at g3; simpa using g3
      exact W.kids_le hcok (h10 _ p c is hps hc his) x hx k hk
/-- The counts on the way are less, and the leaf has lost its item at the end. -/
theorem Way.popped {last : Bool} : ∀ {h n : Nat} {P : List (Nat × NodeR I)}, Way last nd h n P → (∀ (i a : Nat) (r : NodeR I), i < h → P[i]? = some (a, r) → nd' a = some { r with count := r.count - 1 }) →
    (∀ (a : Nat) (r : NodeR I), P[h]? = some (a, r) → ∃ r', nd' a = some r' ∧ r'.iso = r.iso ∧ r'.kids = none ∧ r'.count = r.count - 1 ∧ r'.items = cutE last r.items) → Popped last nd nd' h n (P.map (·.1))
  | 0, n, P, ⟨r, e, h1, h2⟩, hI, hL => by
    obtain ⟨r', g1, g2, g3, g4, g5⟩ := hL n r (by rw [e]; rfl)
    exact ⟨by rw [e]; rfl, r, r', h1, g1, g2, g3, g4, g5⟩
  | h + 1, n, P, ⟨r, k, p, P', h1, h2, h3, e, W⟩, hI, hL => by
    rw [e] at hI hL ⊢
    exact ⟨r, k, p, P'.map (·.1), h1, h2, h3, rfl, hI 0 n r (by omega) rfl, W.popped (fun i a r' hi hr => hI (i + 1) a r' (by omega) (by simpa using hr)) (fun a r' hr => hL a r' (by simpa using hr))⟩
end
end Go.Proofs.Ytehnobbiiokcgaa.Bt

namespace Go.Proofs.Ytehnobbiiokcgaa.Bt.II
set_option linter.unusedVariables false
set_option linter.unusedSimpArgs false
open Go Go.RowKit Go.Proofs.Ytehnobbiiokcgaa.Bt

/-- A node whose count is one less. -/
def decN (x : Nat × NodeR It) : Nat × NodeR It := (x.1, { x.2 with count := x.2.count - 1 })
/-- The way: i nodes are counted down. -/
def wayD (P : List (Nat × NodeR It)) (i : Nat) : List (Nat × NodeR It) := (P.take i).map decN ++ P.drop i
theorem wayD_at {P : List (Nat × NodeR It)} {i a : Nat} {r : NodeR It} (h : P[i]? = some (a, r)) : wayD P i = (P.take i).map decN ++ (a, r) :: P.drop (i + 1) := by
  have hi := (List.getElem?_eq_some_iff.1 h).1
  have he := (List.getElem?_eq_some_iff.1 h).2
  unfold wayD
  rw [List.drop_eq_getElem_cons hi, he]
theorem wayD_next {P : List (Nat × NodeR It)} {i a : Nat} {r : NodeR It} (h : P[i]? = some (a, r)) : wayD P (i + 1) = (P.take i).map decN ++ (a, { r with count := r.count - 1 }) :: P.drop (i + 1) := by
  have hi := (List.getElem?_eq_some_iff.1 h).1
  have he := (List.getElem?_eq_some_iff.1 h).2
  unfold wayD
  rw [List.take_succ_eq_append_getElem hi, he, List.map_append, List.append_assoc]
  rfl

/-- The way: i nodes are counted up again. -/
def wayU (P : List (Nat × NodeR It)) (i : Nat) : List (Nat × NodeR It) := P.take i ++ (P.drop i).map decN
theorem wayU_at {P : List (Nat × NodeR It)} {i a : Nat} {r : NodeR It} (h : P[i]? = some (a, r)) : wayU P i = P.take i ++ (a, { r with count := r.count - 1 }) :: (P.drop (i + 1)).map decN := by
  have hi := (List.getElem?_eq_some_iff.1 h).1
  have he := (List.getElem?_eq_some_iff.1 h).2
  unfold wayU
  rw [List.drop_eq_getElem_cons hi, he]
  rfl
theorem wayU_next {P : List (Nat × NodeR It)} {i a : Nat} {r : NodeR It} (h : P[i]? = some (a, r)) : wayU P (i + 1) = P.take i ++ (a, r) :: (P.drop (i + 1)).map decN := by
  have hi := (List.getElem?_eq_some_iff.1 h).1
  have he := (List.getElem?_eq_some_iff.1 h).2
  unfold wayU
  rw [List.take_succ_eq_append_getElem hi, he, List.append_assoc]
  rfl
theorem way_turn {P : List (Nat × NodeR It)} {h : Nat} (hl : P.length = h) : wayD P h = wayU P 0 := by
  unfold wayD wayU
  rw [List.take_of_length_le (by omega), List.drop_eq_nil_of_le (by omega)]
  simp
theorem wayU_end {P : List (Nat × NodeR It)} {h : Nat} (hl : P.length = h) : wayU P h = P := by
  unfold wayU
  rw [List.take_of_length_le (by omega), List.drop_eq_nil_of_le (by omega)]
  simp
theorem way_ix {P : List (Nat × NodeR It)} (hd : (P.map (·.1)).Nodup) {i a : Nat} {r : NodeR It} (h : P[i]? = some (a, r)) : lst (fun i => ∃ r, P[i]? = some (a, r)) = i := by
  obtain ⟨⟨r', h1⟩, h2⟩ := lst_of (P := fun i => ∃ r, P[i]? = some (a, r)) ⟨r, h⟩
  have e1 : (P.map (·.1))[i]? = some a := by rw [List.getElem?_map, h]; rfl
  have e2 : (P.map (·.1))[lst (fun i => ∃ r, P[i]? = some (a, r))]? = some a := by rw [List.getElem?_map, h1]; rfl
  have l1 := (List.getElem?_eq_some_iff.1 e1).1
  have l2 := (List.getElem?_eq_some_iff.1 e2).1
  have e3 := (List.getElem?_eq_some_iff.1 e2).2.trans (List.getElem?_eq_some_iff.1 e1).2.symm
  rcases Nat.lt_trichotomy (lst (fun i => ∃ r, P[i]? = some (a, r))) i with hlt | heq | hlt
  · exact absurd e3 (List.pairwise_iff_getElem.1 hd _ _ l2 l1 hlt)
  · exact heq
  · exact absurd e3.symm (List.pairwise_iff_getElem.1 hd _ _ l1 l2 hlt)
theorem way_ids {P : List (Nat × NodeR It)} {i a : Nat} {r r' : NodeR It} (h : P[i]? = some (a, r)) : ((P.take i).map decN ++ (a, r') :: P.drop (i + 1)).map (·.1) = P.map (·.1) := by
  have hi := (List.getElem?_eq_some_iff.1 h).1
  have he := (List.getElem?_eq_some_iff.1 h).2
  conv => rhs; rw [← List.take_append_drop i P, List.drop_eq_getElem_cons hi, he]
  simp only [List.map_append, List.map_map, List.map_cons]
  rfl

/-- The item at the end of a list is found, and the list without it is the list that is cut. -/
theorem cut_endI {l : List It} {x : It} (hs : Srt lt l) (last : Bool) (hx : endI last l = some x) : look lt l x = some x ∧ cut lt l x = cutE last l := by
  cases last with
  | false =>
    cases l with
    | nil => cases hx
    | cons y l =>
      obtain rfl : y = x := by simpa [endI] using hx
      have h1 := look_mid (lt := lt) (A := []) (B := l) (x := y) (y := y) (fun z hz => by cases hz) (ord.irr y) (ord.irr y)
      have h2 := cut_look (lt := lt) (A := []) (B := l) (x := y) (y := y) (fun z hz => by cases hz) (ord.irr y) (ord.irr y)
      exact ⟨h1.2, h2⟩
  | true =>
    have hx' : l.getLast? = some x := hx
    obtain ⟨hn, he⟩ := List.getLast?_eq_some_iff.1 hx'
    have hA : ∀ z ∈ hn, lt z x = true := fun z hz => by
      rw [he] at hs
      exact (List.pairwise_append.1 hs).2.2 z hz x (by simp)
    have h1 := look_mid (lt := lt) (A := hn) (B := []) (x := x) (y := x) hA (ord.irr x) (ord.irr x)
    have h2 := cut_look (lt := lt) (A := hn) (B := []) (x := x) (y := x) hA (ord.irr x) (ord.irr x)
    rw [← he] at h1 h2
    refine ⟨h1.2, h2.trans ?_⟩
    show hn ++ [] = l.dropLast
    rw [he]; simp
theorem cutE_sub {last : Bool} (l : List It) : (cutE last l).Sublist l := by
  unfold cutE
  cases last
  · exact List.tail_sublist l
  · exact List.dropLast_sublist l

section
variable {I : Type} {E : Enc I} {S0 : Nat → Prop} {w0 w : World} {s0 : Sto I} {BX : List (Nat × List Value)} {L : List (Nat × NodeR I)}
/-- A field of the map is written, with nodes at hand. -/
theorem KB.mpL (K : KB E S0 w0 s0 BX L w) (r' : MapR) {off : Nat} (v : Value) (hoff : off < E.sz + 8) (hv : mapCells E r' = (mapCells E s0.mp).set off v) : KB E S0 w0 (s0.setMp r') BX L (w.setCell ⟨s0.m, off, none⟩ v) := by
  obtain ⟨S, s, R, h, a, b, c, d, e, f⟩ := K
  obtain ⟨E1, R1⟩ := R.put_mp r' (off := off) v hoff (by rw [d]; exact hv)
  rw [c] at E1 R1
  exact ⟨S, s.setMp r', R1, h.trans E1, a, b, c, rfl, e, f.step E1⟩
end

variable {S : Nat → Prop} {w : World} {s : Sto It}

/-- What 'PopMin' and 'PopMax' leave. -/
def PopPost (last : Bool) (D h : Nat) (S : Nat → Prop) (w : World) (s : Sto It) (l : List It) (e : Ending) (w' : World) : Prop :=
  ∃ S' s' x, e = .returned (.tuple #[.int .i64 x.1, .int .i64 x.2, .bool true]) ∧ endI last l = some x ∧ Ext S w S' w' ∧ MapIs D S' w' s' (cutE last l) ∧ s'.m = s.m ∧ s'.mp.iso = s.mp.iso ∧ s'.mp.ctr = s.mp.ctr ∧ TreeH D h s' (cutE last l)

/-- The counts on the way are less by one, and the leaf has lost its item. -/
theorem pop_fin {last : Bool} {D : Nat} (hD : 2 ≤ D) {h n : Nat} {t : BT It h} {ids : List Nat} (m : MapIs D S w s (BT.all h t)) (hr : s.mp.root = some n) (T : Tr s.nd s.mp.iso h n t ids) (hd : ids.Nodup) (hok : BT.ok (D - 1) (2 * D - 1) 1 h t)
    {P : List (Nat × NodeR It)} (W : Way last s.nd h n P) {a : Nat} {r r' : NodeR It} (hP : P[h]? = some (a, r)) (hri : r.items = leafE last h t) (hne : ¬ r.items.length = D - 1) {x : It} (hx : endI last r.items = some x)
    (g1 : r'.iso = r.iso) (g2 : r'.kids = none) (g3 : r'.count = r.count - 1) (g4 : r'.items = cutE last r.items) {mp' : MapR} {BX : List (Nat × List Value)} {w' : World} {s0 : Sto It} (K : KB II.E S w s0 BX ((P.take h).map decN ++ (a, r') :: P.drop (h + 1)) w') (q0 : s0.m = s.m) (q1 : s0.nd = s.nd) (q2 : s0.mp = mp')
    (q3 : mp'.count = s.mp.count - 1) (q4 : mp'.iso = s.mp.iso) (q5 : mp'.ctr = s.mp.ctr) (q6 : mp'.mn = s.mp.mn) (q7 : mp'.mx = s.mp.mx) (q8 : (s.mp.count - 1 = 0 ∧ mp'.root = none) ∨ (¬ s.mp.count - 1 = 0 ∧ mp'.root = some n)) {e : Ending} (he : e = .returned (.tuple #[.int .i64 x.1, .int .i64 x.2, .bool true])) :
    PopPost last D h S w s (BT.all h t) e w' := by
  have hD1 : 1 ≤ D - 1 := by omega
  obtain ⟨hall, hnn⟩ := popE_all hD1 last h 1 t (Nat.le_refl _) hok
  have hpos : 0 < (BT.all h t).length := List.length_pos_iff.2 hnn
  have hcl := cutE_length last (BT.all h t)
  have hcnt : s.mp.count = ((BT.all h t).length : Nat) := m.cnt
  obtain ⟨S2, s2, R2, E2, hmem, hnd2, e1, e2, e3, _⟩ := K.ex
  rw [way_ids hP] at e3
  have hpop : Popped last s.nd s2.nd h n (P.map (·.1)) := W.popped (fun i b rb hi hb => hmem b _ (List.mem_append_left _ (List.mem_map.2 ⟨(b, rb), List.mem_of_getElem? (i := i) (by rw [List.getElem?_take_of_lt hi]; exact hb), rfl⟩))) (fun b rb hb => by
    rw [hP] at hb
    injection hb with hb
    injection hb with h1 h2
    subst h1; subst h2
    exact ⟨r', hmem _ r' (by simp), g1, g2, g3, g4⟩)
  have hT := hpop.tr (iso := s.mp.iso) hD1 (Nat.le_refl 1) hok T hd (fun q _ hq => by rw [e3 q hq, q1])
  have hmn : s.mp.mn = ((D - 1 : Nat) : Int) ∧ s.mp.mx = ((2 * D - 1 : Nat) : Int) := by
    rcases m.mm with ⟨_, _, h3⟩ | h
    · rw [hr] at h3; cases h3
    · exact h
  have hTH : TreeH D h s2 (cutE last (BT.all h t)) := by
    unfold TreeH
    rw [e2, q2]
    rcases q8 with ⟨z1, z2⟩ | ⟨z1, z2⟩
    · have h1 : (BT.all h t).length = 1 := by omega
      exact .inl ⟨z2, List.eq_nil_of_length_eq_zero (by omega), all_one hD1 (Nat.le_refl 1) hok h1⟩
    · refine .inr ⟨h, n, popE last h t, ids, .inl rfl, z2, by rw [q4]; exact hT.1, hd, ?_, hall.symm⟩
      have hlf := leafE_ok last h 1 t hok
      rcases hlf.1 with h0 | h0
      · subst h0
        have hl2 : (List.length t) ≤ 2 * D - 1 := hok.2
        have hl3 : (BT.all 0 t).length = List.length t := rfl
        have hl4 := cutE_length last (t : List It)
        exact ⟨by show 1 ≤ (cutE last (t : List It)).length; omega, by show (cutE last (t : List It)).length ≤ _; omega⟩
      · exact popE_ok last h 1 t (by omega) hok (by rw [← hri] at h0 ⊢; omega)
  refine ⟨S2, s2, x, he, ?_, E2, ⟨R2, m.srt.sublist (cutE_sub _), by rw [e2, q2, q3, hcnt, hcl]; omega, .inr (by rw [e2, q2, q6, q7]; exact hmn), hTH.tree⟩, e1.trans q0, by rw [e2, q2]; exact q4, by rw [e2, q2]; exact q5, hTH⟩
  rw [leafE_endI hD1 last h 1 t (Nat.le_refl 1) hok, ← hri]; exact hx
/-- The nodes are as they were, and 'Delete' has taken the item away. -/
theorem pop_del {last : Bool} {D h : Nat} {l : List It} {S1 : Nat → Prop} {w1 : World} {x : It} (hE : Ext S w S1 w1) (hs : Srt lt l) (hx : endI last l = some x) {e0 e : Ending} {w' : World} (hd : DelPostH D h S1 w1 s l x e0 w') (he : e = .returned (.tuple #[.int .i64 x.1, .int .i64 x.2, .bool true])) : PopPost last D h S w s l e w' := by
  obtain ⟨_, hc⟩ := cut_endI hs last hx
  obtain ⟨S', s', _, h2, h3, h4, h5, h6, h7⟩ := hd
  rw [hc] at h3 h7
  exact ⟨S', s', x, he, hx, hE.trans h2, h3, h4, h5, h6, h7⟩
end Go.Proofs.Ytehnobbiiokcgaa.Bt.II
