/- Which records of nodes make a tree. -/
import Derived.Test.YtbjhnefienjncaaBtSto
import Derived.Test.YtbjhnefienjncaaBtTree
namespace Go.Proofs.Ytbjhnefienjncaa.Bt
set_option linter.unusedVariables false
set_option linter.unusedSimpArgs false

section
variable {I : Type}

/-- The node n is the root of the tree t; ids are the blocks of its nodes. -/
def Tr (nd : Nat → Option (NodeR I)) (iso : Int) : (h : Nat) → Nat → BT I h → List Nat → Prop
  | 0, n, l, ids => ids = [n] ∧ ∃ r, nd n = some r ∧ r.iso = iso ∧ r.items = l ∧ r.kids = none ∧ r.count = (List.length l : Nat)
  | h + 1, n, t, ids => ∃ (r : NodeR I) (k : KidR) (ps : List Nat) (idss : List (List Nat)), nd n = some r ∧ r.iso = iso ∧ r.items = t.1 ∧ r.kids = some k ∧ k.kids = ps.map some ∧ r.count = ((BT.all (h + 1) t).length : Nat) ∧
      ps.length = t.2.length ∧ idss.length = t.2.length ∧ ids = n :: idss.flatten ∧ ∀ (i p : Nat) (c : BT I h) (is : List Nat), ps[i]? = some p → t.2[i]? = some c → idss[i]? = some is → Tr nd iso h p c is

variable {nd nd' : Nat → Option (NodeR I)} {iso : Int}

theorem Tr.root : ∀ {h n : Nat} {t : BT I h} {ids : List Nat}, Tr nd iso h n t ids → n ∈ ids ∧ ∃ r, nd n = some r ∧ r.iso = iso ∧ r.items = BT.its t ∧ r.count = ((BT.all h t).length : Nat) ∧ (r.kids = none ↔ h = 0)
  | 0, n, l, ids, ⟨e, r, h1, h2, h3, h4, h5⟩ => ⟨by rw [e]; simp, r, h1, h2, h3, h5, by simp [h4]⟩
  | h + 1, n, t, ids, ⟨r, k, ps, idss, h1, h2, h3, h4, _, h6, _, _, h9, _⟩ => ⟨by rw [h9]; simp, r, h1, h2, h3, h6, by simp [h4]⟩

theorem mem_flatten_get {α : Type} {ls : List (List α)} {x : α} (h : x ∈ ls.flatten) : ∃ (i : Nat) (l : List α), ls[i]? = some l ∧ x ∈ l := by
  obtain ⟨l, hl, hx⟩ := List.mem_flatten.1 h
  obtain ⟨i, hi⟩ := List.mem_iff_getElem?.1 hl
  exact ⟨i, l, hi, hx⟩
theorem get_of_len {α β : Type} {l : List α} {m : List β} (h : l.length = m.length) {i : Nat} {x : α} (hx : l[i]? = some x) : ∃ y, m[i]? = some y := by
  have := (List.getElem?_eq_some_iff.1 hx).1
  exact ⟨m[i]'(by omega), List.getElem?_eq_getElem _⟩

theorem Tr.mem : ∀ {h n : Nat} {t : BT I h} {ids : List Nat}, Tr nd iso h n t ids → ∀ k ∈ ids, ∃ r, nd k = some r ∧ r.iso = iso
  | 0, n, l, ids, ⟨e, r, h1, h2, _⟩, k, hk => by
    rw [e] at hk
    obtain rfl : k = n := by simpa using hk
    exact ⟨r, h1, h2⟩
  | h + 1, n, t, ids, ⟨r, _, ps, idss, h1, h2, _, _, _, _, h7, h8, h9, h10⟩, k, hk => by
    rw [h9] at hk
    rcases List.mem_cons.1 hk with rfl | hk
    · exact ⟨r, h1, h2⟩
    · obtain ⟨i, is, hi, hm⟩ := mem_flatten_get hk
      obtain ⟨c, hc⟩ := get_of_len h8 hi
      obtain ⟨p, hp⟩ := get_of_len h7.symm hc
      exact (h10 i p c is hp hc hi).mem k hm

/-- A tree none of whose nodes has changed. -/
theorem Tr.keep : ∀ {h n : Nat} {t : BT I h} {ids : List Nat}, Tr nd iso h n t ids → (∀ k ∈ ids, nd' k = nd k) → Tr nd' iso h n t ids
  | 0, n, l, ids, ⟨e, r, h1, h2⟩, hk => ⟨e, r, by rw [hk n (by rw [e]; simp)]; exact h1, h2⟩
  | h + 1, n, t, ids, ⟨r, k, ps, idss, h1, h2, h3, h4, h5, h6, h7, h8, h9, h10⟩, hk =>
    ⟨r, k, ps, idss, by rw [hk n (by rw [h9]; simp)]; exact h1, h2, h3, h4, h5, h6, h7, h8, h9, fun i p c is hp hc hi =>
      (h10 i p c is hp hc hi).keep fun q hq => hk q (by rw [h9]; exact List.mem_cons_of_mem _ (List.mem_flatten.2 ⟨is, List.mem_of_getElem? hi, hq⟩))⟩

theorem flatten_set {α : Type} {ls : List (List α)} {i : Nat} {l : List α} (h : ls[i]? = some l) (l' : List α) : ls.flatten = (ls.take i).flatten ++ (l ++ (ls.drop (i + 1)).flatten) ∧ (ls.set i l').flatten = (ls.take i).flatten ++ (l' ++ (ls.drop (i + 1)).flatten) := by
  have hi := (List.getElem?_eq_some_iff.1 h).1
  have he : ls[i] = l := (List.getElem?_eq_some_iff.1 h).2
  constructor
  · conv => lhs; rw [← List.take_append_drop i ls, List.drop_eq_getElem_cons hi, he]
    simp
  · rw [List.set_eq_take_append_cons_drop, if_pos hi]; simp

/-- The blocks behind one child's blocks were exchanged. -/
theorem nodup_set {n N : Nat} {idss : List (List Nat)} {i : Nat} {is is' : List Nat} (h : (n :: idss.flatten).Nodup) (hi : idss[i]? = some is) (hlt : ∀ k ∈ n :: idss.flatten, k < N) (hd : is'.Nodup) (hs : ∀ k ∈ is', k ∈ is ∨ N ≤ k) : (n :: (idss.set i is').flatten).Nodup := by
  obtain ⟨e1, e2⟩ := flatten_set hi is'
  rw [e2]
  rw [e1] at h hlt
  simp only [List.nodup_cons, List.mem_append, not_or] at h ⊢
  obtain ⟨⟨a1, a2, a3⟩, hn⟩ := h
  have hn' := List.nodup_append.1 hn
  have hn2 := List.nodup_append.1 hn'.2.1
  refine ⟨⟨a1, fun hk => ?_, a3⟩, List.nodup_append.2 ⟨hn'.1, List.nodup_append.2 ⟨hd, hn2.2.1, fun x hx y hy => ?_⟩, fun x hx y hy => ?_⟩⟩
  · rcases hs n hk with h | h
    · exact a2 h
    · have := hlt n (by simp); omega
  · rcases hs x hx with h | h
    · exact hn2.2.2 x h y hy
    · have := hlt y (by simp [hy]); omega
  · rcases List.mem_append.1 hy with hy | hy
    · rcases hs y hy with h | h
      · exact hn'.2.2 x hx y (List.mem_append.2 (.inl h))
      · have := hlt x (by simp [hx]); omega
    · exact hn'.2.2 x hx y (List.mem_append.2 (.inr hy))

/-- One child's tree has become another one; the node itself has at most another count. -/
theorem Tr.put_kid {h n N : Nat} {t : BT I (h + 1)} {ids : List Nat} {r : NodeR I} {k : KidR} {ps : List Nat} {idss : List (List Nat)} {i p : Nat} {c' : BT I h} {is is' : List Nat} {cnt : Int}
    (hr : nd n = some r) (h2 : r.iso = iso) (h3 : r.items = t.1) (h4 : r.kids = some k) (h5 : k.kids = ps.map some) (h7 : ps.length = t.2.length) (h8 : idss.length = t.2.length) (h9 : ids = n :: idss.flatten)
    (h10 : ∀ (i p : Nat) (c : BT I h) (is : List Nat), ps[i]? = some p → t.2[i]? = some c → idss[i]? = some is → Tr nd iso h p c is) (hnd : ids.Nodup) (hlt : ∀ k ∈ ids, k < N)
    (hp : ps[i]? = some p) (hi : idss[i]? = some is) (hT : Tr nd' iso h p c' is') (hd : is'.Nodup) (hs : ∀ k ∈ is', k ∈ is ∨ N ≤ k)
    (ho : ∀ q, q ∉ is → q < N → q ≠ n → nd' q = nd q) (hn : nd' n = some { r with count := cnt }) (hcnt : cnt = ((BT.all (h + 1) (t.1, t.2.set i c')).length : Nat)) :
    Tr nd' iso (h + 1) n (t.1, t.2.set i c') (n :: (idss.set i is').flatten) ∧ (n :: (idss.set i is').flatten).Nodup ∧ ∀ q ∈ n :: (idss.set i is').flatten, q ∈ ids ∨ N ≤ q := by
  subst h9
  have hilt := (List.getElem?_eq_some_iff.1 hi).1
  refine ⟨⟨_, k, ps, idss.set i is', hn, h2, h3, h4, h5, hcnt, ?_, ?_, rfl, fun j q d js hq hdj hj => ?_⟩, nodup_set hnd hi hlt hd hs, fun q hq => ?_⟩
  · show ps.length = (t.2.set i c').length
    rw [List.length_set]; exact h7
  · show (idss.set i is').length = (t.2.set i c').length
    rw [List.length_set, List.length_set]; exact h8
  · have hdj' : (t.2.set i c')[j]? = some d := hdj
    by_cases hij : i = j
    · subst hij
      rw [List.getElem?_set_self (by omega)] at hdj' hj
      rw [hp] at hq
      obtain rfl := Option.some.inj hq
      obtain rfl := Option.some.inj hdj'
      obtain rfl := Option.some.inj hj
      exact hT
    · rw [List.getElem?_set_ne hij] at hdj' hj
      have hT0 := h10 j q d js hq hdj' hj
      refine hT0.keep fun x hx => ho x (fun hxi => ?_) (hlt x (List.mem_cons_of_mem _ (List.mem_flatten.2 ⟨js, List.mem_of_getElem? hj, hx⟩))) (fun e => ?_)
      · have hdis := (List.nodup_cons.1 hnd).2
        have hpw := (List.pairwise_flatten.1 hdis).2
        rcases Nat.lt_or_gt_of_ne hij with hl | hl
        · have := List.pairwise_iff_getElem.1 hpw i j hilt (List.getElem?_eq_some_iff.1 hj).1 hl
          rw [(List.getElem?_eq_some_iff.1 hi).2, (List.getElem?_eq_some_iff.1 hj).2] at this
          exact this x hxi x hx rfl
        · have := List.pairwise_iff_getElem.1 hpw j i (List.getElem?_eq_some_iff.1 hj).1 hilt hl
          rw [(List.getElem?_eq_some_iff.1 hi).2, (List.getElem?_eq_some_iff.1 hj).2] at this
          exact this x hx x hxi rfl
      · subst e
        exact (List.nodup_cons.1 hnd).1 (List.mem_flatten.2 ⟨js, List.mem_of_getElem? hj, hx⟩)
  · rcases List.mem_cons.1 hq with rfl | hq
    · exact .inl (by simp)
    · rw [(flatten_set hi is').2] at hq
      rw [(flatten_set hi is').1]
      simp only [List.mem_append] at hq
      simp only [List.mem_cons, List.mem_append]
      rcases hq with hq | hq | hq
      · exact .inl (.inr (.inl hq))
      · rcases hs q hq with h | h
        · exact .inl (.inr (.inr (.inl h)))
        · exact .inr h
      · exact .inl (.inr (.inr (.inr hq)))

/-! ### the children of a node, as three lists -/
def Kids (nd : Nat → Option (NodeR I)) (iso : Int) (h : Nat) (ps : List Nat) (cs : List (BT I h)) (iss : List (List Nat)) : Prop :=
  ps.length = cs.length ∧ iss.length = cs.length ∧ ∀ (i p : Nat) (c : BT I h) (is : List Nat), ps[i]? = some p → cs[i]? = some c → iss[i]? = some is → Tr nd iso h p c is
theorem Kids.append {h : Nat} {ps qs : List Nat} {cs ds : List (BT I h)} {iss jss : List (List Nat)} (a : Kids nd iso h ps cs iss) (b : Kids nd iso h qs ds jss) : Kids nd iso h (ps ++ qs) (cs ++ ds) (iss ++ jss) := by
  refine ⟨by rw [List.length_append, List.length_append, a.1, b.1], by rw [List.length_append, List.length_append, a.2.1, b.2.1], fun i p c is hp hc hi => ?_⟩
  by_cases hl : i < cs.length
  · rw [List.getElem?_append_left (by rw [a.1]; exact hl)] at hp
    rw [List.getElem?_append_left hl] at hc
    rw [List.getElem?_append_left (by rw [a.2.1]; exact hl)] at hi
    exact a.2.2 i p c is hp hc hi
  · rw [List.getElem?_append_right (by rw [a.1]; omega), a.1] at hp
    rw [List.getElem?_append_right (by omega)] at hc
    rw [List.getElem?_append_right (by rw [a.2.1]; omega), a.2.1] at hi
    exact b.2.2 _ p c is hp hc hi
theorem Kids.parts {h : Nat} {ps qs : List Nat} {cs ds : List (BT I h)} {iss jss : List (List Nat)} (a : Kids nd iso h (ps ++ qs) (cs ++ ds) (iss ++ jss)) (h1 : ps.length = cs.length) (h2 : iss.length = cs.length) : Kids nd iso h ps cs iss ∧ Kids nd iso h qs ds jss := by
  have a1 := a.1
  have a2 := a.2.1
  simp only [List.length_append] at a1 a2
  refine ⟨⟨h1, h2, fun i p c is hp hc hi => a.2.2 i p c is ?_ ?_ ?_⟩, by omega, by omega, fun i p c is hp hc hi => a.2.2 (cs.length + i) p c is ?_ ?_ ?_⟩
  · rw [List.getElem?_append_left (List.getElem?_eq_some_iff.1 hp).1]; exact hp
  · rw [List.getElem?_append_left (List.getElem?_eq_some_iff.1 hc).1]; exact hc
  · rw [List.getElem?_append_left (List.getElem?_eq_some_iff.1 hi).1]; exact hi
  · rw [List.getElem?_append_right (by omega), h1, Nat.add_sub_cancel_left]; exact hp
  · rw [List.getElem?_append_right (by omega), Nat.add_sub_cancel_left]; exact hc
  · rw [List.getElem?_append_right (by omega), h2, Nat.add_sub_cancel_left]; exact hi
theorem Kids.keep {h : Nat} {ps : List Nat} {cs : List (BT I h)} {iss : List (List Nat)} (a : Kids nd iso h ps cs iss) (hk : ∀ k ∈ iss.flatten, nd' k = nd k) : Kids nd' iso h ps cs iss :=
  ⟨a.1, a.2.1, fun i p c is hp hc hi => (a.2.2 i p c is hp hc hi).keep fun k hk' => hk k (List.mem_flatten.2 ⟨is, List.mem_of_getElem? hi, hk'⟩)⟩
theorem Kids.nil {h : Nat} : Kids nd iso h [] [] [] := ⟨rfl, rfl, fun i p c is hp => by simp at hp⟩
theorem Kids.cons {h p : Nat} {c : BT I h} {is : List Nat} {ps : List Nat} {cs : List (BT I h)} {iss : List (List Nat)} (t : Tr nd iso h p c is) (a : Kids nd iso h ps cs iss) : Kids nd iso h (p :: ps) (c :: cs) (is :: iss) := by
  refine ⟨by rw [List.length_cons, List.length_cons, a.1], by rw [List.length_cons, List.length_cons, a.2.1], fun i q d js hp hc hi => ?_⟩
  cases i with
  | zero =>
    obtain rfl := Option.some.inj hp
    obtain rfl := Option.some.inj hc
    obtain rfl := Option.some.inj hi
    exact t
  | succ i => exact a.2.2 i q d js hp hc hi
theorem nodup_mid {n N : Nat} {A B B' C : List Nat} (h : (n :: (A ++ (B ++ C))).Nodup) (hlt : ∀ k ∈ n :: (A ++ (B ++ C)), k < N) (hd : B'.Nodup) (hs : ∀ k ∈ B', k ∈ B ∨ N ≤ k) : (n :: (A ++ (B' ++ C))).Nodup := by
  have := nodup_set (idss := [A, B, C]) (i := 1) (is := B) (is' := B') (n := n) (N := N) (by simpa using h) rfl (by simpa using hlt) hd hs
  simpa using this
/-- Some children of a node have become others. -/
theorem Tr.splice {h n N : Nat} {ids : List Nat} {pA pC pB' : List Nat} {cA cC cB' : List (BT I h)} {iA iB iC iB' : List (List Nat)} {xs : List I} {r' : NodeR I} {k' : KidR}
    (h9 : ids = n :: (iA ++ (iB ++ iC)).flatten) (KA : Kids nd iso h pA cA iA) (KC : Kids nd iso h pC cC iC) (hnd : ids.Nodup) (hlt : ∀ k ∈ ids, k < N)
    (KB : Kids nd' iso h pB' cB' iB') (hd : iB'.flatten.Nodup) (hs : ∀ k ∈ iB'.flatten, k ∈ iB.flatten ∨ N ≤ k)
    (ho : ∀ q, q ∉ iB.flatten → q < N → q ≠ n → nd' q = nd q) (hn : nd' n = some r') (h2 : r'.iso = iso) (h3 : r'.items = xs) (h4 : r'.kids = some k') (h5 : k'.kids = (pA ++ (pB' ++ pC)).map some)
    (hcnt : r'.count = ((BT.all (h + 1) ((xs, cA ++ (cB' ++ cC)) : BT I (h + 1))).length : Nat)) :
    Tr nd' iso (h + 1) n ((xs, cA ++ (cB' ++ cC)) : BT I (h + 1)) (n :: (iA ++ (iB' ++ iC)).flatten) ∧ (n :: (iA ++ (iB' ++ iC)).flatten).Nodup ∧ ∀ q ∈ n :: (iA ++ (iB' ++ iC)).flatten, q ∈ ids ∨ N ≤ q := by
  subst h9
  simp only [List.flatten_append] at hnd hlt ⊢
  have hnd' := List.nodup_cons.1 hnd
  have e1 := List.nodup_append.1 hnd'.2
  have e2 := List.nodup_append.1 e1.2.1
  have K := (KA.keep (nd' := nd') fun q hq => ho q (fun hb => e1.2.2 q hq q (List.mem_append.2 (.inl hb)) rfl) (hlt q (by simp [hq])) (fun e => hnd'.1 (by subst e; simp [hq]))).append
    (KB.append (KC.keep (nd' := nd') fun q hq => ho q (fun hb => e2.2.2 q hb q hq rfl) (hlt q (by simp [hq])) (fun e => hnd'.1 (by subst e; simp [hq]))))
  refine ⟨⟨r', k', _, _, hn, h2, h3, h4, h5, hcnt, K.1, K.2.1, by simp, K.2.2⟩, nodup_mid hnd hlt hd hs, fun q hq => ?_⟩
  simp only [List.mem_cons, List.mem_append] at hq ⊢
  rcases hq with hq | hq | hq | hq
  · exact .inl (.inl hq)
  · exact .inl (.inr (.inl hq))
  · rcases hs q hq with h' | h'
    · exact .inl (.inr (.inr (.inl h')))
    · exact .inr h'
  · exact .inl (.inr (.inr (.inr hq)))

/-! ### a node is split -/
theorem weave_length : ∀ (xs : List I) (ls : List (List I)), (weave xs ls).length = xs.length + (ls.map List.length).sum
  | [], ls => by simp [weave]
  | x :: xs, [] => by simp [weave]
  | x :: xs, l :: ls => by
    have := weave_length xs ls
    simp only [weave, List.length_append, List.length_cons, List.map_cons, List.sum_cons, this]; omega
theorem sum_cast : ∀ l : List Nat, ((l.sum : Nat) : Int) = (l.map fun n : Nat => (n : Int)).sum
  | [] => rfl
  | n :: l => by simp only [List.sum_cons, List.map_cons, Int.natCast_add, sum_cast l]
/-- How many items each tree has. -/
def cnts {h : Nat} (ts : List (BT I h)) : List Int := ts.map fun c => ((BT.all h c).length : Int)
theorem all_length {h : Nat} (t : BT I (h + 1)) : ((BT.all (h + 1) t).length : Int) = (t.1.length : Int) + (cnts t.2).sum := by
  show ((weave t.1 (t.2.map (BT.all h))).length : Int) = _
  rw [weave_length, Int.natCast_add, sum_cast, List.map_map, List.map_map]; rfl
theorem cnts_nonneg {h : Nat} (ts : List (BT I h)) : ∀ c ∈ cnts ts, 0 ≤ c := fun c hc => by
  obtain ⟨t, _, rfl⟩ := List.mem_map.1 hc
  exact Int.natCast_nonneg _

/-- The children of an inner node. -/
theorem Tr.kids {h n : Nat} {t : BT I (h + 1)} {ids : List Nat} (T : Tr nd iso (h + 1) n t ids) (hd : ids.Nodup) : ∃ (r : NodeR I) (k : KidR) (ps : List Nat) (idss : List (List Nat)), nd n = some r ∧ r.iso = iso ∧ r.items = t.1 ∧ r.kids = some k ∧ k.kids = ps.map some ∧ r.count = ((BT.all (h + 1) t).length : Nat) ∧
      ps.length = t.2.length ∧ idss.length = t.2.length ∧ ids = n :: idss.flatten ∧ (∀ (i p : Nat) (c : BT I h) (is : List Nat), ps[i]? = some p → t.2[i]? = some c → idss[i]? = some is → Tr nd iso h p c is) ∧
      (∀ j p : Nat, ps[j]? = some p → p ≠ n ∧ ∃ rp, nd p = some rp ∧ (cnts t.2)[j]? = some rp.count) := by
  obtain ⟨r, k, ps, idss, h1, h2, h3, h4, h5, h6, h7, h8, h9, h10⟩ := T
  refine ⟨r, k, ps, idss, h1, h2, h3, h4, h5, h6, h7, h8, h9, h10, fun j p hp => ?_⟩
  obtain ⟨c, hc⟩ := get_of_len h7 hp
  obtain ⟨is, his⟩ := get_of_len h8.symm hc
  obtain ⟨hm, rp, hr, _, _, hcnt, _⟩ := (h10 j p c is hp hc his).root
  refine ⟨fun e => ?_, rp, hr, ?_⟩
  · rw [h9] at hd
    exact (List.nodup_cons.1 hd).1 (List.mem_flatten.2 ⟨is, List.mem_of_getElem? his, by rw [← e]; exact hm⟩)
  · simp only [cnts, List.getElem?_map, hc, Option.map_some, hcnt]

theorem Tr.split_leaf {n q : Nat} {l : List I} {ids : List Nat} {i : Nat} {m : I} {r : NodeR I} {ib : Option (Nat × Nat)} {c1 c2 : Nat} {ib2 : Option (Nat × Nat)} (T : Tr nd iso 0 n (l : BT I 0) ids) (hr : nd n = some r) (hi : l[i]? = some m)
    (h1 : nd' n = some ⟨r.iso, (i : Nat), r.items.take i, ib, c1, r.kids⟩) (h2 : nd' q = some ⟨iso, ((l.length - 1 - i : Nat) : Int), r.items.drop (i + 1), ib2, c2, none⟩) :
    Tr nd' iso 0 n (l.take i : BT I 0) [n] ∧ Tr nd' iso 0 q (l.drop (i + 1) : BT I 0) [q] := by
  obtain ⟨e, r', hr', a2, a3, a4, a5⟩ := T
  rw [hr] at hr'
  obtain rfl := Option.some.inj hr'
  have hlt := (List.getElem?_eq_some_iff.1 hi).1
  refine ⟨⟨rfl, _, h1, a2, by show r.items.take i = l.take i; rw [a3], a4, ?_⟩, ⟨rfl, _, h2, rfl, by show r.items.drop (i + 1) = l.drop (i + 1); rw [a3], rfl, ?_⟩⟩
  · show ((i : Nat) : Int) = ((l.take i).length : Nat)
    rw [List.length_take, Nat.min_eq_left (by omega)]
  · show ((l.length - 1 - i : Nat) : Int) = ((l.drop (i + 1)).length : Nat)
    rw [List.length_drop]; congr 1; omega

theorem Tr.split_inner {h n q : Nat} {t : BT I (h + 1)} {ids : List Nat} {i : Nat} {m : I} {r : NodeR I} {k : KidR} {ps : List Nat} {idss : List (List Nat)} {ib ib2 : Option (Nat × Nat)} {c1 c2 : Nat} {k2 : KidR} {kc : Nat} {N : Nat}
    (h2 : r.iso = iso) (h3 : r.items = t.1) (h7 : ps.length = t.2.length) (h8 : idss.length = t.2.length) (h9 : ids = n :: idss.flatten)
    (h10 : ∀ (i p : Nat) (c : BT I h) (is : List Nat), ps[i]? = some p → t.2[i]? = some c → idss[i]? = some is → Tr nd iso h p c is) (hd : ids.Nodup) (hlt : ∀ k ∈ ids, k < N) (hq : N ≤ q) (hi : t.1[i]? = some m) (hl : t.2.length = t.1.length + 1)
    (e1 : nd' n = some ⟨r.iso, ((i : Nat) : Int) + ((cnts t.2).take (i + 1)).sum, r.items.take i, ib, c1, some { k with cap := kc, kids := (ps.take (i + 1)).map some }⟩)
    (e2 : nd' q = some ⟨iso, ((t.1.length - 1 - i : Nat) : Int) + ((cnts t.2).drop (i + 1)).sum, r.items.drop (i + 1), ib2, c2, some k2⟩) (hk2 : k2.kids = (ps.drop (i + 1)).map some) (ho : ∀ x, x ≠ n → x ≠ q → nd' x = nd x) :
    Tr nd' iso (h + 1) n (t.1.take i, t.2.take (i + 1)) (n :: (idss.take (i + 1)).flatten) ∧ Tr nd' iso (h + 1) q (t.1.drop (i + 1), t.2.drop (i + 1)) (q :: (idss.drop (i + 1)).flatten) ∧
      ((n :: (idss.take (i + 1)).flatten) ++ (q :: (idss.drop (i + 1)).flatten)).Nodup ∧ ∀ x ∈ (n :: (idss.take (i + 1)).flatten) ++ (q :: (idss.drop (i + 1)).flatten), x ∈ ids ∨ x = q := by
  subst h9
  have hlti := (List.getElem?_eq_some_iff.1 hi).1
  have hfl : idss.flatten = (idss.take (i + 1)).flatten ++ (idss.drop (i + 1)).flatten := by rw [← List.flatten_append, List.take_append_drop]
  have hnn := (List.nodup_cons.1 hd).1
  have keep : ∀ j p c is, ps[j]? = some p → t.2[j]? = some c → idss[j]? = some is → Tr nd' iso h p c is := fun j p c is hp hc his =>
    (h10 j p c is hp hc his).keep fun x hx => by
      have hxf : x ∈ idss.flatten := List.mem_flatten.2 ⟨is, List.mem_of_getElem? his, hx⟩
      exact ho x (fun e => hnn (by rw [← e]; exact hxf)) (fun e => by have := hlt x (List.mem_cons_of_mem _ hxf); omega)
  have l1 : (t.1.take i).length = i := by rw [List.length_take]; omega
  refine ⟨⟨_, _, ps.take (i + 1), idss.take (i + 1), e1, h2, by show r.items.take i = t.1.take i; rw [h3], rfl, rfl, ?_, ?_, ?_, rfl, fun j p c is hp hc his => ?_⟩,
    ⟨_, k2, ps.drop (i + 1), idss.drop (i + 1), e2, rfl, by show r.items.drop (i + 1) = t.1.drop (i + 1); rw [h3], rfl, hk2, ?_, ?_, ?_, rfl, fun j p c is hp hc his => ?_⟩, ?_, fun x hx => ?_⟩
  · rw [all_length]
    show _ = ((t.1.take i).length : Int) + (cnts (t.2.take (i + 1))).sum
    rw [l1]; simp only [cnts, List.map_take]
  · show (ps.take (i + 1)).length = (t.2.take (i + 1)).length
    rw [List.length_take, List.length_take, h7]
  · show (idss.take (i + 1)).length = (t.2.take (i + 1)).length
    rw [List.length_take, List.length_take, h8]
  · have hc' : (t.2.take (i + 1))[j]? = some c := hc
    have hj := (List.getElem?_eq_some_iff.1 hp).1
    rw [List.length_take] at hj
    rw [List.getElem?_take_of_lt (by omega)] at hp hc' his
    exact keep j p c is hp hc' his
  · rw [all_length]
    show _ = ((t.1.drop (i + 1)).length : Int) + (cnts (t.2.drop (i + 1))).sum
    rw [List.length_drop, show t.1.length - (i + 1) = t.1.length - 1 - i by omega]; simp only [cnts, List.map_drop]
  · show (ps.drop (i + 1)).length = (t.2.drop (i + 1)).length
    rw [List.length_drop, List.length_drop, h7]
  · show (idss.drop (i + 1)).length = (t.2.drop (i + 1)).length
    rw [List.length_drop, List.length_drop, h8]
  · have hc' : (t.2.drop (i + 1))[j]? = some c := hc
    rw [List.getElem?_drop] at hp hc' his
    exact keep _ p c is hp hc' his
  · have hqi : ∀ x ∈ n :: idss.flatten, x ≠ q := fun x hx e => by have := hlt x hx; omega
    rw [hfl] at hd hqi
    have h1 := List.nodup_cons.1 hd
    have h2 := List.nodup_append.1 h1.2
    simp only [List.mem_append, not_or] at h1
    refine List.nodup_append.2 ⟨List.nodup_cons.2 ⟨h1.1.1, h2.1⟩, List.nodup_cons.2 ⟨fun hx => hqi q (by simp [hx]) rfl, h2.2.1⟩, fun x hx y hy => ?_⟩
    rcases List.mem_cons.1 hx with rfl | hx <;> rcases List.mem_cons.1 hy with rfl | hy
    · exact hqi x (by simp)
    · exact fun e => h1.1.2 (by rw [e]; exact hy)
    · exact hqi x (by simp [hx])
    · exact h2.2.2 x hx y hy
  · rw [hfl]
    simp only [List.mem_append, List.mem_cons] at hx ⊢
    rcases hx with (hx | hx) | (hx | hx)
    · exact .inl (.inl hx)
    · exact .inl (.inr (.inl hx))
    · exact .inr hx
    · exact .inl (.inr (.inr hx))
end
end Go.Proofs.Ytbjhnefienjncaa.Bt
