/- What a call has laid itself: boxes, and rows that grow (for spec.Rebalanced). -/
import Derived.Test.YtehnobbiiokcgaaBtLd
namespace Go.Proofs.Ytehnobbiiokcgaa.Bt.ND
set_option linter.unusedVariables false
set_option linter.unusedSimpArgs false
open Go Go.RowKit Go.Proofs.Ytehnobbiiokcgaa.Bt

/-- A row that grows: the cells of an element, the slice, how many elements, their cells, the array's block. -/
structure RW where
  sz : Nat
  v : Value
  n : Nat
  xs : List Value
  g : Option Nat
/-- From w on: what came in is as it was; the call's own boxes; its rows, each in an array of its own. -/
structure RS (w : World) (BX : List (Nat × List Value)) (RR : List RW) (wr : World) : Prop where
  below : Below w.heap.size w wr
  bx : ∀ p ∈ BX, Bx wr p.1 p.2 ∧ w.heap.size ≤ p.1
  nd : (BX.map (·.1)).Nodup
  row : ∀ r ∈ RR, Row r.sz wr r.v r.n r.xs r.g
  own : ∀ r ∈ RR, ∀ k, r.g = some k → w.heap.size ≤ k ∧ k ∉ BX.map (·.1)
  dis : (RR.filterMap (·.g)).Nodup
variable {w wr w2 : World} {BX : List (Nat × List Value)} {RR : List RW}
theorem RS.start (w : World) : RS w [] [] w := ⟨Below.refl _ _, fun _ h => (by cases h), List.nodup_nil, fun _ h => (by cases h), fun _ h => (by cases h), List.nodup_nil⟩
theorem RS.drew (R : RS w BX RR wr) : RS w BX RR wr.drew := ⟨R.below.drew, fun p hp => ⟨(R.bx p hp).1.drew, (R.bx p hp).2⟩, R.nd, fun r hr => (R.row r hr).keep ((Fr.refl (fun _ => False) wr).drew) (fun _ _ h => h), R.own, R.dis⟩
/-- A call that leaves alone what it found. -/
theorem RS.call (R : RS w BX RR wr) (hb : Below wr.heap.size wr w2) : RS w BX RR w2 :=
  ⟨R.below.trans (hb.mono R.below.size), fun p hp => ⟨Bx.below (R.bx p hp).1 hb (R.bx p hp).1.1, (R.bx p hp).2⟩, R.nd, fun r hr => Row.below (R.row r hr) hb, R.own, R.dis⟩
/-- A box more. -/
theorem RS.box (R : RS w BX RR wr) (vs : List Value) (ty : TypeId) : RS w ((wr.heap.size, vs) :: BX) RR (wr.alloc (.cells vs.toArray ty)) := by
  have R2 := R.call ((Below.refl wr.heap.size wr).alloc (Nat.le_refl _) (.cells vs.toArray ty))
  have hrl : ∀ r ∈ RR, ∀ k, r.g = some k → k < wr.heap.size := fun r hr k hk => by
    obtain ⟨_, h⟩ := R.row r hr
    rcases h with ⟨_, _, h⟩ | ⟨b, cap, h, _, _, _, hlt, _⟩
    · rw [h] at hk; cases hk
    · rw [h] at hk; obtain rfl := Option.some.inj hk; exact hlt
  refine ⟨R2.below, fun p hp => ?_, ?_, R2.row, fun r hr k hk => ⟨(R.own r hr k hk).1, fun hm => ?_⟩, R.dis⟩
  · rcases List.mem_cons.1 hp with rfl | hp
    · exact ⟨Bx.new wr vs ty, R.below.size⟩
    · exact R2.bx p hp
  · rw [List.map_cons, List.nodup_cons]
    refine ⟨fun hm => ?_, R.nd⟩
    obtain ⟨p, hp, e⟩ := List.mem_map.1 hm
    have h1 := (R.bx p hp).1.1
    have e' : p.1 = wr.heap.size := e
    omega
  · rw [List.map_cons] at hm
    rcases List.mem_cons.1 hm with h | h
    · have h1 := hrl r hr k hk
      have h' : k = wr.heap.size := h
      omega
    · exact (R.own r hr k hk).2 h
/-- One box is written. -/
theorem RS.put {A B : List (Nat × List Value)} {b : Nat} {vs vs' : List Value} (R : RS w (A ++ (b, vs) :: B) RR wr) (hf : Fr (fun k => k = b) wr w2) (hb : Bx w2 b vs') : RS w (A ++ (b, vs') :: B) RR w2 := by
  have hm : (A ++ (b, vs') :: B).map (·.1) = (A ++ (b, vs) :: B).map (·.1) := by simp
  have hbb := (R.bx (b, vs) (by simp)).2
  have hnd := R.nd
  rw [List.map_append, List.map_cons, List.nodup_append] at hnd
  refine ⟨R.below.trans (hf.below R.below.size (fun i hi => by have h1 : i = b := hi; subst h1; exact hbb)), fun p hp => ?_, by rw [hm]; exact R.nd, fun r hr => (R.row r hr).keep hf (fun k hk h => ?_), fun r hr k hk => by rw [hm]; exact R.own r hr k hk, R.dis⟩
  · rcases List.mem_append.1 hp with hp | hp
    · refine ⟨(R.bx p (by simp [hp])).1.keep hf (fun h => hnd.2.2 p.1 (List.mem_map.2 ⟨p, hp, rfl⟩) b (by simp) h), (R.bx p (by simp [hp])).2⟩
    · rcases List.mem_cons.1 hp with rfl | hp
      · exact ⟨hb, hbb⟩
      · refine ⟨(R.bx p (by simp [hp])).1.keep hf (fun h => (List.nodup_cons.1 hnd.2.1).1 (List.mem_map.2 ⟨p, hp, h⟩)), (R.bx p (by simp [hp])).2⟩
  · have h1 : k = b := h
    subst h1
    exact (R.own r hr k hk).2 (by simp)
/-- A row has grown. -/
theorem RS.grow {A B : List RW} {sz : Nat} {v v' : Value} {n n' : Nat} {xs xs' : List Value} {g g' : Option Nat} (R : RS w BX (A ++ ⟨sz, v, n, xs, g⟩ :: B) wr) (hr : Row sz w2 v' n' xs' g') (hg : ∀ k, g' = some k → g = some k ∨ wr.heap.size ≤ k) (hf : Fr (fun k => g = some k) wr w2) :
    RS w BX (A ++ ⟨sz, v', n', xs', g'⟩ :: B) w2 := by
  have hme : (⟨sz, v, n, xs, g⟩ : RW) ∈ A ++ ⟨sz, v, n, xs, g⟩ :: B := by simp
  have hrl : ∀ r ∈ A ++ ⟨sz, v, n, xs, g⟩ :: B, ∀ k, r.g = some k → k < wr.heap.size := fun r hr k hk => by
    obtain ⟨_, h⟩ := R.row r hr
    rcases h with ⟨_, _, h⟩ | ⟨b, cap, h, _, _, _, hlt, _⟩
    · rw [h] at hk; cases hk
    · rw [h] at hk; obtain rfl := Option.some.inj hk; exact hlt
  have hdis := R.dis
  rw [List.filterMap_append, List.nodup_append] at hdis
  -- another row's array is not the one that is written
  have hot : ∀ r ∈ A ++ B, ∀ k, r.g = some k → ¬ g = some k := fun r hr k hk hgk => by
    have hkB : k ∈ ((⟨sz, v, n, xs, g⟩ : RW) :: B).filterMap (·.g) := List.mem_filterMap.2 ⟨⟨sz, v, n, xs, g⟩, by simp, hgk⟩
    rcases List.mem_append.1 hr with h | h
    · exact hdis.2.2 k (List.mem_filterMap.2 ⟨r, h, hk⟩) k hkB rfl
    · have h2 := hdis.2.1
      rw [List.filterMap_cons] at h2
      simp only [hgk] at h2
      exact (List.nodup_cons.1 h2).1 (List.mem_filterMap.2 ⟨r, h, hk⟩)
  have hin : ∀ r ∈ A ++ B, r ∈ A ++ (⟨sz, v, n, xs, g⟩ : RW) :: B := fun r hr => by
    rcases List.mem_append.1 hr with h | h <;> simp [h]
  refine ⟨R.below.trans (hf.below R.below.size (fun i hi => (R.own _ hme i hi).1)), fun p hp => ⟨(R.bx p hp).1.keep hf (fun h => (R.own _ hme p.1 h).2 (List.mem_map.2 ⟨p, hp, rfl⟩)), (R.bx p hp).2⟩, R.nd, fun r hr' => ?_, fun r hr' k hk => ?_, ?_⟩
  · have hr2 : r ∈ A ++ B ∨ r = ⟨sz, v', n', xs', g'⟩ := by
      rcases List.mem_append.1 hr' with h | h
      · left; simp [h]
      · rcases List.mem_cons.1 h with h | h
        · right; exact h
        · left; simp [h]
    rcases hr2 with h | rfl
    · exact (R.row r (hin r h)).keep hf (fun k hk => hot r h k hk)
    · exact hr
  · have hr2 : r ∈ A ++ B ∨ r = ⟨sz, v', n', xs', g'⟩ := by
      rcases List.mem_append.1 hr' with h | h
      · left; simp [h]
      · rcases List.mem_cons.1 h with h | h
        · right; exact h
        · left; simp [h]
    rcases hr2 with h | rfl
    · exact R.own r (hin r h) k hk
    · rcases hg k hk with h | h
      · exact R.own _ hme k h
      · refine ⟨Nat.le_trans R.below.size h, fun hm => ?_⟩
        obtain ⟨p, hp, e⟩ := List.mem_map.1 hm
        have h1 := (R.bx p hp).1.1
        have e' : p.1 = k := e
        omega
  · rw [List.filterMap_append, List.filterMap_cons]
    have hfresh : ∀ k, g' = some k → k ∉ (A ++ B).filterMap (·.g) := fun k hk hm => by
      obtain ⟨r, hr', hrk⟩ := List.mem_filterMap.1 hm
      rcases hg k hk with h | h
      · exact hot r hr' k hrk h
      · have := hrl r (hin r hr') k hrk
        omega
    have hAB : (A.filterMap (·.g)).Nodup ∧ (B.filterMap (·.g)).Nodup ∧ ∀ x ∈ A.filterMap (·.g), ∀ y ∈ B.filterMap (·.g), x ≠ y := by
      have h2 := hdis.2.1
      rw [List.filterMap_cons] at h2
      refine ⟨hdis.1, ?_, fun x hx y hy => hdis.2.2 x hx y ?_⟩
      · cases g with
        | none => exact h2
        | some k => exact (List.nodup_cons.1 h2).2
      · rw [List.filterMap_cons]
        cases g with
        | none => exact hy
        | some k => exact List.mem_cons_of_mem _ hy
    cases g' with
    | none =>
      simp only
      exact List.nodup_append.2 hAB
    | some k =>
      simp only
      have hk := hfresh k rfl
      rw [List.filterMap_append, List.mem_append] at hk
      refine List.nodup_append.2 ⟨hAB.1, List.nodup_cons.2 ⟨fun h => hk (.inr h), hAB.2.1⟩, fun x hx y hy => ?_⟩
      rcases List.mem_cons.1 hy with rfl | hy
      · exact fun e => hk (.inl (e ▸ hx))
      · exact hAB.2.2 x hx y hy
/-- A row that has no array yet. -/
theorem RS.nil (R : RS w BX RR wr) (sz : Nat) : RS w BX (⟨sz, .slice none 0 0, 0, [], none⟩ :: RR) wr :=
  ⟨R.below, R.bx, R.nd, fun r hr => by
    rcases List.mem_cons.1 hr with rfl | hr
    · exact Row.nil sz wr
    · exact R.row r hr, fun r hr k hk => by
    rcases List.mem_cons.1 hr with rfl | hr
    · cases hk
    · exact R.own r hr k hk, by rw [List.filterMap_cons]; exact R.dis⟩
/-- A row begun by a list without elements. -/
theorem RS.empty (R : RS w BX RR wr) (sz : Nat) (ty : TypeId) : RS w BX (⟨sz, .slice (some ⟨wr.heap.size, 0, none⟩) 0 0, 0, [], some wr.heap.size⟩ :: RR) (wr.alloc (.cells #[] ty)) := by
  have h1 := R.nil sz
  have h2 : Row sz (wr.alloc (.cells #[] ty)) (.slice (some ⟨wr.heap.size, 0, none⟩) 0 0) 0 [] (some wr.heap.size) := Row.empty sz wr #[] ty
  exact RS.grow (A := []) h1 h2 (fun k hk => .inr (Nat.le_of_eq (Option.some.inj hk))) ((Fr.refl _ wr).alloc _)
/-- Some of the boxes, in another order. -/
theorem RS.sub {BX' : List (Nat × List Value)} (R : RS w BX RR wr) (hs : ∀ p ∈ BX', p ∈ BX) (hn : (BX'.map (·.1)).Nodup) : RS w BX' RR wr :=
  ⟨R.below, fun p hp => R.bx p (hs p hp), hn, R.row, fun r hr k hk => ⟨(R.own r hr k hk).1, fun hm => (R.own r hr k hk).2 (by
    obtain ⟨p, hp, e⟩ := List.mem_map.1 hm
    exact List.mem_map.2 ⟨p, hs p hp, e⟩)⟩, R.dis⟩
/-- Three boxes more. -/
theorem RS.box3 (R : RS w BX RR wr) (x y z : List Value) (tx ty tz : TypeId) : RS w ((wr.heap.size + 1 + 1, z) :: (wr.heap.size + 1, y) :: (wr.heap.size, x) :: BX) RR (((wr.alloc (.cells x.toArray tx)).alloc (.cells y.toArray ty)).alloc (.cells z.toArray tz)).drew := by
  have h := ((R.box x tx).box y ty).box z tz
  rw [World.size_alloc, World.size_alloc] at h
  exact h.drew
/-- Two boxes more. -/
theorem RS.box2 (R : RS w BX RR wr) (x y : List Value) (tx ty : TypeId) : RS w ((wr.heap.size + 1, y) :: (wr.heap.size, x) :: BX) RR ((wr.alloc (.cells x.toArray tx)).alloc (.cells y.toArray ty)).drew := by
  have h := (R.box x tx).box y ty
  rw [World.size_alloc] at h
  exact h.drew
theorem RS.at (R : RS w BX RR wr) {b : Nat} {vs : List Value} (h : (b, vs) ∈ BX) : Bx wr b vs := (R.bx _ h).1
/-- Where the elements of a slice that came in lie. -/
theorem Flat.src {sz : Nat} {w : World} {a : Option Addr} {c n : Nat} {xs : List Value} (h : Flat sz w (.slice a n c) n xs) :
    ∃ A : Addr, (0 < n → a = some A) ∧ ∀ wr : World, Below w.heap.size w wr → ∀ j u, xs[j]? = some u → wr.cell? (A.add j) = some u := by
  obtain ⟨hl, a', cap, e, hc, hi⟩ := h
  injection e with e1 e2 e3
  subst e1; subst e3
  rcases Nat.eq_zero_or_pos n with h0 | h0
  · subst h0
    refine ⟨⟨0, 0, none⟩, fun h => by omega, fun wr _ j u hu => ?_⟩
    have hx : xs = [] := List.eq_nil_of_length_eq_zero (by simpa using hl)
    rw [hx] at hu
    simp at hu
  · obtain ⟨b, off, rfl, hlt, hcell⟩ := hi h0
    refine ⟨⟨b, off, none⟩, fun _ => rfl, fun wr hb j u hu => ?_⟩
    rw [Addr.add_lit]
    exact (hb.cell (p := ⟨b, off + j, none⟩) hlt).trans (hcell j u hu)
/-- The cells of the children of a node are slices and numbers. -/
theorem KL.one_cell {n : Nat} {L : List (Value × Value × Int)} {ks : List (DT n)} (h : KL w L ks) : ∀ u ∈ kcells L, u.oneCell' = true := fun u hu => by
  unfold kcells at hu
  obtain ⟨y, hy, hyu⟩ := List.mem_flatMap.1 hu
  obtain ⟨i, hi⟩ := List.mem_iff_getElem?.1 hy
  have hil := (List.getElem?_eq_some_iff.1 hi).1
  have hN := h.2 i y (ks[i]'(by rw [← h.1]; exact hil)) hi (List.getElem?_eq_getElem _)
  obtain ⟨⟨a1, a2, a3, e1⟩, b1, b2, b3, e2⟩ := hN.vals
  rw [e1, e2] at hyu
  simp only [List.mem_cons, List.not_mem_nil, or_false] at hyu
  rcases hyu with rfl | rfl | rfl <;> simp [Value.oneCell']
theorem sum_split {α : Type} (f : α → Nat) {l : List α} {j : Nat} {x y : α} (hx : l[j]? = some x) (hy : l[j + 1]? = some y) : (l.map f).sum = ((l.take j).map f).sum + f x + f y + ((l.drop (j + 2)).map f).sum := by
  have h1 := (List.getElem?_eq_some_iff.1 hx)
  have h2 := (List.getElem?_eq_some_iff.1 hy)
  obtain ⟨l1, e1⟩ := h1
  obtain ⟨l2, e2⟩ := h2
  have e : l = l.take j ++ x :: y :: l.drop (j + 2) := by
    conv => lhs; rw [← List.take_append_drop j l, List.drop_eq_getElem_cons l1, e1, List.drop_eq_getElem_cons l2, e2]
  conv => lhs; rw [e]
  simp only [List.map_append, List.map_cons, List.sum_append, List.sum_cons]
  omega
theorem sum_cut {α : Type} (f : α → Nat) (l : List α) (p : Nat) : ((l.take p).map f).sum + ((l.drop p).map f).sum = (l.map f).sum := by
  conv => rhs; rw [← List.take_append_drop p l]
  rw [List.map_append, List.sum_append]
/-- It is no larger. -/
theorem bulk_rebD {D n : Nat} {t : DT (n + 2)} {j : Nat} {a b : DT (n + 1)} {m : Im} (hm : t.1[j]? = some m) (ha : t.2.1[j]? = some a) (hb : t.2.1[j + 1]? = some b) : bulk (n + 2) (rebD D t j a b m) ≤ bulk (n + 2) t + 2 := by
  have hj := (List.getElem?_eq_some_iff.1 hm).1
  have hs := sum_split (bulk (n + 1)) ha hb
  have ht : bulk (n + 2) t = 1 + t.1.length + (t.2.1.map (bulk (n + 1))).sum := rfl
  have hba : bulk (n + 1) a = 1 + a.1.length + (a.2.1.map (bulk n)).sum := rfl
  have hbb : bulk (n + 1) b = 1 + b.1.length + (b.2.1.map (bulk n)).sum := rfl
  unfold rebD
  split
  · show 1 + (t.1.take j ++ t.1.drop (j + 1)).length + ((t.2.1.take j ++ joinD a m b :: t.2.1.drop (j + 2)).map (bulk (n + 1))).sum ≤ _
    have hjn : bulk (n + 1) (joinD a m b) = 1 + (a.1 ++ m :: b.1).length + ((a.2.1 ++ b.2.1).map (bulk n)).sum := rfl
    rw [List.length_append, List.length_cons, List.map_append, List.sum_append] at hjn
    rw [List.length_append, List.length_take, List.length_drop, List.map_append, List.map_cons, List.sum_append, List.sum_cons]
    omega
  · generalize atD a.1.length b.1.length = p
    show 1 + (t.1.take j ++ (a.1 ++ m :: b.1)[p]?.toList ++ t.1.drop (j + 1)).length + ((t.2.1.take j ++ leftD a m b p :: rightD a m b p :: t.2.1.drop (j + 2)).map (bulk (n + 1))).sum ≤ _
    have hl : bulk (n + 1) (leftD a m b p) = 1 + ((a.1 ++ m :: b.1).take p).length + (((a.2.1 ++ b.2.1).take (p + 1)).map (bulk n)).sum := rfl
    have hr : bulk (n + 1) (rightD a m b p) = 1 + ((a.1 ++ m :: b.1).drop (p + 1)).length + (((a.2.1 ++ b.2.1).drop (p + 1)).map (bulk n)).sum := rfl
    have hc := sum_cut (bulk n) (a.2.1 ++ b.2.1) (p + 1)
    rw [List.map_append, List.sum_append] at hc
    rw [List.length_take, List.length_append, List.length_cons] at hl
    rw [List.length_drop, List.length_append, List.length_cons] at hr
    have h1 : ((a.1 ++ m :: b.1)[p]?.toList).length ≤ 1 := by cases (a.1 ++ m :: b.1)[p]? <;> simp
    rw [List.length_append, List.length_append, List.length_take, List.length_drop, List.map_append, List.map_cons, List.map_cons, List.sum_append, List.sum_cons, List.sum_cons]
    omega
end Go.Proofs.Ytehnobbiiokcgaa.Bt.ND
