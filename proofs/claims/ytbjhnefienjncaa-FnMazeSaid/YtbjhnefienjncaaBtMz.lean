/- A maze of 64 cells: what the definition reckons are the layers of a search in breadth (no program). -/
import Derived.Test.YtbjhnefienjncaaBtTree
namespace Go.Proofs.Ytbjhnefienjncaa.Bt.Mz
set_option linter.unusedVariables false
set_option linter.unusedSimpArgs false

/-- The cells beside a cell. -/
def nb (c : Nat) : List Nat := (if 8 ≤ c then [c - 8] else []) ++ (if 0 < c % 8 then [c - 1] else []) ++ (if c % 8 < 7 then [c + 1] else []) ++ (if c < 56 then [c + 8] else [])
theorem nb_lt : ∀ c, c < 64 → ∀ d ∈ nb c, d < 64 := by decide
theorem nb_sym : ∀ c, c < 64 → ∀ d, d < 64 → (d ∈ nb c ↔ c ∈ nb d) := by decide

variable (wall : Nat → Bool)
/-- A walk of n steps from f ends at c; no cell of it is a wall. -/
def Reach (f : Nat) : Nat → Nat → Prop
  | 0, c => c = f ∧ wall f = false
  | n + 1, c => wall c = false ∧ ∃ d ∈ nb c, d < 64 ∧ Reach f n d

/-! ### the definition's way: relaxing -/
/-- The distances so far, one neighbour looked at. -/
def relax (c : Nat) (far : List Nat) (d : Nat) : List Nat := if wall c = false ∧ far.getD d 0 + 1 < far.getD c 0 then far.set c (far.getD d 0 + 1) else far
def cell (far : List Nat) (c : Nat) : List Nat := (nb c).foldl (relax wall c) far
/-- The first k cells of a round. -/
def cells (far : List Nat) (k : Nat) : List Nat := (List.range k).foldl (cell wall) far
def rounds (far : List Nat) : Nat → List Nat
  | 0 => far
  | n + 1 => cells wall (rounds far n) 64
def start (f : Nat) : List Nat := if wall f = false then (List.replicate 64 100).set f 0 else List.replicate 64 100

/-- What holds all the time. -/
structure Ok (f : Nat) (far : List Nat) : Prop where
  len : far.length = 64
  le : ∀ c, c < 64 → far.getD c 0 ≤ 100
  fit : ∀ c, c < 64 → far.getD c 0 < 100 → Reach wall f (far.getD c 0) c
variable {wall}
theorem getD_set {far : List Nat} {c d v : Nat} (hc : c < far.length) : (far.set c v).getD d 0 = if c = d then v else far.getD d 0 := by
  rw [List.getD_eq_getElem?_getD, List.getD_eq_getElem?_getD, List.getElem?_set]
  by_cases h : c = d
  · rw [if_pos h, if_pos h, if_pos (by omega)]; rfl
  · rw [if_neg h, if_neg h]
theorem relax_ok {f c d : Nat} {far : List Nat} (h : Ok wall f far) (hc : c < 64) (hd : d ∈ nb c) : Ok wall f (relax wall c far d) ∧ (∀ e, (relax wall c far d).getD e 0 ≤ far.getD e 0) ∧ (wall c = false → (relax wall c far d).getD c 0 ≤ far.getD d 0 + 1) := by
  have hd64 := nb_lt c hc d hd
  unfold relax
  by_cases hw : wall c = false ∧ far.getD d 0 + 1 < far.getD c 0
  · rw [if_pos hw]
    have hl := h.len
    have hle := h.le c hc
    refine ⟨⟨by rw [List.length_set]; exact hl, fun e he => ?_, fun e he hlt => ?_⟩, fun e => ?_, fun _ => ?_⟩
    · rw [getD_set (by omega)]
      split
      · omega
      · exact h.le e he
    · rw [getD_set (by omega)] at hlt ⊢
      by_cases hce : c = e
      · subst hce
        rw [if_pos rfl]
        exact ⟨hw.1, d, hd, hd64, h.fit d hd64 (by omega)⟩
      · rw [if_neg hce] at hlt ⊢
        exact h.fit e he hlt
    · rw [getD_set (by omega)]
      split
      · rename_i e1; subst e1; omega
      · exact Nat.le_refl _
    · rw [getD_set (by omega), if_pos rfl]; exact Nat.le_refl _
  · rw [if_neg hw]
    refine ⟨h, fun e => Nat.le_refl _, fun hwc => ?_⟩
    have : ¬ far.getD d 0 + 1 < far.getD c 0 := fun g => hw ⟨hwc, g⟩
    omega
theorem cell_ok {f c : Nat} {far : List Nat} (h : Ok wall f far) (hc : c < 64) : Ok wall f (cell wall far c) ∧ (∀ e, (cell wall far c).getD e 0 ≤ far.getD e 0) ∧ (wall c = false → ∀ d ∈ nb c, (cell wall far c).getD c 0 ≤ far.getD d 0 + 1) := by
  have key : ∀ (l : List Nat) (far : List Nat), (∀ d ∈ l, d ∈ nb c) → Ok wall f far → Ok wall f (l.foldl (relax wall c) far) ∧ (∀ e, (l.foldl (relax wall c) far).getD e 0 ≤ far.getD e 0) ∧ (wall c = false → ∀ d ∈ l, (l.foldl (relax wall c) far).getD c 0 ≤ far.getD d 0 + 1) := by
    intro l
    induction l with
    | nil => intro far _ h; exact ⟨h, fun e => Nat.le_refl _, fun _ d hd => by cases hd⟩
    | cons a l ih =>
      intro far hl h
      obtain ⟨h1, h2, h3⟩ := relax_ok h hc (hl a (by simp))
      obtain ⟨g1, g2, g3⟩ := ih (relax wall c far a) (fun d hd => hl d (by simp [hd])) h1
      rw [List.foldl_cons]
      refine ⟨g1, fun e => Nat.le_trans (g2 e) (h2 e), fun hw d hd => ?_⟩
      rcases List.mem_cons.1 hd with rfl | hd
      · exact Nat.le_trans (g2 c) (h3 hw)
      · have := g3 hw d hd
        have := h2 d
        omega
  exact key (nb c) far (fun d hd => hd) h
theorem cells_ok {f : Nat} {far : List Nat} (h : Ok wall f far) : ∀ k, k ≤ 64 → Ok wall f (cells wall far k) ∧ (∀ e, (cells wall far k).getD e 0 ≤ far.getD e 0) ∧ (∀ c, c < k → wall c = false → ∀ d ∈ nb c, (cells wall far k).getD c 0 ≤ far.getD d 0 + 1)
  | 0, _ => ⟨h, fun e => Nat.le_refl _, fun c hc => by omega⟩
  | k + 1, hk => by
    obtain ⟨h1, h2, h3⟩ := cells_ok h k (by omega)
    obtain ⟨g1, g2, g3⟩ := cell_ok h1 (show k < 64 by omega)
    have e : cells wall far (k + 1) = cell wall (cells wall far k) k := by
      unfold cells; rw [List.range_succ, List.foldl_append]; rfl
    rw [e]
    refine ⟨g1, fun e => Nat.le_trans (g2 e) (h2 e), fun c hc hw d hd => ?_⟩
    by_cases hck : c = k
    · subst hck
      have := g3 hw d hd
      have := h2 d
      omega
    · exact Nat.le_trans (g2 c) (h3 c (by omega) hw d hd)
theorem rounds_ok {f : Nat} {far : List Nat} (h : Ok wall f far) : ∀ n, Ok wall f (rounds wall far n)
  | 0 => h
  | n + 1 => (cells_ok (rounds_ok h n) 64 (Nat.le_refl _)).1
theorem rounds_mono {f : Nat} {far : List Nat} (h : Ok wall f far) (n e : Nat) : (rounds wall far (n + 1)).getD e 0 ≤ (rounds wall far n).getD e 0 := (cells_ok (rounds_ok h n) 64 (Nat.le_refl _)).2.1 e
theorem start_ok {f : Nat} (hf : f < 64) : Ok wall f (start wall f) := by
  have h100 : ∀ c, c < 64 → (List.replicate 64 100).getD c 0 = 100 := fun c hc => by
    rw [List.getD_eq_getElem?_getD, List.getElem?_replicate, if_pos hc]; rfl
  unfold start
  by_cases hw : wall f = false
  · rw [if_pos hw]
    refine ⟨by rw [List.length_set, List.length_replicate], fun c hc => ?_, fun c hc hlt => ?_⟩
    · rw [getD_set (by rw [List.length_replicate]; exact hf), h100 c hc]; split <;> omega
    · rw [getD_set (by rw [List.length_replicate]; exact hf), h100 c hc] at hlt ⊢
      by_cases hfc : f = c
      · rw [if_pos hfc]; exact ⟨hfc.symm, hw⟩
      · rw [if_neg hfc] at hlt; omega
  · rw [if_neg hw]
    refine ⟨List.length_replicate, fun c hc => by rw [h100 c hc]; omega, fun c hc hlt => by rw [h100 c hc] at hlt; omega⟩
/-- Behind r rounds the walks of at most r steps are known. -/
theorem rounds_le {f : Nat} (hf : f < 64) : ∀ (r n c : Nat), n ≤ r → c < 64 → Reach wall f n c → (rounds wall (start wall f) r).getD c 0 ≤ n
  | 0, n, c, hn, hc, h => by
    obtain rfl : n = 0 := by omega
    obtain ⟨rfl, hw⟩ := h
    show (start wall c).getD c 0 ≤ 0
    unfold start
    rw [if_pos hw, getD_set (by rw [List.length_replicate]; exact hf), if_pos rfl]
    exact Nat.le_refl _
  | r + 1, 0, c, _, hc, h => by
    have h1 := rounds_le hf r 0 c (by omega) hc h
    exact Nat.le_trans (rounds_mono (start_ok hf) r c) h1
  | r + 1, n + 1, c, hn, hc, h => by
    obtain ⟨hw, d, hd, hd64, hr⟩ := h
    have h1 := rounds_le hf r n d (by omega) hd64 hr
    have h2 := (cells_ok (rounds_ok (start_ok hf) r) 64 (Nat.le_refl _)).2.2 c hc hw d hd
    show (cells wall (rounds wall (start wall f) r) 64).getD c 0 ≤ n + 1
    omega

/-! ### the longest way is shorter than 64 steps -/
theorem nodup_len : ∀ (n : Nat) (l : List Nat), l.Nodup → (∀ x ∈ l, x < n) → l.length ≤ n
  | 0, l, _, h => by
    cases l with
    | nil => exact Nat.le_refl _
    | cons a l => exact absurd (h a (by simp)) (by omega)
  | n + 1, l, hn, h => by
    have h1 := nodup_len n (l.filter (fun x => x != n)) (hn.sublist List.filter_sublist) (fun x hx => by
      obtain ⟨g1, g2⟩ := List.mem_filter.1 hx
      have := h x g1
      have : x ≠ n := by simpa using g2
      omega)
    have h2 : l.length ≤ (l.filter (fun x => x != n)).length + 1 := by
      have key : ∀ l : List Nat, l.Nodup → l.length ≤ (l.filter (fun x => x != n)).length + 1 := by
        intro l
        induction l with
        | nil => intro _; simp
        | cons a l ih =>
          intro hn
          obtain ⟨ha, hl⟩ := List.nodup_cons.1 hn
          by_cases han : a = n
          · subst han
            have e : l.filter (fun x => x != a) = l := List.filter_eq_self.2 (fun x hx => by
              have : x ≠ a := fun e => ha (e ▸ hx)
              simpa using this)
            rw [List.filter_cons_of_neg (by simp), e]; simp
          · rw [List.filter_cons_of_pos (by simpa using han)]
            have := ih hl
            simp only [List.length_cons]; omega
      exact key l hn
    omega
/-- A shortest walk. -/
def Short (wall : Nat → Bool) (f n c : Nat) : Prop := Reach wall f n c ∧ ∀ m, Reach wall f m c → n ≤ m
theorem short_prev {f n c : Nat} (h : Short wall f (n + 1) c) : ∃ d, d < 64 ∧ d ∈ nb c ∧ Short wall f n d := by
  obtain ⟨⟨hw, d, hd, hd64, hr⟩, hm⟩ := h
  refine ⟨d, hd64, hd, hr, fun m hr' => ?_⟩
  have := hm (m + 1) ⟨hw, d, hd, hd64, hr'⟩
  omega
theorem short_list {f : Nat} : ∀ (n c : Nat), c < 64 → Short wall f n c → ∃ l : List Nat, l.length = n + 1 ∧ l.Nodup ∧ (∀ x ∈ l, x < 64) ∧ ∀ x ∈ l, ∃ k, k ≤ n ∧ Short wall f k x
  | 0, c, hc, h => ⟨[c], rfl, by simp, fun x hx => by rw [List.mem_singleton.1 hx]; exact hc, fun x hx => ⟨0, Nat.le_refl _, by rw [List.mem_singleton.1 hx]; exact h⟩⟩
  | n + 1, c, hc, h => by
    obtain ⟨d, hd, _, hs⟩ := short_prev h
    obtain ⟨l, h1, h2, h3, h4⟩ := short_list n d hd hs
    refine ⟨c :: l, by rw [List.length_cons, h1], List.nodup_cons.2 ⟨fun hm => ?_, h2⟩, fun x hx => ?_, fun x hx => ?_⟩
    · obtain ⟨k, hk, hs'⟩ := h4 c hm
      have := h.2 k hs'.1
      omega
    · rcases List.mem_cons.1 hx with rfl | hx
      · exact hc
      · exact h3 x hx
    · rcases List.mem_cons.1 hx with rfl | hx
      · exact ⟨n + 1, Nat.le_refl _, h⟩
      · obtain ⟨k, hk, hs'⟩ := h4 x hx
        exact ⟨k, by omega, hs'⟩
theorem short_lt {f n c : Nat} (hc : c < 64) (h : Short wall f n c) : n < 64 := by
  obtain ⟨l, h1, h2, h3, _⟩ := short_list n c hc h
  have := nodup_len 64 l h2 h3
  omega
theorem short_of {f : Nat} : ∀ (n c : Nat), Reach wall f n c → ∃ m, m ≤ n ∧ Short wall f m c := by
  intro n c h
  have key : ∀ k, k ≤ n → (∃ m, m ≤ n ∧ Short wall f m c) ∨ ∀ m, m < k → ¬ Reach wall f m c := by
    intro k
    induction k with
    | zero => intro _; exact .inr (fun m hm => by omega)
    | succ k ih =>
      intro hk
      rcases ih (by omega) with h | h
      · exact .inl h
      · by_cases hr : Reach wall f k c
        · exact .inl ⟨k, by omega, hr, fun m hm => Nat.le_of_not_lt (fun hlt => h m hlt hm)⟩
        · refine .inr (fun m hm => ?_)
          by_cases hmk : m = k
          · rw [hmk]; exact hr
          · exact h m (by omega)
  rcases key n (Nat.le_refl _) with h' | h'
  · exact h'
  · exact ⟨n, Nat.le_refl _, h, fun m hm => Nat.le_of_not_lt (fun hlt => h' m hlt hm)⟩

/-! ### what the definition's distances are -/
variable (wall)
def dist (f c : Nat) : Nat := (rounds wall (start wall f) 64).getD c 0
variable {wall}
theorem dist_len {f : Nat} (hf : f < 64) : (rounds wall (start wall f) 64).length = 64 := (rounds_ok (start_ok hf) 64).len
theorem dist_short {f c : Nat} (hf : f < 64) (hc : c < 64) (h : dist wall f c < 100) : Short wall f (dist wall f c) c ∧ dist wall f c < 64 := by
  have h1 := (rounds_ok (wall := wall) (start_ok hf) 64).fit c hc h
  obtain ⟨m, hm, hs⟩ := short_of _ _ h1
  have h2 := short_lt hc hs
  have h3 := rounds_le hf 64 m c (by omega) hc hs.1
  have e : m = dist wall f c := Nat.le_antisymm hm h3
  rw [e] at hs h2
  exact ⟨hs, h2⟩
theorem dist_of {f n c : Nat} (hf : f < 64) (hc : c < 64) (h : Short wall f n c) : dist wall f c = n := by
  have h1 := short_lt hc h
  have h2 : dist wall f c ≤ n := rounds_le hf 64 n c (by omega) hc h.1
  exact Nat.le_antisymm h2 (h.2 _ (dist_short hf hc (by omega)).1.1)
theorem dist_zero {f c : Nat} (hf : f < 64) (hc : c < 64) : dist wall f c = 0 ↔ c = f ∧ wall f = false := by
  constructor
  · intro h
    have := (dist_short hf hc (show dist wall f c < 100 by omega)).1.1
    rw [h] at this; exact this
  · rintro ⟨rfl, hw⟩
    exact dist_of hf hc ⟨⟨rfl, hw⟩, fun m _ => Nat.zero_le _⟩
/-- The next layer. -/
theorem dist_succ {f c k : Nat} (hf : f < 64) (hc : c < 64) (hk : k < 65) : dist wall f c = k + 1 ↔ wall c = false ∧ (∃ d, d < 64 ∧ dist wall f d = k ∧ c ∈ nb d) ∧ ¬ dist wall f c ≤ k := by
  constructor
  · intro h
    obtain ⟨hs, _⟩ := dist_short hf hc (show dist wall f c < 100 by omega)
    rw [h] at hs
    obtain ⟨d, hd, hdn, hs'⟩ := short_prev hs
    exact ⟨hs.1.1, ⟨d, hd, dist_of hf hd hs', (nb_sym c hc d hd).1 hdn⟩, by omega⟩
  · rintro ⟨hw, ⟨d, hd, hdk, hcd⟩, hn⟩
    obtain ⟨hs, hlt⟩ := dist_short hf hd (show dist wall f d < 100 by omega)
    rw [hdk] at hs hlt
    have hr : Reach wall f (k + 1) c := ⟨hw, d, (nb_sym c hc d hd).2 hcd, hd, hs.1⟩
    have := rounds_le hf 64 (k + 1) c (by omega) hc hr
    have h2 : dist wall f c ≤ k + 1 := this
    omega
theorem dist_wall {f c : Nat} (hf : f < 64) (hc : c < 64) (h : dist wall f c < 100) : wall c = false := by
  obtain ⟨hs, _⟩ := dist_short hf hc h
  cases hn : dist wall f c with
  | zero => rw [hn] at hs; rw [hs.1.1]; exact hs.1.2
  | succ n => rw [hn] at hs; exact hs.1.1
theorem dist_max {f c k : Nat} (hf : f < 64) (hc : c < 64) (hk : 64 ≤ k) (h2 : k < 100) : dist wall f c ≠ k := fun h => by
  have := (dist_short (wall := wall) hf hc (by omega)).2
  omega
/-- The cells of a layer, in order. -/
def layer (wall : Nat → Bool) (f k : Nat) : List Nat := (List.range 64).filter fun c => dist wall f c == k
theorem layer_mem {f k c : Nat} : c ∈ layer wall f k ↔ c < 64 ∧ dist wall f c = k := by
  unfold layer
  rw [List.mem_filter, List.mem_range]
  simp
theorem layer_inc {f k : Nat} : (layer wall f k).Pairwise (· < ·) := List.Pairwise.sublist List.filter_sublist List.pairwise_lt_range
/-- Rising lists of the same members are the same. -/
theorem inc_ext : ∀ {l m : List Nat}, l.Pairwise (· < ·) → m.Pairwise (· < ·) → (∀ x, x ∈ l ↔ x ∈ m) → l = m
  | [], [], _, _, _ => rfl
  | [], b :: m, _, _, h => by have := (h b).2 (by simp); cases this
  | a :: l, [], _, _, h => by have := (h a).1 (by simp); cases this
  | a :: l, b :: m, hl, hm, h => by
    obtain ⟨ha, hl'⟩ := List.pairwise_cons.1 hl
    obtain ⟨hb, hm'⟩ := List.pairwise_cons.1 hm
    have hab : a = b := by
      have h1 := (h a).1 (by simp)
      have h2 := (h b).2 (by simp)
      rcases List.mem_cons.1 h1 with e | h1
      · exact e
      · rcases List.mem_cons.1 h2 with e | h2
        · exact e.symm
        · have := ha b h2; have := hb a h1; omega
    subst hab
    congr 1
    refine inc_ext hl' hm' (fun x => ⟨fun hx => ?_, fun hx => ?_⟩)
    · have h1 := (h x).1 (by simp [hx])
      rcases List.mem_cons.1 h1 with e | h1
      · subst e; exact absurd (ha x hx) (Nat.lt_irrefl _)
      · exact h1
    · have h1 := (h x).2 (by simp [hx])
      rcases List.mem_cons.1 h1 with e | h1
      · subst e; exact absurd (hb x hx) (Nat.lt_irrefl _)
      · exact h1
/-- What is seen behind the layer k: the walls and the layers so far. -/
def Seen (wall : Nat → Bool) (f k : Nat) (s : List Nat) : Prop := ∀ x, x ∈ s ↔ x < 64 ∧ (wall x = true ∨ dist wall f x ≤ k)
theorem layer_zero {f : Nat} (hf : f < 64) {m : List Nat} (hm : m.Pairwise (· < ·)) (h : ∀ x, x ∈ m ↔ x = f ∧ wall x = false) : m = layer wall f 0 := inc_ext hm layer_inc fun x => by
  rw [h, layer_mem]
  constructor
  · rintro ⟨rfl, hw⟩; exact ⟨hf, (dist_zero hf hf).2 ⟨rfl, hw⟩⟩
  · rintro ⟨hx, hd⟩
    obtain ⟨rfl, hw⟩ := (dist_zero hf hx).1 hd
    exact ⟨rfl, hw⟩
theorem seen_zero {f : Nat} (hf : f < 64) {s : List Nat} (h : ∀ x, x ∈ s ↔ (x < 64 ∧ wall x = true) ∨ x ∈ layer wall f 0) : Seen wall f 0 s := fun x => by
  rw [h, layer_mem]
  constructor
  · rintro (⟨h1, h2⟩ | ⟨h1, h2⟩)
    · exact ⟨h1, .inl h2⟩
    · exact ⟨h1, .inr (by omega)⟩
  · rintro ⟨h1, h2 | h2⟩
    · exact .inl ⟨h1, h2⟩
    · exact .inr ⟨h1, by omega⟩
theorem layer_next {f k : Nat} (hf : f < 64) (hk : k < 65) {m s : List Nat} (hm : m.Pairwise (· < ·)) (hs : Seen wall f k s) (h : ∀ x, x ∈ m ↔ (∃ e, e ∈ layer wall f k ∧ x ∈ nb e) ∧ x ∉ s) : m = layer wall f (k + 1) := inc_ext hm layer_inc fun x => by
  rw [h, layer_mem, hs]
  constructor
  · rintro ⟨⟨e, he, hx⟩, hn⟩
    obtain ⟨he64, hek⟩ := layer_mem.1 he
    have hx64 := nb_lt e he64 x hx
    have hw : wall x = false := by
      cases hwx : wall x with
      | false => rfl
      | true => exact absurd ⟨hx64, .inl hwx⟩ hn
    exact ⟨hx64, (dist_succ hf hx64 hk).2 ⟨hw, ⟨e, he64, hek, hx⟩, fun g => hn ⟨hx64, .inr g⟩⟩⟩
  · rintro ⟨hx64, hd⟩
    obtain ⟨hw, ⟨d, hd64, hdk, hxd⟩, hn⟩ := (dist_succ hf hx64 hk).1 hd
    refine ⟨⟨d, layer_mem.2 ⟨hd64, hdk⟩, hxd⟩, ?_⟩
    rintro ⟨_, g | g⟩
    · rw [hw] at g; cases g
    · exact hn g
theorem seen_next {f k : Nat} {s s' : List Nat} (hs : Seen wall f k s) (h : ∀ x, x ∈ s' ↔ x ∈ s ∨ x ∈ layer wall f (k + 1)) : Seen wall f (k + 1) s' := fun x => by
  rw [h, hs, layer_mem]
  constructor
  · rintro (⟨h1, h2 | h2⟩ | ⟨h1, h2⟩)
    · exact ⟨h1, .inl h2⟩
    · exact ⟨h1, .inr (by omega)⟩
    · exact ⟨h1, .inr (by omega)⟩
  · rintro ⟨h1, h2 | h2⟩
    · exact .inl ⟨h1, .inl h2⟩
    · by_cases h3 : dist wall f x ≤ k
      · exact .inl ⟨h1, .inr h3⟩
      · exact .inr ⟨h1, by omega⟩
theorem layer_last {f : Nat} (hf : f < 64) : layer wall f 65 = [] := by
  cases h : layer wall f 65 with
  | nil => rfl
  | cons x l =>
    have hx : x ∈ layer wall f 65 := by rw [h]; simp
    obtain ⟨h1, h2⟩ := layer_mem.1 hx
    exact absurd h2 (dist_max hf h1 (by decide) (by decide))
end Go.Proofs.Ytbjhnefienjncaa.Bt.Mz
