/- The reference: WithCounts. -/
import Derived.Test.YtehnobbiiokcgaaBtNx
import Derived.Deep.DeepCutAuto
namespace Go.Proofs.Ytehnobbiiokcgaa.Bt.ND
set_option linter.unusedVariables false
set_option linter.unusedSimpArgs false
open Go Go.RowKit Go.Proofs.Ytehnobbiiokcgaa.Bt
open Go.Proofs.Ytehnobbiiokcgaa.Bt.Last (Y Z)
open _root_.List (setIfInBounds_toArray set_cons_zero set_cons_succ)

/-- A node with the right counts. -/
def wcn : (n : Nat) → DT n → DT n
  | 0, t => t
  | n + 1, t => (t.1, t.2.1.map (wcn n), ((dAll (n + 1) t).length : Nat))

/-- The beginning: x is stored. -/
theorem LF.of_store {w w4 : World} {bx g : Nat} {ds : List Value} {c : Int} {u z0 z1 z2 : Value} {n : Nat} {xs : List Value} (hz : Bx w4 bx [z0, z1, z2]) (hd : Bx w4 w.heap.size ds) (hr : Bx w4 (w.heap.size + 1) [.slice none 0 0, .slice none 0 0, .int .i64 0]) (hlt : w.heap.size + 1 < bx) (hg : w.heap.size + 1 < g) (hgb : g ≠ bx) (hB : Below w.heap.size w w4) (hrow : Row 2 w4 u n xs (some g)) :
    LF w ds bx c u (.slice none 0 0) (some g) none (((w4.setCell ⟨bx, 0, none⟩ u).setCell ⟨bx, 1, none⟩ (.slice none 0 0)).setCell ⟨bx, 2, none⟩ (.int .i64 c)) ∧ Row 2 (((w4.setCell ⟨bx, 0, none⟩ u).setCell ⟨bx, 1, none⟩ (.slice none 0 0)).setCell ⟨bx, 2, none⟩ (.int .i64 c)) u n xs (some g) := by
  have hu := Bx.upd3 hz u (.slice none 0 0) (.int .i64 c)
  have hx : Bx (((w4.setCell ⟨bx, 0, none⟩ u).setCell ⟨bx, 1, none⟩ (.slice none 0 0)).setCell ⟨bx, 2, none⟩ (.int .i64 c)) bx [u, .slice none 0 0, .int .i64 c] := ⟨by rw [hu.size]; exact hz.1, fun j v hv => by
    have hj := (List.getElem?_eq_some_iff.1 hv).1
    rw [hu.cells, if_pos ⟨rfl, Nat.zero_le _, by omega⟩]
    simpa using hv⟩
  exact ⟨⟨hd.upd hu (by omega), hr.upd hu (by omega), hx, hlt, fun k hk => (by
    rcases hk with h | h
    · obtain rfl := Option.some.inj h; exact ⟨hg, hgb⟩
    · cases h), fun k _ h => (by cases h), ((hB.setCell (by show w.heap.size ≤ bx; omega) _).setCell (by show w.heap.size ≤ bx; omega) _).setCell (by show w.heap.size ≤ bx; omega) _⟩,
    hrow.keep hu.fr (fun b hb h => by obtain rfl := Option.some.inj hb; exact hgb h)⟩
theorem LF.of_new {w w4 : World} {g : Nat} {ds : List Value} {c : Int} {u : Value} {n : Nat} {xs : List Value} (ty : TypeId) (hd : Bx w4 w.heap.size ds) (hr : Bx w4 (w.heap.size + 1) [.slice none 0 0, .slice none 0 0, .int .i64 0]) (hg : w.heap.size + 1 < g) (hB : Below w.heap.size w w4) (hrow : Row 2 w4 u n xs (some g)) :
    LF w ds w4.heap.size c u (.slice none 0 0) (some g) none (w4.alloc (.cells #[u, .slice none 0 0, .int .i64 c] ty)) ∧ Row 2 (w4.alloc (.cells #[u, .slice none 0 0, .int .i64 c] ty)) u n xs (some g) :=
  ⟨⟨hd.alloc _, hr.alloc _, Bx.new w4 [u, .slice none 0 0, .int .i64 c] ty, hr.1, fun k hk => (by
    rcases hk with h | h
    · obtain rfl := Option.some.inj h; exact ⟨hg, by have := hrow.lt; omega⟩
    · cases h), fun k _ h => (by cases h), hB.alloc (by have := hr.1; omega) _⟩, hrow.alloc _⟩

set_option maxHeartbeats 8000000 in
set_option maxRecDepth 100000 in
/-- 'WithCounts' -/
theorem wc_is : ∀ (n : Nat) (t : DT n) {w : World} {vi vk : Value} {c : Int}, NodeAt w n t vi vk c → bulk n t ≤ 10000000 →
    Calls Try.prog 27 #[.agg #[vi, vk, .int .i64 c]] w (Lifted (wcn n t) w)
  | 0, t, _, _, _, _, _, _ => t.elim
  | n + 1, t, w, vi, vk, c, hN, hb => by
    have IH := fun (k : DT n) => @wc_is n k
    have hN0 := hN
    obtain ⟨hc0, hits, ka, kcap, rfl, hkc, hk⟩ := hN
    obtain ⟨l, hl⟩ : ∃ l, t.1 = l := ⟨_, rfl⟩
    obtain ⟨ks, hks⟩ : ∃ ks, t.2.1 = ks := ⟨_, rfl⟩
    obtain ⟨LEN, hLEN⟩ : ∃ LEN, (dAll (n + 1) t).length = LEN := ⟨_, rfl⟩
    have hkl := Nat.le_trans (kids_len t (fun k _ => bulk_pos' k)) hb
    have hil : t.1.length ≤ 10000000 := by have : t.1.length ≤ bulk (n + 1) t := (by show t.1.length ≤ 1 + t.1.length + (t.2.1.map (bulk n)).sum; omega); omega
    have hbk : ∀ (j : Nat) (k : DT n), t.2.1[j]? = some k → bulk n k ≤ 10000000 := fun j k hk => by have := bulk_kid (t := t) hk; omega
    obtain ⟨ia, ic, rfl, hic, hfl⟩ := hits.flat
    rw [hl] at hfl hil hic ⊢
    rw [hks] at hkl hbk hk ⊢
    rw [hl, hks] at hN0
    obtain ⟨A0, hA0⟩ : ∃ A0 : Addr, (0 < l.length → ia = some A0) ∧ ∀ w' : World, (∀ b off j, A0 = ⟨b, off, none⟩ → b < w.heap.size → w'.cell? ⟨b, off + j, none⟩ = w.cell? ⟨b, off + j, none⟩) → ∀ q u, (itemCells EI l)[q]? = some u → w'.cell? (A0.add q) = some u := by
      by_cases h0 : 0 < l.length
      · obtain ⟨b, off, rfl, hbl, hcell⟩ := hfl h0
        exact ⟨⟨b, off, none⟩, fun _ => rfl, fun w' hw q u hq => by rw [Addr.add_lit, hw b off q rfl hbl]; exact hcell q u hq⟩
      · obtain rfl : l = [] := List.eq_nil_of_length_eq_zero (by omega)
        exact ⟨⟨0, 0, none⟩, fun h => by simp at h, fun w' _ q u hq => by simp [itemCells] at hq⟩
    obtain ⟨i0, hi0, hz0, hz1, hz2⟩ := info_parts infoM
    have HI0 := hidp hi0
    have HZ0 := hidp hz0
    have HZ1 := hidp hz1
    have HZ2 := hidp hz2
    obtain ⟨j0, hj0, hy0, hy1, hy2⟩ := info_parts infoN
    have HJ0 := hidp hj0
    have HY0 := hidp hy0
    have HY1 := hidp hy1
    have HY2 := hidp hy2
    obtain ⟨w1, hw1⟩ : ∃ w1, w1 = (w.alloc (.cells #[.slice ia l.length ic, .slice ka ks.length kcap, .int .i64 c] 25)).alloc (.cells #[.slice none 0 0, .slice none 0 0, .int .i64 0] 25) := ⟨_, rfl⟩
    have hsz1 : w1.heap.size = w.heap.size + 2 := by rw [hw1]; simp
    have hB1 : Below w.heap.size w w1 := by rw [hw1]; exact ((Below.refl _ _).alloc (Nat.le_refl _) _).alloc (by rw [World.size_alloc]; omega) _
    have hx0 : Bx w1 w.heap.size [.slice ia l.length ic, .slice ka ks.length kcap, .int .i64 c] := by rw [hw1]; exact (Bx.new w [.slice ia l.length ic, .slice ka ks.length kcap, .int .i64 c] 25).alloc _
    have hx1 : Bx w1 (w.heap.size + 1) [.slice none 0 0, .slice none 0 0, .int .i64 0] := by
      rw [hw1]
      have h := Bx.new (w.alloc (.cells #[.slice ia l.length ic, .slice ka ks.length kcap, .int .i64 c] 25)) [.slice none 0 0, .slice none 0 0, .int .i64 0] 25
      rw [World.size_alloc] at h
      exact h
    have HAA := hidp hA0.1
    have HFL : Hid (∀ w' : World, Below w1.heap.size w1 w' → ∀ q u, (itemCells EI l)[q]? = some u → w'.cell? (A0.add q) = some u) := hidp fun w' hw' => hA0.2 w' (fun b off j _ hbl => by
      have h1 := hw'.cell (p := ⟨b, off + j, none⟩) (by show b < w1.heap.size; omega)
      exact h1.trans (hB1.cell (p := ⟨b, off + j, none⟩) hbl))
    have HK : Hid (∀ j k, ks[j]? = some k → ∃ b off vi vk c, ka = some ⟨b, off, none⟩ ∧ b < w.heap.size ∧ w.cell? ⟨b, off + j * 3, none⟩ = some vi ∧ w.cell? ⟨b, off + j * 3 + 1, none⟩ = some vk ∧ w.cell? ⟨b, off + j * 3 + 2, none⟩ = some (.int .i64 c) ∧ NodeAt w n k vi vk c) := hidp fun j k hj => by
      obtain ⟨b, off, vi', vk', c', e, g1, g2, g3, g4⟩ := hk j k hj
      exact ⟨b, off, vi', vk', c', e, World.block_lt_of_cell? w _ g1, g1, g2, g3, g4⟩
    have HN : Hid (NodeAt w (n + 1) t (.slice ia l.length ic) (.slice ka ks.length kcap) c) := hidp hN0
    have HX0 := hidp hx0
    have HX1 := hidp hx1
    have HB1 := hidp hB1
    have HBK := hidp hbk
    have HIH := hidp IH
    have HT := hidp (And.intro hl (And.intro hks hLEN))
    have a0 := hx0.cell 0 rfl
    have a1 := hx0.cell 1 rfl
    have a2 := hx0.cell 2 rfl
    have hLb : LEN ≤ 10000000 := by have := dAll_bulk (n + 1) t; omega
    have hgoal : Lifted (wcn (n + 1) t) w = Lifted (n := n + 1) (l, ks.map (wcn n), (LEN : Nat)) w := by
      show Lifted (n := n + 1) (t.1, t.2.1.map (wcn n), ((dAll (n + 1) t).length : Nat)) w = _
      rw [hl, hks, hLEN]
    rw [hgoal]
    have hs1lt : w.heap.size + 1 < w1.heap.size := by omega
    clear hsz1 hi0 hz0 hz1 hz2 hj0 hy0 hy1 hy2 hN0 hc0 hk hB1 hx0 hx1 hbk IH hA0 hfl hits hgoal hkc hic hl hks
    go_enter Try.func27, Try.ntmps27
    go_upto_region 1 with (fail)
    rw [← hw1]
    clear hw1
    go_cut [3] from 6 to 13 (fun u3 wx => ∃ bx u g, u3 = .pointer (some ⟨bx, 0, none⟩) ∧ Hid (LF w [.slice ia l.length ic, .slice ka ks.length kcap, .int .i64 c] bx (LEN : Nat) u (.slice none 0 0) (some g) none wx ∧ Row 2 wx u l.length (itemCells EI l) (some g)))
    case first =>
      have ne2 : w.heap.size ≠ w1.heap.size := by omega
      have ne2r : w1.heap.size ≠ w.heap.size := by omega
      have ne3 : w.heap.size ≠ w1.heap.size + 1 := by omega
      have ne3r : w1.heap.size + 1 ≠ w.heap.size := by omega
      go_region_held3 (fun w' => w'.cell? ⟨w.heap.size, 0, none⟩ = some (.slice ia l.length ic) ∧ w'.cell? ⟨w.heap.size, 1, none⟩ = some (.slice ka ks.length kcap) ∧ w'.cell? ⟨w.heap.size, 2, none⟩ = some (.int .i64 c)) (go_keep)
        ((first
          | ((first
              | (refine step_rows (by rfl) _ _ _ (by rfl) 35 i0 _ 2 16 Try.underlying22 HI0.out HZ0.out HZ1.out HZ2.out (by rfl) (by decide) (.slice (some ⟨w1.heap.size, 0, none⟩) 0 0) 0 [] (w1.heap.size) (by rfl) (Row.empty 2 w1.drew #[] 35) A0 l.length ic (itemCells EI l) ⟨ia, rfl, HAA.out⟩ (itemCells_length (E := EI) _) (fun q u hq => by have h := HFL.out (w1.drew.alloc (.cells #[] 35)) (by first | exact (Below.refl _ _).drew.alloc (Nat.le_refl _) _ | exact ((Below.refl _ _).drew.alloc (Nat.le_refl _) _).alloc (by rw [World.size_alloc]; show w1.heap.size ≤ w1.heap.size + 1; omega) _) q u hq; exact h) (itemCells_one _) (by unfold maxLen; omega) (by omega) ?_
                 intro v3 w3 g3 hr3 hg3 hF3
                 have hg3' : g3 = w1.heap.size ∨ (w1.drew.alloc (.cells #[] 35)).heap.size ≤ g3 := hg3
                 have hWs : (w1.drew.alloc (.cells #[] 35)).heap.size = w1.heap.size + 1 := by simp only [World.size_alloc]; rfl
                 have hF3' : Fr (fun k => k = w1.heap.size) (w1.drew.alloc (.cells #[] 35)) w3 := hF3
                 have hsW : (w1.drew.alloc (.cells #[] 35)).heap.size ≤ w3.heap.size := hF3'.size
                 have hbe : w.heap.size + 1 < w1.heap.size ∧ w1.heap.size < (w1.drew.alloc (.cells #[] 35)).heap.size := by omega
                 have hBW : Below w1.heap.size w1 (w1.drew.alloc (.cells #[] 35)) := by first | exact (Below.refl _ _).drew.alloc (Nat.le_refl _) _ | exact ((Below.refl _ _).drew.alloc (Nat.le_refl _) _).alloc (by rw [World.size_alloc]; show w1.heap.size ≤ w1.heap.size + 1; omega) _
                 have HXD := hidp ((Bx.below HX0.out hBW HX0.out.1).keep hF3' (by show ¬ _ = _; omega))
                 have HXR := hidp ((Bx.below HX1.out hBW HX1.out.1).keep hF3' (by show ¬ _ = _; omega))
                 have HB3 := hidp (HB1.out.trans ((hBW.mono (by omega)).trans (hF3'.below (B := w.heap.size) (by omega) (fun i hi => by have h2 : i = w1.heap.size := hi; omega))))
                 have HR3 : Hid (Row 2 w3 v3 l.length (itemCells EI l) (some g3)) := hidp (by simpa using hr3)
                 have HG3 : Hid (w.heap.size + 1 < g3) := hidp (by rcases hg3' with h | h <;> (have h3 := hBW.size; omega))
                 have HZ3 : Hid True := hidp trivial)
              | (refine step_rows (by rfl) _ _ _ (by rfl) 35 i0 _ 2 16 Try.underlying22 HI0.out HZ0.out HZ1.out HZ2.out (by rfl) (by decide) (.slice (some ⟨w1.heap.size + 1, 0, none⟩) 0 0) 0 [] (w1.heap.size + 1) (by rfl) (by have h := Row.empty 2 (w1.drew.alloc (.cells #[.slice none 0 0, .slice none 0 0, .int .i64 0] 25)) #[] 35; rw [World.size_alloc] at h; exact h) A0 l.length ic (itemCells EI l) ⟨ia, rfl, HAA.out⟩ (itemCells_length (E := EI) _) (fun q u hq => by have h := HFL.out ((w1.drew.alloc (.cells #[.slice none 0 0, .slice none 0 0, .int .i64 0] 25)).alloc (.cells #[] 35)) (by first | exact (Below.refl _ _).drew.alloc (Nat.le_refl _) _ | exact ((Below.refl _ _).drew.alloc (Nat.le_refl _) _).alloc (by rw [World.size_alloc]; show w1.heap.size ≤ w1.heap.size + 1; omega) _) q u hq; exact h) (itemCells_one _) (by unfold maxLen; omega) (by omega) ?_
                 intro v3 w3 g3 hr3 hg3 hF3
                 have hg3' : g3 = w1.heap.size + 1 ∨ ((w1.drew.alloc (.cells #[.slice none 0 0, .slice none 0 0, .int .i64 0] 25)).alloc (.cells #[] 35)).heap.size ≤ g3 := hg3
                 have hWs : ((w1.drew.alloc (.cells #[.slice none 0 0, .slice none 0 0, .int .i64 0] 25)).alloc (.cells #[] 35)).heap.size = w1.heap.size + 2 := by simp only [World.size_alloc]; rfl
                 have hF3' : Fr (fun k => k = w1.heap.size + 1) ((w1.drew.alloc (.cells #[.slice none 0 0, .slice none 0 0, .int .i64 0] 25)).alloc (.cells #[] 35)) w3 := hF3
                 have hsW : ((w1.drew.alloc (.cells #[.slice none 0 0, .slice none 0 0, .int .i64 0] 25)).alloc (.cells #[] 35)).heap.size ≤ w3.heap.size := hF3'.size
                 have hbe : w.heap.size + 1 < w1.heap.size + 1 ∧ w1.heap.size + 1 < ((w1.drew.alloc (.cells #[.slice none 0 0, .slice none 0 0, .int .i64 0] 25)).alloc (.cells #[] 35)).heap.size := by omega
                 have hBW : Below w1.heap.size w1 ((w1.drew.alloc (.cells #[.slice none 0 0, .slice none 0 0, .int .i64 0] 25)).alloc (.cells #[] 35)) := by first | exact (Below.refl _ _).drew.alloc (Nat.le_refl _) _ | exact ((Below.refl _ _).drew.alloc (Nat.le_refl _) _).alloc (by rw [World.size_alloc]; show w1.heap.size ≤ w1.heap.size + 1; omega) _
                 have HXD := hidp ((Bx.below HX0.out hBW HX0.out.1).keep hF3' (by show ¬ _ = _; omega))
                 have HXR := hidp ((Bx.below HX1.out hBW HX1.out.1).keep hF3' (by show ¬ _ = _; omega))
                 have HB3 := hidp (HB1.out.trans ((hBW.mono (by omega)).trans (hF3'.below (B := w.heap.size) (by omega) (fun i hi => by have h2 : i = w1.heap.size + 1 := hi; omega))))
                 have HR3 : Hid (Row 2 w3 v3 l.length (itemCells EI l) (some g3)) := hidp (by simpa using hr3)
                 have HG3 : Hid (w.heap.size + 1 < g3) := hidp (by rcases hg3' with h | h <;> (have h3 := hBW.size; omega))
                 have HZ3 : Hid (Bx w3 w1.heap.size [.slice none 0 0, .slice none 0 0, .int .i64 0] ∧ w.heap.size + 1 < w1.heap.size ∧ g3 ≠ w1.heap.size) := hidp ⟨((Bx.new w1.drew [.slice none 0 0, .slice none 0 0, .int .i64 0] 25).alloc _).keep hF3' (by show ¬ w1.heap.size = w1.heap.size + 1; omega), by omega, by rcases hg3' with h | h <;> (have h3 := hBW.size; omega)⟩)
              | (refine step_rows (by rfl) _ _ _ (by rfl) 35 i0 _ 2 16 Try.underlying22 HI0.out HZ0.out HZ1.out HZ2.out (by rfl) (by decide) (.slice (some ⟨w1.heap.size, 0, none⟩) 0 0) 0 [] (w1.heap.size) (by rfl) ((Row.empty 2 w1.drew #[] 35).alloc _) A0 l.length ic (itemCells EI l) ⟨ia, rfl, HAA.out⟩ (itemCells_length (E := EI) _) (fun q u hq => by have h := HFL.out ((w1.drew.alloc (.cells #[] 35)).alloc (.cells #[.slice none 0 0, .slice none 0 0, .int .i64 0] 25)) (by first | exact (Below.refl _ _).drew.alloc (Nat.le_refl _) _ | exact ((Below.refl _ _).drew.alloc (Nat.le_refl _) _).alloc (by rw [World.size_alloc]; show w1.heap.size ≤ w1.heap.size + 1; omega) _) q u hq; exact h) (itemCells_one _) (by unfold maxLen; omega) (by omega) ?_
                 intro v3 w3 g3 hr3 hg3 hF3
                 have hg3' : g3 = w1.heap.size ∨ ((w1.drew.alloc (.cells #[] 35)).alloc (.cells #[.slice none 0 0, .slice none 0 0, .int .i64 0] 25)).heap.size ≤ g3 := hg3
                 have hWs : ((w1.drew.alloc (.cells #[] 35)).alloc (.cells #[.slice none 0 0, .slice none 0 0, .int .i64 0] 25)).heap.size = w1.heap.size + 2 := by simp only [World.size_alloc]; rfl
                 have hF3' : Fr (fun k => k = w1.heap.size) ((w1.drew.alloc (.cells #[] 35)).alloc (.cells #[.slice none 0 0, .slice none 0 0, .int .i64 0] 25)) w3 := hF3
                 have hsW : ((w1.drew.alloc (.cells #[] 35)).alloc (.cells #[.slice none 0 0, .slice none 0 0, .int .i64 0] 25)).heap.size ≤ w3.heap.size := hF3'.size
                 have hbe : w.heap.size + 1 < w1.heap.size ∧ w1.heap.size < ((w1.drew.alloc (.cells #[] 35)).alloc (.cells #[.slice none 0 0, .slice none 0 0, .int .i64 0] 25)).heap.size := by omega
                 have hBW : Below w1.heap.size w1 ((w1.drew.alloc (.cells #[] 35)).alloc (.cells #[.slice none 0 0, .slice none 0 0, .int .i64 0] 25)) := by first | exact (Below.refl _ _).drew.alloc (Nat.le_refl _) _ | exact ((Below.refl _ _).drew.alloc (Nat.le_refl _) _).alloc (by rw [World.size_alloc]; show w1.heap.size ≤ w1.heap.size + 1; omega) _
                 have HXD := hidp ((Bx.below HX0.out hBW HX0.out.1).keep hF3' (by show ¬ _ = _; omega))
                 have HXR := hidp ((Bx.below HX1.out hBW HX1.out.1).keep hF3' (by show ¬ _ = _; omega))
                 have HB3 := hidp (HB1.out.trans ((hBW.mono (by omega)).trans (hF3'.below (B := w.heap.size) (by omega) (fun i hi => by have h2 : i = w1.heap.size := hi; omega))))
                 have HR3 : Hid (Row 2 w3 v3 l.length (itemCells EI l) (some g3)) := hidp (by simpa using hr3)
                 have HG3 : Hid (w.heap.size + 1 < g3) := hidp (by rcases hg3' with h | h <;> (have h3 := hBW.size; omega))
                 have HZ3 : Hid (Bx w3 (w1.heap.size + 1) [.slice none 0 0, .slice none 0 0, .int .i64 0] ∧ w.heap.size + 1 < w1.heap.size + 1 ∧ g3 ≠ w1.heap.size + 1) := hidp ⟨(by have h := Bx.new (w1.drew.alloc (.cells #[] 35)) [.slice none 0 0, .slice none 0 0, .int .i64 0] 25; rw [World.size_alloc] at h; exact h.keep hF3' (by show ¬ w1.heap.size + 1 = w1.heap.size; omega)), by omega, by rcases hg3' with h | h <;> omega⟩))
             obtain ⟨va, vc, hv3⟩ := HR3.out.len
             subst hv3
             have x0 := HXD.out.cell 0 rfl
             have x1 := HXD.out.cell 1 rfl
             have x2 := HXD.out.cell 2 rfl
             have hs3 := HXR.out.1
             have ne0 : w.heap.size ≠ w3.heap.size := by omega
             have ne0r : w3.heap.size ≠ w.heap.size := by omega
             clear hr3 hg3 hF3 hF3' hsW hbe hBW hg3' hWs)
          | (go_simp
             go_at_call 14
             (first
              | (refine (items_is (n + 1) t (HN.out.below HB3.out) hb).mono ?_
                 rintro e w4 ⟨u4, rfl, ho⟩
                 obtain ⟨ua, ucap, hu, _, _⟩ := ho.its
                 subst hu
                 obtain ⟨_, _, _, hb4⟩ := ho
                 have HXD4 := hidp (Bx.below HXD.out hb4 HXD.out.1)
                 have HXR4 := hidp (Bx.below HXR.out hb4 HXR.out.1)
                 have HB4 := hidp (HB3.out.trans (hb4.mono HB3.out.size))
                 have HR4 := hidp (Row.below HR3.out hb4)
                 (first | have HZ4 := hidp (And.intro (Bx.below HZ3.out.1 hb4 HZ3.out.1.1) HZ3.out.2) | have HZ4 := hidp trivial))
              | (refine (items_is (n + 1) t (HN.out.below (HB3.out.alloc (by omega) _)) hb).mono ?_
                 rintro e w4 ⟨u4, rfl, ho⟩
                 obtain ⟨ua, ucap, hu, _, _⟩ := ho.its
                 subst hu
                 obtain ⟨_, _, _, hb4⟩ := ho
                 have HXD4 := hidp (Bx.below (HXD.out.alloc _) hb4 (HXD.out.alloc (.cells #[.slice none 0 0, .slice none 0 0, .int .i64 0] 25)).1)
                 have HXR4 := hidp (Bx.below (HXR.out.alloc _) hb4 (HXR.out.alloc (.cells #[.slice none 0 0, .slice none 0 0, .int .i64 0] 25)).1)
                 have HB4 := hidp ((HB3.out.alloc (by omega) (.cells #[.slice none 0 0, .slice none 0 0, .int .i64 0] 25)).trans (hb4.mono (by rw [World.size_alloc]; omega)))
                 have HR4 := hidp (Row.below (HR3.out.alloc _) hb4)
                 have HZ4 : Hid (Bx w4 w3.heap.size [.slice none 0 0, .slice none 0 0, .int .i64 0] ∧ w.heap.size + 1 < w3.heap.size ∧ g3 ≠ w3.heap.size) := hidp ⟨Bx.below (Bx.new w3 [.slice none 0 0, .slice none 0 0, .int .i64 0] 25) hb4 (Bx.new w3 [.slice none 0 0, .slice none 0 0, .int .i64 0] 25).1, by omega, by have := HR3.out.lt; omega⟩))
             have y0 := HXD4.out.cell 0 rfl
             have y1 := HXD4.out.cell 1 rfl
             have y2 := HXD4.out.cell 2 rfl
             have hs4 := HXR4.out.1
             have ne1 : w.heap.size ≠ w4.heap.size := by omega
             have ne1r : w4.heap.size ≠ w.heap.size := by omega
             (first
              | (have z0 := HZ4.out.1.cell 0 rfl
                 have z1 := HZ4.out.1.cell 1 rfl
                 have z2 := HZ4.out.1.cell 2 rfl
                 have z0f := HZ4.out.1.froz 0 (v := .slice none 0 0) rfl
                 have z1f := HZ4.out.1.froz 1 (v := .slice none 0 0) rfl
                 have z2f := HZ4.out.1.froz 2 (v := .int .i64 0) rfl
                 have hzl := HZ4.out.1.1)
              | skip)
             clear hb4)))
      all_goals go_wp2_with fail
      all_goals go_meet
      all_goals first
        | exact ⟨_, _, g3, rfl, hidp (LF.of_store HZ4.out.1 HXD4.out HXR4.out HZ4.out.2.1 HG3.out HZ4.out.2.2 HB4.out HR4.out)⟩
        | exact ⟨_, _, g3, rfl, hidp (LF.of_new _ HXD4.out HXR4.out HG3.out HB4.out HR4.out)⟩
    case rest =>
      obtain ⟨bx, u, g, rfl, HL⟩ := hcut
      obtain ⟨ua, ucap, hu0⟩ := HL.out.2.len
      subst hu0
      obtain ⟨ms, hmsd⟩ : ∃ ms, ms = ks.map (wcn n) := ⟨_, rfl⟩
      have hml : ms.length = ks.length := by rw [hmsd, List.length_map]
      have HMS := hidp hmsd
      have d1 := HL.out.1.d.cell 1 rfl
      clear hmsd
      go_wp2
      go_loopw [17] (fun i wr => ∃ j : Nat, j ≤ ks.length ∧ i = .int .i64 j ∧ Hid (∃ v gk L, LF w [.slice ia l.length ic, .slice ka ks.length kcap, .int .i64 c] bx (LEN : Nat) (.slice ua l.length ucap) v (some g) gk wr ∧ Row 2 wr (.slice ua l.length ucap) l.length (itemCells EI l) (some g) ∧ Row 3 wr v j (kcells L) gk ∧ L.length = j ∧ KN bx gk ms L wr)) (fun i _ => ks.length - (intOf i).toNat)
      case atStart => exact ⟨0, Nat.zero_le _, rfl, hidp ⟨_, none, [], HL.out.1, HL.out.2, Row.nil 3 _, rfl, fun i q hi => by simp at hi⟩⟩
      case round =>
        clear HL d1
        obtain ⟨j, hj, rfl, HQ⟩ := hrel
        obtain ⟨v, gk, L, P, hri, hrk, hLj, hKN⟩ := HQ.out
        obtain ⟨va, vcap, rfl⟩ := hrk.len
        have HP := hidp P
        have HRI := hidp hri
        have HRK := hidp hrk
        have HQS := hidp hKN
        clear HQ P hri hrk hKN
        by_cases hlt : j < ks.length
        · obtain ⟨k', hk'⟩ : ∃ k', ks[j]? = some k' := ⟨_, List.getElem?_eq_getElem hlt⟩
          have hms : ms[j]? = some (wcn n k') := by rw [HMS.out, List.getElem?_map, hk']; rfl
          obtain ⟨b, off, vi', vk', c', hka, hbl, g1, g2, g3, hn'⟩ := HK.out j k' hk'
          subst hka
          have hbk' := HBK.out j k' hk'
          have y1 := (HP.out.below.cell (p := ⟨b, off + j * 3, none⟩) hbl).trans g1
          have y2 := (HP.out.below.cell (p := ⟨b, off + j * 3 + 1, none⟩) hbl).trans g2
          have y3 := (HP.out.below.cell (p := ⟨b, off + j * 3 + 2, none⟩) hbl).trans g3
          obtain ⟨⟨i1, i2, i3, rfl⟩, q1, q2, q3, rfl⟩ := hn'.vals
          have jlt : (j : Int) < (ks.length : Int) := by omega
          have HPA := hidp (HP.out.alloc (.cells #[.slice i1 i2 i3, .slice q1 q2 q3, .int .i64 c'] 25))
          have HRIA := hidp (HRI.out.alloc (.cells #[.slice i1 i2 i3, .slice q1 q2 q3, .int .i64 c'] 25))
          have HRKA := hidp (HRK.out.alloc (.cells #[.slice i1 i2 i3, .slice q1 q2 q3, .int .i64 c'] 25))
          have HQA := hidp (KN.below HQS.out ((Below.refl _ _).alloc (Nat.le_refl _) (.cells #[.slice i1 i2 i3, .slice q1 q2 q3, .int .i64 c'] 25)))
          have HTA := hidp (Bx.new wr [.slice i1 i2 i3, .slice q1 q2 q3, .int .i64 c'] 25)
          have HNK := hidp (hn'.below HPA.out.below)
          have c1 := HPA.out.x.cell 1 rfl
          have k0 := HTA.out.cell 0 rfl
          have k1 := HTA.out.cell 1 rfl
          have k2 := HTA.out.cell 2 rfl
          clear hn' g1 g2 g3 hk'
          go_wp2_with fail
          refine Last.start_ (S := fun w' => w'.cell? ⟨bx, 1, none⟩ = some (.slice va j vcap) ∧ w'.cell? ⟨wr.heap.size, 0, none⟩ = some (.slice i1 i2 i3) ∧ w'.cell? ⟨wr.heap.size, 1, none⟩ = some (.slice q1 q2 q3) ∧ w'.cell? ⟨wr.heap.size, 2, none⟩ = some (.int .i64 c')) (ds := [7]) #[Z,Z,Z,Z,Z,Z,Z,Z] (by rfl) (by rfl) (by rfl) ?_ (fun hHeld => ?_)
          · go_keep
          refine Last.tk 0 21 #[Y,Z,Z,Z,Z,Z,Z,Z] rfl rfl hHeld ?_
          refine Last.tk 1 22 #[Y,Y,Z,Z,Z,Z,Z,Z] rfl rfl hHeld ?_
          refine Last.tk 2 23 #[Y,Y,Y,Z,Z,Z,Z,Z] rfl rfl hHeld ?_
          refine Last.one_ (i := 3) (N := some 24) #[Y,Y,Y,Y,Z,Z,Z,Z] rfl rfl (by kernel_rfl) (by decide) (fun K hK => ?_)
          go_simp
          go_at_call 27
          refine (HIH.out k' (HNK.out.below (Below.refl _ _).drew) hbk').mono ?_
          rintro e w3 ⟨vi, vk, ck, rfl, hq3, hb3⟩
          have HP3 := hidp (HPA.out.drew.call hb3)
          have HRK2 := hidp (Row.below HRKA.out (Below.refl _ _).drew)
          have HR3 := hidp (Row.below HRK2.out hb3)
          have HR3i := hidp (Row.below (Row.below HRIA.out (Below.refl _ _).drew) hb3)
          have HQ3 := hidp (KN.below (KN.below HQA.out (Below.refl _ _).drew) hb3)
          have HT3 := hidp (Bx.below (Bx.below HTA.out (Below.refl _ _).drew HTA.out.1) hb3 HTA.out.1)
          have HS3 := hidp hb3.size
          have HNQ := hidp hq3
          have hvv := hq3.vals
          obtain ⟨⟨e1, e2, e3, rfl⟩, f1, f2, f3, rfl⟩ := hvv
          have c1 := (HP3.out).x.cell 1 rfl
          have k0 := (HT3.out).cell 0 rfl
          have k1 := (HT3.out).cell 1 rfl
          have k2 := (HT3.out).cell 2 rfl
          clear hb3 hq3
          refine hK.out _ _ ?_ (fun hHeld => ?_)
          · (try dsimp only); go_keep
          clear hK K
          try simp only [Act.put, setIfInBounds_toArray, set_cons_zero, set_cons_succ]
          refine Last.one_ (i := 4) (N := some 25) #[Y,Y,Y,Y,Y,Z,Z,Z] rfl rfl (by kernel_rfl) (by decide) (fun K hK => ?_)
          go_simp
          have c1 := (HP3.out.alloc (.cells #[.slice e1 e2 e3, .slice f1 f2 f3, .int .i64 ck] 25)).x.cell 1 rfl
          have k0 := (HT3.out.alloc (.cells #[.slice e1 e2 e3, .slice f1 f2 f3, .int .i64 ck] 25)).cell 0 rfl
          have k1 := (HT3.out.alloc (.cells #[.slice e1 e2 e3, .slice f1 f2 f3, .int .i64 ck] 25)).cell 1 rfl
          have k2 := (HT3.out.alloc (.cells #[.slice e1 e2 e3, .slice f1 f2 f3, .int .i64 ck] 25)).cell 2 rfl
          refine hK.out _ _ ?_ (fun hHeld => ?_)
          · (try dsimp only); go_keep
          clear hK K
          try simp only [Act.put, setIfInBounds_toArray, set_cons_zero, set_cons_succ]
          refine Last.one_ (i := 5) (N := some 26) #[Y,Y,Y,Y,Y,Y,Z,Z] rfl rfl (by kernel_rfl) (by decide) (fun K hK => ?_)
          refine step_row (by rfl) _ _ _ (by rfl) 25 j0 _ 3 56 Try.underlying23 HJ0.out HY0.out HY1.out HY2.out (by rfl) (by decide) (.slice va j vcap) j (kcells L) gk (by rfl) (HR3.out.alloc _) ⟨w3.heap.size, 0, none⟩ 1 1 [.slice e1 e2 e3, .slice f1 f2 f3, .int .i64 ck] (by simp [Act.eval]) (by decide) (by rfl) (fun q u hq => by rw [Addr.add_lit, Nat.zero_add]; exact (Bx.new w3 [.slice e1 e2 e3, .slice f1 f2 f3, .int .i64 ck] 25).cell q hq) (by simp [Value.oneCell']) (by unfold maxLen; omega) (by omega) ?_
          intro v4 w4 g4 hr4 hg4 hF4
          have HP4 := hidp ((HP3.out.alloc (.cells #[.slice e1 e2 e3, .slice f1 f2 f3, .int .i64 ck] 25)).row hF4 (fun k hk => HP3.out.ge k (.inr hk)))
          have HT4 := hidp ((HT3.out.alloc (.cells #[.slice e1 e2 e3, .slice f1 f2 f3, .int .i64 ck] 25)).keep hF4 (fun h => by
            have h2 := HRK.out
            rw [h] at h2
            have := h2.lt
            omega))
          have HR4i := hidp ((HR3i.out.alloc (.cells #[.slice e1 e2 e3, .slice f1 f2 f3, .int .i64 ck] 25)).keep hF4 (fun b hb h => HP3.out.ne b hb h))
          have HQ4 := hidp (KN.snoc HQ3.out HNQ.out HS3.out HRK2.out ⟨hLj, (HPA.out.drew).x.1⟩ hF4 hg4 hms)
          have HG4 : Hid ((w.heap.size + 1 < g4 ∧ g4 ≠ bx) ∧ ∀ k, some g = some k → some g4 = some k → False) := hidp (by
            have hbx := HP3.out.x.1
            have hg4' : gk = some g4 ∨ w3.heap.size + 1 ≤ g4 := by first | exact hg4 | (rw [World.size_alloc] at hg4; exact hg4)
            refine ⟨hg4'.elim (fun h => HP3.out.ge g4 (.inr h)) (fun h => by have := HP3.out.lt; omega), fun k hk h => ?_⟩
            obtain rfl := Option.some.inj h
            rcases hg4' with h | h
            · exact HP3.out.ne _ hk h
            · have h2 := HR3i.out
              rw [hk] at h2
              have := h2.lt
              omega)
          have HR4 : Hid (Row 3 w4 v4 (j + 1) (kcells (L ++ [(.slice e1 e2 e3, .slice f1 f2 f3, ck)])) (some g4)) := hidp (by rw [kcells_append]; exact hr4)
          obtain ⟨va4, vcap4, hv4⟩ := hr4.len
          subst hv4
          have c1 := (HP4.out).x.cell 1 rfl
          have k0 := (HT4.out).cell 0 rfl
          have k1 := (HT4.out).cell 1 rfl
          have k2 := (HT4.out).cell 2 rfl
          have c1f := HP4.out.x.froz 1 (v := .slice va j vcap) rfl
          have hb4 := HP4.out.x.1
          clear hr4 hg4 hF4
          refine hK.out _ _ ?_ (fun hHeld => ?_)
          · (try dsimp only); go_keep
          clear hK K
          try simp only [Act.put, setIfInBounds_toArray, set_cons_zero, set_cons_succ]
          refine Last.tk 6 27 #[Y,Y,Y,Y,Y,Y,Y,Z] rfl rfl hHeld ?_
          refine Last.last_ (i := 7) (N := none) #[Y,Y,Y,Y,Y,Y,Y,Y] rfl rfl (by kernel_rfl) (by decide) (fun K hK => ?_)
          go_simp
          refine hK.out _ _ ?_
          clear hK K
          try simp only [Act.put, setIfInBounds_toArray, set_cons_zero, set_cons_succ]
          refine Last.done_ (by kernel_rfl) ?_
          go_wp2
          go_roundw
          case rel =>
            have hu := Upd.one w4 (b := bx) (o := 1) (.slice va4 (j + 1) vcap4) (by rw [M_of c1 c1f]; rfl)
            exact ⟨j + 1, by omega, by go_num, hidp ⟨_, some g4, _, HP4.out.put1 _ (fun k hk => by obtain rfl := Option.some.inj hk; exact ⟨HG4.out.1, fun h => HG4.out.2 _ h rfl⟩), HR4i.out.keep hu.fr (fun b hb h => by have := HP4.out.ge b (.inl hb); omega), HR4.out.keep hu.fr (fun b hb h => by obtain rfl := Option.some.inj hb; have := HG4.out.1; omega), by simp [hLj], HQ4.out.put hu⟩⟩
          case measure => simp [intOf]; omega
        · obtain rfl : j = ks.length := by omega
          have c0 := HP.out.x.cell 0 rfl
          have c1 := HP.out.x.cell 1 rfl
          have c2 := HP.out.x.cell 2 rfl
          have r0 := HP.out.r.cell 0 rfl
          have r1 := HP.out.r.cell 1 rfl
          have r2 := HP.out.r.cell 2 rfl
          have r0f := HP.out.r.froz 0 (v := .slice none 0 0) rfl
          have r1f := HP.out.r.froz 1 (v := .slice none 0 0) rfl
          have r2f := HP.out.r.froz 2 (v := .int .i64 0) rfl
          have hrl := HP.out.r.1
          have HFIN := hidp (HP.out.lifted HRI.out (by rw [hml]; exact HRK.out) (by rw [hml]; exact hLj) HQS.out)
          rw [HMS.out] at HFIN
          clear HRI HRK HQS
          go_wp2
          refine bodyPost_ret (v := .agg #[.slice ua l.length ucap, .slice va ks.length vcap, .int .i64 (LEN : Nat)]) (by simp [results, Try.results27, go_sem, r0, r1, r2, r0f, r1f, r2f]) rfl ?_
          exact HFIN.out
end Go.Proofs.Ytehnobbiiokcgaa.Bt.ND
