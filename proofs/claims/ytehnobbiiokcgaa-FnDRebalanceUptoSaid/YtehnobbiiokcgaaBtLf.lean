/- The reference: a node behind two of its children were balanced. -/
import Derived.Test.YtehnobbiiokcgaaBtLe
import Derived.Test.YtehnobbiiokcgaaBtOg
import Derived.Deep.RegionHeld3
import Derived.Deep.DeepCutAuto
namespace Go.Proofs.Ytehnobbiiokcgaa.Bt.ND
set_option linter.unusedVariables false
set_option linter.unusedSimpArgs false
open Go Go.RowKit Go.Proofs.Ytehnobbiiokcgaa.Bt
open Go.Proofs.Ytehnobbiiokcgaa.Bt.Last (Y Z)
open _root_.List (setIfInBounds_toArray set_cons_zero set_cons_succ)

/-- An item of a row, cell by cell. -/
theorem row_item {w : World} {l : List Im} {n gg c : Nat} (h : Row 2 w (.slice (some ⟨gg, 0, none⟩) n c) n (itemCells EI l) (some gg)) {i : Nat} {y : Im} (hy : l[i]? = some y) : w.cell? ⟨gg, i * 2, none⟩ = some (.int .i64 y.1) ∧ w.cell? ⟨gg, i * 2 + 1, none⟩ = some (.int .i64 y.2) := by
  have h1 : (itemCells EI l)[i * 2]? = some (.int .i64 y.1) := itemCells_get (E := EI) l i y hy 0 (by decide)
  have h2 : (itemCells EI l)[i * 2 + 1]? = some (.int .i64 y.2) := itemCells_get (E := EI) l i y hy 1 (by decide)
  obtain ⟨_, hr⟩ := h
  rcases hr with ⟨h3, _⟩ | ⟨b, cap, hg, _, _, _, _, hok⟩
  · injection h3 with e; cases e
  · obtain rfl := Option.some.inj hg
    have f1 := M_cell (hok.val _ _ h1)
    have f2 := M_cell (hok.val _ _ h2)
    rw [Nat.zero_add] at f1 f2
    exact ⟨f1, f2⟩

theorem Flat.take {w : World} {sz n c p : Nat} {a : Option Addr} {xs : List Value} (h : Flat sz w (.slice a n c) n xs) (hp : p ≤ n) : Flat sz w (.slice a p c) p (xs.take (p * sz)) := by
  obtain ⟨hl, a', cap, e, hc, hi⟩ := h
  injection e with e1 e2 e3
  subst e1; subst e3
  refine ⟨by rw [List.length_take, hl]; exact Nat.min_eq_left (Nat.mul_le_mul_right sz hp), a, c, rfl, by omega, fun h0 => ?_⟩
  obtain ⟨b, off, ha, hlt, hcell⟩ := hi (by omega)
  exact ⟨b, off, ha, hlt, fun j u hu => hcell j u (by
    rw [List.getElem?_take] at hu
    split at hu
    · exact hu
    · cases hu)⟩
theorem Flat.drop {w : World} {sz n c p b o : Nat} {z : Option Addr} {xs : List Value} (h : Flat sz w (.slice (some ⟨b, o, none⟩) n c) n xs) (hp : p ≤ n) (hz : 0 < n - p → z = some ⟨b, o + p * sz, none⟩) : Flat sz w (.slice z (n - p) (c - p)) (n - p) (xs.drop (p * sz)) := by
  obtain ⟨hl, a', cap, e, hc, hi⟩ := h
  injection e with e1 e2 e3
  subst e3
  refine ⟨by rw [List.length_drop, hl, Nat.sub_mul], z, c - p, rfl, by omega, fun h0 => ?_⟩
  obtain ⟨b', off, ha, hlt, hcell⟩ := hi (by omega)
  rw [← e1] at ha
  injection ha with ha
  injection ha with h1 h2 _
  subst h1; subst h2
  refine ⟨b, o + p * sz, hz h0, hlt, fun j u hu => ?_⟩
  rw [List.getElem?_drop] at hu
  have h9 := hcell _ u hu
  rw [Nat.add_assoc]; exact h9

/-- The boxes of 'Rebalanced' ahead of its rows: what came in, the result, the two children and the item between them. -/
def Rb (w : World) (si sk : Value) (c : Int) (b8 b9 b10 : Nat) (ai ak bi bk : Value) (ac bc : Int) (m : Im) (RR : List RW) (wr : World) : Prop :=
  RS w [(b8, [ai, ak, .int .i64 ac]), (b9, [bi, bk, .int .i64 bc]), (b10, [.int .i64 m.1, .int .i64 m.2]), (w.heap.size + 1, [.slice none 0 0, .slice none 0 0, .int .i64 0]), (w.heap.size, [si, sk, .int .i64 c])] RR wr

set_option maxHeartbeats 4000000 in
set_option maxRecDepth 100000 in
/-- 'spec.Rebalanced' -/
theorem rebalanced_is {D : Nat} (hD : 2 ≤ D) (hD2 : D ≤ 1000) {n : Nat} {t : DT (n + 2)} {p : Nat} {a b : DT (n + 1)} {m : Im} (hkl : t.2.1.length = t.1.length + 1) (hlo : 1 ≤ t.1.length) (hp : p < t.2.1.length) (hm : t.1[jD t.1.length p]? = some m) (ha : t.2.1[jD t.1.length p]? = some a) (hb : t.2.1[jD t.1.length p + 1]? = some b) (hkk : (a.2.1.length = 0 ∧ b.2.1.length = 0) ∨ (a.2.1.length = a.1.length + 1 ∧ b.2.1.length = b.1.length + 1))
    {w : World} {vi vk : Value} {c : Int} (hN : NodeAt w (n + 2) t vi vk c) (hbk : bulk (n + 2) t ≤ 4000000) :
    Calls Try.prog 23 #[.int .i64 D, .agg #[vi, vk, .int .i64 c], .int .i64 p] w (Lifted (wcn (n + 2) (rebD D t (jD t.1.length p) a b m)) w) := by
  obtain ⟨j, hj⟩ : ∃ j, j = jD t.1.length p := ⟨_, rfl⟩
  have hj' : (p = t.1.length ∧ j + 1 = p) ∨ (p ≠ t.1.length ∧ j = p) := by
    rw [hj]; unfold jD; split
    · left; omega
    · right; omega
  rw [← hj] at hm ha hb ⊢
  clear hj
  have HKK := hidp hkk
  clear hkk
  have hPb : t.1.length ≤ 4000000 := by have : t.1.length ≤ bulk (n + 2) t := (by show t.1.length ≤ 1 + t.1.length + (t.2.1.map (bulk (n + 1))).sum; omega); omega
  have hN0 := hN
  obtain ⟨hcx, ⟨ia, icap, e1, hic, hi⟩, ka, kcap, e2, hkc, hk⟩ := hN
  subst e1; subst e2
  obtain ⟨ib, io, rfl, x1, x2⟩ := hi j m hm
  obtain ⟨kb, ko, av, ak, ac, rfl, y1, y2, y3, hna⟩ := hk j a ha
  obtain ⟨kb', ko', bv, bk, bc, hke, z1, z2, z3, hnb⟩ := hk (j + 1) b hb
  injection hke with hke
  injection hke with hk1 hk2
  subst hk1; subst hk2
  obtain ⟨⟨a1, a2, a3, rfl⟩, a4, a5, a6, rfl⟩ := hna.vals
  obtain ⟨⟨b1, b2, b3, rfl⟩, b4, b5, b6, rfl⟩ := hnb.vals
  obtain ⟨P, hP⟩ : ∃ P, P = t.1.length := ⟨_, rfl⟩
  obtain ⟨Q, hQ⟩ : ∃ Q, Q = t.2.1.length := ⟨_, rfl⟩
  have HN := hidp hN0
  rw [← hP] at hj' hPb hkl hlo hic HN ⊢
  rw [← hQ] at hkl hp hkc HN ⊢
  obtain ⟨w1, hw1⟩ : ∃ w1, w1 = (w.alloc (.cells #[.slice (some ⟨ib, io, none⟩) P icap, .slice (some ⟨kb, ko, none⟩) Q kcap, .int .i64 c] 25)).alloc (.cells #[.slice none 0 0, .slice none 0 0, .int .i64 0] 25) := ⟨_, rfl⟩
  have hsz1 : w1.heap.size = w.heap.size + 2 := by rw [hw1]; simp
  have hR1 : RS w [(w.heap.size + 1, [.slice none 0 0, .slice none 0 0, .int .i64 0]), (w.heap.size, [.slice (some ⟨ib, io, none⟩) P icap, .slice (some ⟨kb, ko, none⟩) Q kcap, .int .i64 c])] [] w1 := by
    rw [hw1]
    have h := ((RS.start w).box [.slice (some ⟨ib, io, none⟩) P icap, .slice (some ⟨kb, ko, none⟩) Q kcap, .int .i64 c] 25).box [.slice none 0 0, .slice none 0 0, .int .i64 0] 25
    rw [World.size_alloc] at h
    exact h
  have hil : ib < w.heap.size := World.block_lt_of_cell? w _ x1
  have hkbl : kb < w.heap.size := World.block_lt_of_cell? w _ y1
  have hx1 := (hR1.below.cell (p := ⟨ib, io + j * 2, none⟩) hil).trans x1
  have hx2 := (hR1.below.cell (p := ⟨ib, io + j * 2 + 1, none⟩) hil).trans x2
  have hy1 := (hR1.below.cell (p := ⟨kb, ko + j * 3, none⟩) hkbl).trans y1
  have hy2 := (hR1.below.cell (p := ⟨kb, ko + j * 3 + 1, none⟩) hkbl).trans y2
  have hy3 := (hR1.below.cell (p := ⟨kb, ko + j * 3 + 2, none⟩) hkbl).trans y3
  have hz1 := (hR1.below.cell (p := ⟨kb, ko + (j + 1) * 3, none⟩) hkbl).trans z1
  have hz2 := (hR1.below.cell (p := ⟨kb, ko + (j + 1) * 3 + 1, none⟩) hkbl).trans z2
  have hz3 := (hR1.below.cell (p := ⟨kb, ko + (j + 1) * 3 + 2, none⟩) hkbl).trans z3
  clear x1 x2 y1 y2 y3 z1 z2 z3
  have s0 := (hR1.bx (w.heap.size, [.slice (some ⟨ib, io, none⟩) P icap, .slice (some ⟨kb, ko, none⟩) Q kcap, .int .i64 c]) (by simp)).1.cell 0 rfl
  have s1 := (hR1.bx (w.heap.size, [.slice (some ⟨ib, io, none⟩) P icap, .slice (some ⟨kb, ko, none⟩) Q kcap, .int .i64 c]) (by simp)).1.cell 1 rfl
  have HR1 := hidp hR1
  have HNA := hidp hna
  have HNB := hidp hnb
  have HT := hidp (And.intro hm (And.intro ha (And.intro hb (And.intro hP (And.intro hQ hbk)))))
  have hwl : IntKind.i64.wrap ((P : Int) - 1) = (P : Int) - 1 := by rw [Last.i64_w, IntWalk.wrap64_in _ ⟨by omega, by omega⟩]
  have hwj : IntKind.i64.wrap ((j : Int) + 1) = (j : Int) + 1 := by rw [Last.i64_w, IntWalk.wrap64_in _ ⟨by omega, by omega⟩]
  have j0 : (0 : Int) ≤ (j : Int) := by omega
  have j1 : (j : Int) < (P : Int) := by omega
  have j2 : (j : Int) < (Q : Int) := by omega
  have j3 : (0 : Int) ≤ (j : Int) + 1 := by omega
  have j4 : (j : Int) + 1 < (Q : Int) := by omega
  have hlt0 : w.heap.size < w1.heap.size := by omega
  have hlti : ib < w1.heap.size := by omega
  have hltk : kb < w1.heap.size := by omega
  have HKL := hidp hkl
  clear hi hk hcx hna hnb hm ha hb hP hQ hbk hR1 hN0 hkl
  go_enter Try.func23, Try.ntmps23
  go_upto_region 1 with (fail)
  rw [← hw1]
  clear hw1
  go_cut [7] from 17 to 22 (fun u wx => u = .int .i64 j ∧ wx = w1)
  case first =>
    have HJ := hidp hj'
    have HLO := hidp hlo
    have HPP := hidp hp
    clear hj' j1 j2 j4 hp hlo
    by_cases hpl : (P : Int) - 1 < (p : Int)
    · go_wp2
      go_meet
      exact ⟨by have e : (P : Int) - 1 = (j : Int) := (by have h1 := HJ.out; have h2 := HLO.out; have h3 := HPP.out; have h4 := HKL.out; omega); rw [e], rfl⟩
    · go_wp2
      go_meet
      exact ⟨by have e : (p : Int) = (j : Int) := (by have h1 := HJ.out; have h2 := HLO.out; have h3 := HPP.out; have h4 := HKL.out; omega); rw [e], rfl⟩
  case rest =>
    obtain ⟨rfl, rfl⟩ := hcut
    clear hj' hwl
    have HSZ1 := hidp hsz1
    clear hsz1
    go_upto_region 2 with (fail)
    go_cut [8, 9, 10] from 23 to 38 (fun u8 u9 u10 wx => ∃ b8 b9 b10, u8 = .pointer (some ⟨b8, 0, none⟩) ∧ u9 = .pointer (some ⟨b9, 0, none⟩) ∧ u10 = .pointer (some ⟨b10, 0, none⟩) ∧ Hid (Rb w (.slice (some ⟨ib, io, none⟩) P icap) (.slice (some ⟨kb, ko, none⟩) Q kcap) c b8 b9 b10 (.slice a1 a2 a3) (.slice a4 a5 a6) (.slice b1 b2 b3) (.slice b4 b5 b6) ac bc m [] wx))
    case first =>
      have gw1 : w.heap.size < wc.heap.size + 1 := by omega
      have gw2 : w.heap.size < wc.heap.size + 2 := by omega
      have gw3 : w.heap.size < wc.heap.size + 1 + 1 := by omega
      have gi1 : ib < wc.heap.size + 1 := by omega
      have gi2 : ib < wc.heap.size + 2 := by omega
      have gi3 : ib < wc.heap.size + 1 + 1 := by omega
      have gk1 : kb < wc.heap.size + 1 := by omega
      have gk2 : kb < wc.heap.size + 2 := by omega
      have gk3 : kb < wc.heap.size + 1 + 1 := by omega
      have ew0 : w.heap.size ≠ wc.heap.size := by omega
      have fw0 : wc.heap.size ≠ w.heap.size := by omega
      have ew1 : w.heap.size ≠ wc.heap.size + 1 := by omega
      have fw1 : wc.heap.size + 1 ≠ w.heap.size := by omega
      have ew2 : w.heap.size ≠ wc.heap.size + 2 := by omega
      have fw2 : wc.heap.size + 2 ≠ w.heap.size := by omega
      have ei0 : ib ≠ wc.heap.size := by omega
      have fi0 : wc.heap.size ≠ ib := by omega
      have ei1 : ib ≠ wc.heap.size + 1 := by omega
      have fi1 : wc.heap.size + 1 ≠ ib := by omega
      have ei2 : ib ≠ wc.heap.size + 2 := by omega
      have fi2 : wc.heap.size + 2 ≠ ib := by omega
      have ek0 : kb ≠ wc.heap.size := by omega
      have fk0 : wc.heap.size ≠ kb := by omega
      have ek1 : kb ≠ wc.heap.size + 1 := by omega
      have fk1 : wc.heap.size + 1 ≠ kb := by omega
      have ek2 : kb ≠ wc.heap.size + 2 := by omega
      have fk2 : wc.heap.size + 2 ≠ kb := by omega
      have bA0 : Bx (((wc.alloc (.cells #[.slice none 0 0, .slice none 0 0, .int .i64 0] 25)).alloc (.cells #[.slice none 0 0, .slice none 0 0, .int .i64 0] 25)).alloc (.cells #[.int .i64 0, .int .i64 0] 35)) (wc.heap.size) [.slice none 0 0, .slice none 0 0, .int .i64 0] := by
        have h := Bx.new wc [.slice none 0 0, .slice none 0 0, .int .i64 0] 25
        exact (h.alloc _).alloc _
      have cA00 := bA0.cell 0 rfl
      have dA00 := bA0.froz 0 (v := .slice none 0 0) rfl
      have cA01 := bA0.cell 1 rfl
      have dA01 := bA0.froz 1 (v := .slice none 0 0) rfl
      have cA02 := bA0.cell 2 rfl
      have dA02 := bA0.froz 2 (v := .int .i64 0) rfl
      have HBA0 := hidp bA0
      have lA0 := bA0.1
      clear bA0
      have bA1 : Bx (((wc.alloc (.cells #[.slice none 0 0, .slice none 0 0, .int .i64 0] 25)).alloc (.cells #[.slice none 0 0, .slice none 0 0, .int .i64 0] 25)).alloc (.cells #[.int .i64 0, .int .i64 0] 35)) (wc.heap.size + 1) [.slice none 0 0, .slice none 0 0, .int .i64 0] := by
        have h := Bx.new (wc.alloc (.cells #[.slice none 0 0, .slice none 0 0, .int .i64 0] 25)) [.slice none 0 0, .slice none 0 0, .int .i64 0] 25
        rw [World.size_alloc] at h
        exact h.alloc _
      have cA10 := bA1.cell 0 rfl
      have dA10 := bA1.froz 0 (v := .slice none 0 0) rfl
      have cA11 := bA1.cell 1 rfl
      have dA11 := bA1.froz 1 (v := .slice none 0 0) rfl
      have cA12 := bA1.cell 2 rfl
      have dA12 := bA1.froz 2 (v := .int .i64 0) rfl
      have HBA1 := hidp bA1
      have lA1 := bA1.1
      clear bA1
      have bA2 : Bx (((wc.alloc (.cells #[.slice none 0 0, .slice none 0 0, .int .i64 0] 25)).alloc (.cells #[.slice none 0 0, .slice none 0 0, .int .i64 0] 25)).alloc (.cells #[.int .i64 0, .int .i64 0] 35)) (wc.heap.size + 2) [.int .i64 0, .int .i64 0] := by
        have h := Bx.new ((wc.alloc (.cells #[.slice none 0 0, .slice none 0 0, .int .i64 0] 25)).alloc (.cells #[.slice none 0 0, .slice none 0 0, .int .i64 0] 25)) [.int .i64 0, .int .i64 0] 35
        rw [World.size_alloc, World.size_alloc] at h
        exact h
      have cA20 := bA2.cell 0 rfl
      have dA20 := bA2.froz 0 (v := .int .i64 0) rfl
      have cA21 := bA2.cell 1 rfl
      have dA21 := bA2.froz 1 (v := .int .i64 0) rfl
      have HBA2 := hidp bA2
      have lA2 := bA2.1
      clear bA2
      have bB0 : Bx (((wc.alloc (.cells #[.slice none 0 0, .slice none 0 0, .int .i64 0] 25)).alloc (.cells #[.int .i64 0, .int .i64 0] 35)).alloc (.cells #[.slice none 0 0, .slice none 0 0, .int .i64 0] 25)) (wc.heap.size) [.slice none 0 0, .slice none 0 0, .int .i64 0] := by
        have h := Bx.new wc [.slice none 0 0, .slice none 0 0, .int .i64 0] 25
        exact (h.alloc _).alloc _
      have cB00 := bB0.cell 0 rfl
      have dB00 := bB0.froz 0 (v := .slice none 0 0) rfl
      have cB01 := bB0.cell 1 rfl
      have dB01 := bB0.froz 1 (v := .slice none 0 0) rfl
      have cB02 := bB0.cell 2 rfl
      have dB02 := bB0.froz 2 (v := .int .i64 0) rfl
      have HBB0 := hidp bB0
      have lB0 := bB0.1
      clear bB0
      have bB1 : Bx (((wc.alloc (.cells #[.slice none 0 0, .slice none 0 0, .int .i64 0] 25)).alloc (.cells #[.int .i64 0, .int .i64 0] 35)).alloc (.cells #[.slice none 0 0, .slice none 0 0, .int .i64 0] 25)) (wc.heap.size + 1) [.int .i64 0, .int .i64 0] := by
        have h := Bx.new (wc.alloc (.cells #[.slice none 0 0, .slice none 0 0, .int .i64 0] 25)) [.int .i64 0, .int .i64 0] 35
        rw [World.size_alloc] at h
        exact h.alloc _
      have cB10 := bB1.cell 0 rfl
      have dB10 := bB1.froz 0 (v := .int .i64 0) rfl
      have cB11 := bB1.cell 1 rfl
      have dB11 := bB1.froz 1 (v := .int .i64 0) rfl
      have HBB1 := hidp bB1
      have lB1 := bB1.1
      clear bB1
      have bB2 : Bx (((wc.alloc (.cells #[.slice none 0 0, .slice none 0 0, .int .i64 0] 25)).alloc (.cells #[.int .i64 0, .int .i64 0] 35)).alloc (.cells #[.slice none 0 0, .slice none 0 0, .int .i64 0] 25)) (wc.heap.size + 2) [.slice none 0 0, .slice none 0 0, .int .i64 0] := by
        have h := Bx.new ((wc.alloc (.cells #[.slice none 0 0, .slice none 0 0, .int .i64 0] 25)).alloc (.cells #[.int .i64 0, .int .i64 0] 35)) [.slice none 0 0, .slice none 0 0, .int .i64 0] 25
        rw [World.size_alloc, World.size_alloc] at h
        exact h
      have cB20 := bB2.cell 0 rfl
      have dB20 := bB2.froz 0 (v := .slice none 0 0) rfl
      have cB21 := bB2.cell 1 rfl
      have dB21 := bB2.froz 1 (v := .slice none 0 0) rfl
      have cB22 := bB2.cell 2 rfl
      have dB22 := bB2.froz 2 (v := .int .i64 0) rfl
      have HBB2 := hidp bB2
      have lB2 := bB2.1
      clear bB2
      have bC0 : Bx (((wc.alloc (.cells #[.int .i64 0, .int .i64 0] 35)).alloc (.cells #[.slice none 0 0, .slice none 0 0, .int .i64 0] 25)).alloc (.cells #[.slice none 0 0, .slice none 0 0, .int .i64 0] 25)) (wc.heap.size) [.int .i64 0, .int .i64 0] := by
        have h := Bx.new wc [.int .i64 0, .int .i64 0] 35
        exact (h.alloc _).alloc _
      have cC00 := bC0.cell 0 rfl
      have dC00 := bC0.froz 0 (v := .int .i64 0) rfl
      have cC01 := bC0.cell 1 rfl
      have dC01 := bC0.froz 1 (v := .int .i64 0) rfl
      have HBC0 := hidp bC0
      have lC0 := bC0.1
      clear bC0
      have bC1 : Bx (((wc.alloc (.cells #[.int .i64 0, .int .i64 0] 35)).alloc (.cells #[.slice none 0 0, .slice none 0 0, .int .i64 0] 25)).alloc (.cells #[.slice none 0 0, .slice none 0 0, .int .i64 0] 25)) (wc.heap.size + 1) [.slice none 0 0, .slice none 0 0, .int .i64 0] := by
        have h := Bx.new (wc.alloc (.cells #[.int .i64 0, .int .i64 0] 35)) [.slice none 0 0, .slice none 0 0, .int .i64 0] 25
        rw [World.size_alloc] at h
        exact h.alloc _
      have cC10 := bC1.cell 0 rfl
      have dC10 := bC1.froz 0 (v := .slice none 0 0) rfl
      have cC11 := bC1.cell 1 rfl
      have dC11 := bC1.froz 1 (v := .slice none 0 0) rfl
      have cC12 := bC1.cell 2 rfl
      have dC12 := bC1.froz 2 (v := .int .i64 0) rfl
      have HBC1 := hidp bC1
      have lC1 := bC1.1
      clear bC1
      have bC2 : Bx (((wc.alloc (.cells #[.int .i64 0, .int .i64 0] 35)).alloc (.cells #[.slice none 0 0, .slice none 0 0, .int .i64 0] 25)).alloc (.cells #[.slice none 0 0, .slice none 0 0, .int .i64 0] 25)) (wc.heap.size + 2) [.slice none 0 0, .slice none 0 0, .int .i64 0] := by
        have h := Bx.new ((wc.alloc (.cells #[.int .i64 0, .int .i64 0] 35)).alloc (.cells #[.slice none 0 0, .slice none 0 0, .int .i64 0] 25)) [.slice none 0 0, .slice none 0 0, .int .i64 0] 25
        rw [World.size_alloc, World.size_alloc] at h
        exact h
      have cC20 := bC2.cell 0 rfl
      have dC20 := bC2.froz 0 (v := .slice none 0 0) rfl
      have cC21 := bC2.cell 1 rfl
      have dC21 := bC2.froz 1 (v := .slice none 0 0) rfl
      have cC22 := bC2.cell 2 rfl
      have dC22 := bC2.froz 2 (v := .int .i64 0) rfl
      have HBC2 := hidp bC2
      have lC2 := bC2.1
      clear bC2
      go_region_held3 (fun w' => w'.cell? ⟨w.heap.size, 0, none⟩ = some (.slice (some ⟨ib, io, none⟩) P icap) ∧ w'.cell? ⟨w.heap.size, 1, none⟩ = some (.slice (some ⟨kb, ko, none⟩) Q kcap) ∧ w'.cell? ⟨ib, io + j * 2, none⟩ = some (.int .i64 m.1) ∧ w'.cell? ⟨ib, io + j * 2 + 1, none⟩ = some (.int .i64 m.2) ∧ w'.cell? ⟨kb, ko + j * 3, none⟩ = some (.slice a1 a2 a3) ∧ w'.cell? ⟨kb, ko + j * 3 + 1, none⟩ = some (.slice a4 a5 a6) ∧ w'.cell? ⟨kb, ko + j * 3 + 2, none⟩ = some (.int .i64 ac) ∧ w'.cell? ⟨kb, ko + (j + 1) * 3, none⟩ = some (.slice b1 b2 b3) ∧ w'.cell? ⟨kb, ko + (j + 1) * 3 + 1, none⟩ = some (.slice b4 b5 b6) ∧ w'.cell? ⟨kb, ko + (j + 1) * 3 + 2, none⟩ = some (.int .i64 bc)) (simp (maxDischargeDepth := 8) [*, World.cell?_alloc_some, World.cell?_setCell_far]) (fail)
      all_goals go_wp2_with fail
      all_goals go_meet
      all_goals refine ⟨_, _, _, rfl, rfl, rfl, hidp ?_⟩
      all_goals have hs := HSZ1.out
      all_goals exact RS.sub (RS.box3 HR1.out _ _ _ _ _ _) (by
        intro q hq
        simp only [List.mem_cons, List.not_mem_nil, or_false] at hq ⊢
        rcases hq with h | h | h | h | h <;> simp [h]) (by simp; omega)
    case rest =>
      obtain ⟨b8, b9, b10, rfl, rfl, rfl, HB⟩ := hcut
      clear hx1 hx2 hy1 hy2 hy3 hz1 hz2 hz3 s0 s1 hlt0 hlti hltk HR1 HSZ1
      -- the two children
      have hia := HNA.out.2.1
      have hib := HNB.out.2.1
      have hfa := Its.toFlat hia
      have hfb := Its.toFlat hib
      have ea2 : a2 = a.1.length := by obtain ⟨_, _, _, e, _⟩ := hfa; injection e
      have eb2 : b2 = b.1.length := by obtain ⟨_, _, _, e, _⟩ := hfb; injection e
      obtain ⟨La, hLa, hga⟩ := NodeAt.kids HNA.out
      obtain ⟨Lb, hLb, hgb⟩ := NodeAt.kids HNB.out
      have ea5 : a5 = a.2.1.length := by obtain ⟨_, _, _, e, _⟩ := hga; injection e
      have eb5 : b5 = b.2.1.length := by obtain ⟨_, _, _, e, _⟩ := hgb; injection e
      rw [← ea2] at hfa
      rw [← eb2] at hfb
      rw [← ea5] at hga
      rw [← eb5] at hgb
      have hbka := bulk_kid (t := t) HT.out.2.1
      have hbkb := bulk_kid (t := t) HT.out.2.2.1
      have hbkt : bulk (n + 1 + 1) t ≤ 4000000 := HT.out.2.2.2.2.2
      have hal : a2 ≤ 4000000 := by have h9 : a.1.length ≤ bulk (n + 1) a := (by show a.1.length ≤ 1 + a.1.length + (a.2.1.map (bulk n)).sum; omega); omega
      have hbl : b2 ≤ 4000000 := by have h9 : b.1.length ≤ bulk (n + 1) b := (by show b.1.length ≤ 1 + b.1.length + (b.2.1.map (bulk n)).sum; omega); omega
      have hakl : a5 ≤ 4000000 := by have h9 := kids_len a (fun k _ => bulk_pos' k); omega
      have hbkl : b5 ≤ 4000000 := by have h9 := kids_len b (fun k _ => bulk_pos' k); omega
      have HLN := hidp (And.intro ea2 (And.intro eb2 (And.intro ea5 eb5)))
      have HKA := hidp hLa
      have HKB := hidp hLb
      obtain ⟨Aa, hAa, hca⟩ := Flat.src hfa
      obtain ⟨Ab, hAb, hcb⟩ := Flat.src hfb
      obtain ⟨Ka, hKa, hda⟩ := Flat.src hga
      obtain ⟨Kb, hKb, hdb⟩ := Flat.src hgb
      have HCA := hidp hca
      have HCB := hidp hcb
      have HDA := hidp hda
      have HDB := hidp hdb
      have HFL := hidp (And.intro hfa.1 (And.intro hfb.1 (And.intro hga.1 hgb.1)))
      have HAA := hidp hAa
      have HAB := hidp hAb
      have HKKA := hidp hKa
      have HKKB := hidp hKb
      obtain ⟨i0, hi0, hz0, hz1, hz2⟩ := info_parts infoM
      have HI0 := hidp hi0
      have HZ0 := hidp hz0
      have HZ1 := hidp hz1
      have HZ2 := hidp hz2
      obtain ⟨i1, hi1, hy0, hy1, hy2⟩ := info_parts infoN
      have HI1 := hidp hi1
      have HY0 := hidp hy0
      have HY1 := hidp hy1
      have HY2 := hidp hy2
      clear hia hib hfa hfb hga hgb ea2 eb2 ea5 eb5 hLa hLb hca hcb hda hdb hAa hAb hKa hKb hbka hbkb hbkt hi0 hz0 hz1 hz2 hi1 hy0 hy1 hy2
      have k0 := (RS.at HB.out (b := b8) (vs := [.slice a1 a2 a3, .slice a4 a5 a6, .int .i64 ac]) (by simp)).cell 0 rfl
      have k1 := (RS.at HB.out (b := b9) (vs := [.slice b1 b2 b3, .slice b4 b5 b6, .int .i64 bc]) (by simp)).cell 0 rfl
      have k2 := (RS.at HB.out (b := b10) (vs := [.int .i64 m.1, .int .i64 m.2]) (by simp)).cell 0 rfl
      have k3 := (RS.at HB.out (b := b10) (vs := [.int .i64 m.1, .int .i64 m.2]) (by simp)).cell 1 rfl
      go_upto_region 3 with (fail)
      go_cut [11] from 39 to 48 (fun u11 wx => ∃ s11 c11 g11, u11 = .slice s11 (a2 + 1 + b2) c11 ∧ Hid (Rb w (.slice (some ⟨ib, io, none⟩) P icap) (.slice (some ⟨kb, ko, none⟩) Q kcap) c b8 b9 b10 (.slice a1 a2 a3) (.slice a4 a5 a6) (.slice b1 b2 b3) (.slice b4 b5 b6) ac bc m [⟨2, .slice s11 (a2 + 1 + b2) c11, a2 + 1 + b2, itemCells EI (a.1 ++ m :: b.1), g11⟩] wx))
      case first =>
        go_region_held3 (fun w' => w'.cell? ⟨b8, 0, none⟩ = some (.slice a1 a2 a3) ∧ w'.cell? ⟨b9, 0, none⟩ = some (.slice b1 b2 b3) ∧ w'.cell? ⟨b10, 0, none⟩ = some (.int .i64 m.1) ∧ w'.cell? ⟨b10, 1, none⟩ = some (.int .i64 m.2)) (simp (maxDischargeDepth := 8) [*, World.cell?_alloc_some, World.cell?_setCell_far])
          ((first
            | (have RSX := RS.empty HB.out.drew 2 35
               refine step_any (by rfl) _ _ _ (by rfl) 35 i0 _ 2 16 Try.underlying22 HI0.out HZ0.out HZ1.out HZ2.out (by rfl) (by decide) (.slice (some ⟨wc.heap.size, 0, none⟩) 0 0) 0 [] (some wc.heap.size) (by rfl) (RSX.row ⟨2, (.slice (some ⟨wc.heap.size, 0, none⟩) 0 0), 0, [], (some wc.heap.size)⟩ (by first | simp | exact List.mem_cons_self ..)) Aa a2 a3 (itemCells EI a.1) ⟨a1, by rfl, HAA.out⟩ HFL.out.1 (HCA.out _ RSX.below) (itemCells_one _) (by unfold maxLen; omega) (by omega) ?_
               intro v3 w3 g3 hr hg hF
               rw [Nat.zero_add, List.nil_append] at hr
               have HS := hidp (RS.grow (A := []) RSX hr hg hF)
               obtain ⟨s3, c3, hv3⟩ := Row.len hr
               subst hv3
               have k0 := (RS.at HS.out (b := b8) (vs := [.slice a1 a2 a3, .slice a4 a5 a6, .int .i64 ac]) (by simp)).cell 0 rfl
               have k1 := (RS.at HS.out (b := b9) (vs := [.slice b1 b2 b3, .slice b4 b5 b6, .int .i64 bc]) (by simp)).cell 0 rfl
               have k2 := (RS.at HS.out (b := b10) (vs := [.int .i64 m.1, .int .i64 m.2]) (by simp)).cell 0 rfl
               have k3 := (RS.at HS.out (b := b10) (vs := [.int .i64 m.1, .int .i64 m.2]) (by simp)).cell 1 rfl
               clear hr hg hF RSX)
            | (have RSX := (by have h := (RS.empty HB.out.drew 2 35).box [.int .i64 m.1, .int .i64 m.2] 35; rw [World.size_alloc] at h; exact h)
               refine step_any (by rfl) _ _ _ (by rfl) 35 i0 _ 2 16 Try.underlying22 HI0.out HZ0.out HZ1.out HZ2.out (by rfl) (by decide) (.slice (some ⟨wc.heap.size, 0, none⟩) 0 0) 0 [] (some wc.heap.size) (by rfl) (RSX.row ⟨2, (.slice (some ⟨wc.heap.size, 0, none⟩) 0 0), 0, [], (some wc.heap.size)⟩ (by first | simp | exact List.mem_cons_self ..)) Aa a2 a3 (itemCells EI a.1) ⟨a1, by rfl, HAA.out⟩ HFL.out.1 (HCA.out _ RSX.below) (itemCells_one _) (by unfold maxLen; omega) (by omega) ?_
               intro v3 w3 g3 hr hg hF
               rw [Nat.zero_add, List.nil_append] at hr
               have HS := hidp (RS.grow (A := []) RSX hr hg hF)
               obtain ⟨s3, c3, hv3⟩ := Row.len hr
               subst hv3
               have k0 := (RS.at HS.out (b := b8) (vs := [.slice a1 a2 a3, .slice a4 a5 a6, .int .i64 ac]) (by simp)).cell 0 rfl
               have k1 := (RS.at HS.out (b := b9) (vs := [.slice b1 b2 b3, .slice b4 b5 b6, .int .i64 bc]) (by simp)).cell 0 rfl
               have k2 := (RS.at HS.out (b := b10) (vs := [.int .i64 m.1, .int .i64 m.2]) (by simp)).cell 0 rfl
               have k3 := (RS.at HS.out (b := b10) (vs := [.int .i64 m.1, .int .i64 m.2]) (by simp)).cell 1 rfl
               clear hr hg hF RSX)
            | (have RSX := (by have h := RS.empty (HB.out.drew.box [.int .i64 m.1, .int .i64 m.2] 35) 2 35; rw [World.size_alloc] at h; exact h)
               refine step_any (by rfl) _ _ _ (by rfl) 35 i0 _ 2 16 Try.underlying22 HI0.out HZ0.out HZ1.out HZ2.out (by rfl) (by decide) (.slice (some ⟨(wc.heap.size + 1), 0, none⟩) 0 0) 0 [] (some (wc.heap.size + 1)) (by rfl) (RSX.row ⟨2, (.slice (some ⟨(wc.heap.size + 1), 0, none⟩) 0 0), 0, [], (some (wc.heap.size + 1))⟩ (by first | simp | exact List.mem_cons_self ..)) Aa a2 a3 (itemCells EI a.1) ⟨a1, by rfl, HAA.out⟩ HFL.out.1 (HCA.out _ RSX.below) (itemCells_one _) (by unfold maxLen; omega) (by omega) ?_
               intro v3 w3 g3 hr hg hF
               rw [Nat.zero_add, List.nil_append] at hr
               have HS := hidp (RS.grow (A := []) RSX hr hg hF)
               obtain ⟨s3, c3, hv3⟩ := Row.len hr
               subst hv3
               have k0 := (RS.at HS.out (b := b8) (vs := [.slice a1 a2 a3, .slice a4 a5 a6, .int .i64 ac]) (by simp)).cell 0 rfl
               have k1 := (RS.at HS.out (b := b9) (vs := [.slice b1 b2 b3, .slice b4 b5 b6, .int .i64 bc]) (by simp)).cell 0 rfl
               have k2 := (RS.at HS.out (b := b10) (vs := [.int .i64 m.1, .int .i64 m.2]) (by simp)).cell 0 rfl
               have k3 := (RS.at HS.out (b := b10) (vs := [.int .i64 m.1, .int .i64 m.2]) (by simp)).cell 1 rfl
               clear hr hg hF RSX)
            | (have RSX := HS.out.box [.int .i64 m.1, .int .i64 m.2] 35
               refine step_any (by rfl) _ _ _ (by rfl) 35 i0 _ 2 16 Try.underlying22 HI0.out HZ0.out HZ1.out HZ2.out (by rfl) (by decide) (.slice s3 a2 c3) a2 (itemCells EI a.1) g3 (by rfl) (RSX.row ⟨2, (.slice s3 a2 c3), a2, (itemCells EI a.1), g3⟩ (by first | simp | exact List.mem_cons_self ..)) ⟨w3.heap.size, 0, none⟩ 1 1 [.int .i64 m.1, .int .i64 m.2] ⟨_, by rfl, fun _ => by rfl⟩ (by rfl) (fun q u hq => by rw [Addr.add_lit, Nat.zero_add]; exact (RSX.at (b := w3.heap.size) (vs := [.int .i64 m.1, .int .i64 m.2]) (by first | simp | exact List.mem_cons_self ..)).cell q hq) (by simp [Value.oneCell']) (by unfold maxLen; omega) (by omega) ?_
               intro v4 w4 g4 hr hg hF
               have HS := hidp (RS.grow (A := []) RSX hr hg hF)
               obtain ⟨s4, c4, hv4⟩ := Row.len hr
               subst hv4
               have k0 := (RS.at HS.out (b := b8) (vs := [.slice a1 a2 a3, .slice a4 a5 a6, .int .i64 ac]) (by simp)).cell 0 rfl
               have k1 := (RS.at HS.out (b := b9) (vs := [.slice b1 b2 b3, .slice b4 b5 b6, .int .i64 bc]) (by simp)).cell 0 rfl
               have k2 := (RS.at HS.out (b := b10) (vs := [.int .i64 m.1, .int .i64 m.2]) (by simp)).cell 0 rfl
               have k3 := (RS.at HS.out (b := b10) (vs := [.int .i64 m.1, .int .i64 m.2]) (by simp)).cell 1 rfl
               clear hr hg hF RSX)
            | (have RSX := HS.out
               refine step_any (by rfl) _ _ _ (by rfl) 35 i0 _ 2 16 Try.underlying22 HI0.out HZ0.out HZ1.out HZ2.out (by rfl) (by decide) (.slice s3 a2 c3) a2 (itemCells EI a.1) g3 (by rfl) (RSX.row ⟨2, (.slice s3 a2 c3), a2, (itemCells EI a.1), g3⟩ (by first | simp | exact List.mem_cons_self ..)) ⟨(wc.heap.size + 1), 0, none⟩ 1 1 [.int .i64 m.1, .int .i64 m.2] ⟨_, by rfl, fun _ => by rfl⟩ (by rfl) (fun q u hq => by rw [Addr.add_lit, Nat.zero_add]; exact (RSX.at (b := (wc.heap.size + 1)) (vs := [.int .i64 m.1, .int .i64 m.2]) (by first | simp | exact List.mem_cons_self ..)).cell q hq) (by simp [Value.oneCell']) (by unfold maxLen; omega) (by omega) ?_
               intro v4 w4 g4 hr hg hF
               have HS := hidp (RS.grow (A := []) RSX hr hg hF)
               obtain ⟨s4, c4, hv4⟩ := Row.len hr
               subst hv4
               have k0 := (RS.at HS.out (b := b8) (vs := [.slice a1 a2 a3, .slice a4 a5 a6, .int .i64 ac]) (by simp)).cell 0 rfl
               have k1 := (RS.at HS.out (b := b9) (vs := [.slice b1 b2 b3, .slice b4 b5 b6, .int .i64 bc]) (by simp)).cell 0 rfl
               have k2 := (RS.at HS.out (b := b10) (vs := [.int .i64 m.1, .int .i64 m.2]) (by simp)).cell 0 rfl
               have k3 := (RS.at HS.out (b := b10) (vs := [.int .i64 m.1, .int .i64 m.2]) (by simp)).cell 1 rfl
               clear hr hg hF RSX)
            | (have RSX := HS.out
               refine step_any (by rfl) _ _ _ (by rfl) 35 i0 _ 2 16 Try.underlying22 HI0.out HZ0.out HZ1.out HZ2.out (by rfl) (by decide) (.slice s3 a2 c3) a2 (itemCells EI a.1) g3 (by rfl) (RSX.row ⟨2, (.slice s3 a2 c3), a2, (itemCells EI a.1), g3⟩ (by first | simp | exact List.mem_cons_self ..)) ⟨wc.heap.size, 0, none⟩ 1 1 [.int .i64 m.1, .int .i64 m.2] ⟨_, by rfl, fun _ => by rfl⟩ (by rfl) (fun q u hq => by rw [Addr.add_lit, Nat.zero_add]; exact (RSX.at (b := wc.heap.size) (vs := [.int .i64 m.1, .int .i64 m.2]) (by first | simp | exact List.mem_cons_self ..)).cell q hq) (by simp [Value.oneCell']) (by unfold maxLen; omega) (by omega) ?_
               intro v4 w4 g4 hr hg hF
               have HS := hidp (RS.grow (A := []) RSX hr hg hF)
               obtain ⟨s4, c4, hv4⟩ := Row.len hr
               subst hv4
               have k0 := (RS.at HS.out (b := b8) (vs := [.slice a1 a2 a3, .slice a4 a5 a6, .int .i64 ac]) (by simp)).cell 0 rfl
               have k1 := (RS.at HS.out (b := b9) (vs := [.slice b1 b2 b3, .slice b4 b5 b6, .int .i64 bc]) (by simp)).cell 0 rfl
               have k2 := (RS.at HS.out (b := b10) (vs := [.int .i64 m.1, .int .i64 m.2]) (by simp)).cell 0 rfl
               have k3 := (RS.at HS.out (b := b10) (vs := [.int .i64 m.1, .int .i64 m.2]) (by simp)).cell 1 rfl
               clear hr hg hF RSX)
            | (have RSX := HS.out
               refine step_any (by rfl) _ _ _ (by rfl) 35 i0 _ 2 16 Try.underlying22 HI0.out HZ0.out HZ1.out HZ2.out (by rfl) (by decide) (.slice s4 (a2 + 1) c4) (a2 + 1) (itemCells EI a.1 ++ [.int .i64 m.1, .int .i64 m.2]) g4 (by rfl) (RSX.row ⟨2, (.slice s4 (a2 + 1) c4), (a2 + 1), (itemCells EI a.1 ++ [.int .i64 m.1, .int .i64 m.2]), g4⟩ (by first | simp | exact List.mem_cons_self ..)) Ab b2 b3 (itemCells EI b.1) ⟨b1, by rfl, HAB.out⟩ HFL.out.2.1 (HCB.out _ RSX.below) (itemCells_one _) (by unfold maxLen; omega) (by omega) ?_
               intro v5 w5 g5 hr hg hF
               have HS := hidp (RS.grow (A := []) RSX hr hg hF)
               obtain ⟨s5, c5, hv5⟩ := Row.len hr
               subst hv5
               have k0 := (RS.at HS.out (b := b8) (vs := [.slice a1 a2 a3, .slice a4 a5 a6, .int .i64 ac]) (by simp)).cell 0 rfl
               have k1 := (RS.at HS.out (b := b9) (vs := [.slice b1 b2 b3, .slice b4 b5 b6, .int .i64 bc]) (by simp)).cell 0 rfl
               have k2 := (RS.at HS.out (b := b10) (vs := [.int .i64 m.1, .int .i64 m.2]) (by simp)).cell 0 rfl
               have k3 := (RS.at HS.out (b := b10) (vs := [.int .i64 m.1, .int .i64 m.2]) (by simp)).cell 1 rfl
               clear hr hg hF RSX)))
        all_goals go_wp2_with fail
        all_goals go_meet
        all_goals
          have ex : itemCells EI a.1 ++ [Value.int .i64 m.1, Value.int .i64 m.2] ++ itemCells EI b.1 = itemCells EI (a.1 ++ m :: b.1) := by rw [itemCells_append, List.append_assoc]; rfl
          have h := HS.out
          rw [ex] at h
          exact ⟨s5, c5, g5, rfl, hidp (RS.sub h (by
            intro q hq
            simp only [List.mem_cons, List.not_mem_nil, or_false] at hq ⊢
            rcases hq with h | h | h | h | h <;> simp [h]) HB.out.nd)⟩
      case rest =>
        obtain ⟨s11, c11, g11, rfl, HB3⟩ := hcut
        clear k0 k1 k2 k3 HB
        have k0 := (RS.at HB3.out (b := b8) (vs := [.slice a1 a2 a3, .slice a4 a5 a6, .int .i64 ac]) (by simp)).cell 1 rfl
        have k1 := (RS.at HB3.out (b := b9) (vs := [.slice b1 b2 b3, .slice b4 b5 b6, .int .i64 bc]) (by simp)).cell 1 rfl
        go_upto_region 4 with (fail)
        go_cut [12] from 49 to 55 (fun u12 wx => ∃ s12 c12 g12, u12 = .slice s12 (a5 + b5) c12 ∧ Hid (Rb w (.slice (some ⟨ib, io, none⟩) P icap) (.slice (some ⟨kb, ko, none⟩) Q kcap) c b8 b9 b10 (.slice a1 a2 a3) (.slice a4 a5 a6) (.slice b1 b2 b3) (.slice b4 b5 b6) ac bc m [⟨3, .slice s12 (a5 + b5) c12, a5 + b5, kcells (La ++ Lb), g12⟩, ⟨2, .slice s11 (a2 + 1 + b2) c11, a2 + 1 + b2, itemCells EI (a.1 ++ m :: b.1), g11⟩] wx))
        case first =>
          go_region_held3 (fun w' => w'.cell? ⟨b8, 1, none⟩ = some (.slice a4 a5 a6) ∧ w'.cell? ⟨b9, 1, none⟩ = some (.slice b4 b5 b6)) (simp (maxDischargeDepth := 8) [*, World.cell?_alloc_some, World.cell?_setCell_far])
            ((first
              | (have RSX := RS.empty HB3.out.drew 3 25
                 refine step_any (by rfl) _ _ _ (by rfl) 25 i1 _ 3 56 Try.underlying23 HI1.out HY0.out HY1.out HY2.out (by rfl) (by decide) (.slice (some ⟨wc.heap.size, 0, none⟩) 0 0) 0 [] (some wc.heap.size) (by rfl) (RSX.row ⟨3, (.slice (some ⟨wc.heap.size, 0, none⟩) 0 0), 0, [], (some wc.heap.size)⟩ (by first | simp | exact List.mem_cons_self ..)) Ka a5 a6 (kcells La) ⟨a4, by rfl, HKKA.out⟩ HFL.out.2.2.1 (HDA.out _ RSX.below) (KL.one_cell HKA.out) (by unfold maxLen; omega) (by omega) ?_
                 intro v6 w6 g6 hr hg hF
                 rw [Nat.zero_add, List.nil_append] at hr
                 have HS := hidp (RS.grow (A := []) RSX hr hg hF)
                 obtain ⟨s6, c6, hv6⟩ := Row.len hr
                 subst hv6
                 have k0 := (RS.at HS.out (b := b8) (vs := [.slice a1 a2 a3, .slice a4 a5 a6, .int .i64 ac]) (by simp)).cell 1 rfl
                 have k1 := (RS.at HS.out (b := b9) (vs := [.slice b1 b2 b3, .slice b4 b5 b6, .int .i64 bc]) (by simp)).cell 1 rfl
                 clear hr hg hF RSX)
              | (have RSX := HS.out
                 refine step_any (by rfl) _ _ _ (by rfl) 25 i1 _ 3 56 Try.underlying23 HI1.out HY0.out HY1.out HY2.out (by rfl) (by decide) (.slice s6 a5 c6) a5 (kcells La) g6 (by rfl) (RSX.row ⟨3, (.slice s6 a5 c6), a5, (kcells La), g6⟩ (by first | simp | exact List.mem_cons_self ..)) Kb b5 b6 (kcells Lb) ⟨b4, by rfl, HKKB.out⟩ HFL.out.2.2.2 (HDB.out _ RSX.below) (KL.one_cell HKB.out) (by unfold maxLen; omega) (by omega) ?_
                 intro v7 w7 g7 hr hg hF
                 have HS := hidp (RS.grow (A := []) RSX hr hg hF)
                 obtain ⟨s7, c7, hv7⟩ := Row.len hr
                 subst hv7
                 have k0 := (RS.at HS.out (b := b8) (vs := [.slice a1 a2 a3, .slice a4 a5 a6, .int .i64 ac]) (by simp)).cell 1 rfl
                 have k1 := (RS.at HS.out (b := b9) (vs := [.slice b1 b2 b3, .slice b4 b5 b6, .int .i64 bc]) (by simp)).cell 1 rfl
                 clear hr hg hF RSX)))
          all_goals go_wp2_with fail
          all_goals go_meet
          all_goals
            have h := HS.out
            rw [← kcells_append] at h
            exact ⟨s7, c7, g7, rfl, hidp h⟩
        case rest =>
          obtain ⟨s12, c12, g12, rfl, HB4⟩ := hcut
          clear k0 k1 HB3
          have k0 := (RS.at HB4.out (b := b8) (vs := [.slice a1 a2 a3, .slice a4 a5 a6, .int .i64 ac]) (by simp)).cell 0 rfl
          have k1 := (RS.at HB4.out (b := b9) (vs := [.slice b1 b2 b3, .slice b4 b5 b6, .int .i64 bc]) (by simp)).cell 0 rfl
          have hlb8 := (RS.at HB4.out (b := b8) (vs := [.slice a1 a2 a3, .slice a4 a5 a6, .int .i64 ac]) (by simp)).1
          have hlb9 := (RS.at HB4.out (b := b9) (vs := [.slice b1 b2 b3, .slice b4 b5 b6, .int .i64 bc]) (by simp)).1
          have HB5 := hidp (HB4.out.box [.slice none 0 0, .slice none 0 0, .int .i64 0] 25)
          have hwa : IntKind.i64.wrap ((a2 : Int) + (b2 : Int)) = (a2 : Int) + (b2 : Int) := by rw [Last.i64_w, IntWalk.wrap64_in _ ⟨by omega, by omega⟩]
          have hwd : IntKind.i64.wrap (2 * (D : Int)) = 2 * (D : Int) := by rw [Last.i64_w, IntWalk.wrap64_in _ ⟨by omega, by omega⟩]
          have hwe : IntKind.i64.wrap (2 * (D : Int) - 1) = 2 * (D : Int) - 1 := by rw [Last.i64_w, IntWalk.wrap64_in _ ⟨by omega, by omega⟩]
          -- what came in
          have hfx : Flat 2 w (.slice (some ⟨ib, io, none⟩) P icap) P (itemCells EI t.1) := by
            have h9 := Its.toFlat HN.out.2.1
            rw [← HT.out.2.2.2.1] at h9
            exact h9
          have HFX := hidp hfx
          have HPT := hidp HT.out.2.2.2.1
          clear hfx
          by_cases hsum : (a2 : Int) + (b2 : Int) < 2 * (D : Int) - 1
          · go_wp2_with fail
            have k2 := (RS.at HB5.out (b := wc.heap.size) (vs := [.slice none 0 0, .slice none 0 0, .int .i64 0]) (by simp)).cell 0 rfl
            have k3 := (RS.at HB5.out (b := w.heap.size) (vs := [.slice (some ⟨ib, io, none⟩) P icap, .slice (some ⟨kb, ko, none⟩) Q kcap, .int .i64 c]) (by simp)).cell 0 rfl
            have k2f := (RS.at HB5.out (b := wc.heap.size) (vs := [.slice none 0 0, .slice none 0 0, .int .i64 0]) (by simp)).froz 0 (v := .slice none 0 0) rfl
            have hl13 := (RS.at HB5.out (b := wc.heap.size) (vs := [.slice none 0 0, .slice none 0 0, .int .i64 0]) (by simp)).1
            generalize (wc.alloc (.cells #[.slice none 0 0, .slice none 0 0, .int .i64 0] 25)) = w5 at HB5 k2 k3 k2f hl13 ⊢
            generalize wc.heap.size = b13 at HB5 k2 k3 k2f hl13 ⊢
            clear k0 k1 hwa hwd hwe HB4 hlb8 hlb9
            have j5 : (j : Int) ≤ (icap : Int) := by omega
            have j6 : (j : Int) + 1 ≤ (P : Int) := by omega
            have j7 : (0 : Int) ≤ (j : Int) + 1 := by omega
            have HTK : Hid (∀ wr : World, Below w.heap.size w wr → ∀ q u, (itemCells EI (t.1.take j))[q]? = some u → wr.cell? ((⟨ib, io, none⟩ : Addr).add q) = some u) := hidp fun wr hbw q u hq => by
              obtain ⟨A0, hA0, hsrc⟩ := Flat.src HFX.out
              obtain rfl := Option.some.inj (hA0 (by omega))
              refine hsrc wr hbw q u ?_
              rw [← itemCells_take (E := EI), List.getElem?_take] at hq
              split at hq
              · exact hq
              · cases hq
            have HDR : Hid (∀ wr : World, Below w.heap.size w wr → ∀ q u, (itemCells EI (t.1.drop (j + 1)))[q]? = some u → wr.cell? ((⟨ib, io + (j + 1) * 2, none⟩ : Addr).add q) = some u) := hidp fun wr hbw q u hq => by
              obtain ⟨A0, hA0, hsrc⟩ := Flat.src HFX.out
              obtain rfl := Option.some.inj (hA0 (by omega))
              rw [← itemCells_drop (E := EI), List.getElem?_drop] at hq
              have h9 := hsrc wr hbw _ u hq
              rw [Addr.add_lit] at h9 ⊢
              rw [Nat.add_assoc]
              exact h9
            refine Last.start_ (S := fun w' => w'.cell? ⟨b13, 0, none⟩ = some (.slice none 0 0) ∧ w'.cell? ⟨w.heap.size, 0, none⟩ = some (.slice (some ⟨ib, io, none⟩) P icap)) (ds := [14]) #[Z,Z,Z,Z,Z,Z,Z,Z,Z,Z,Z,Z,Z,Z,Z] (by rfl) (by rfl) (by rfl) ?_ (fun hHeld => ?_)
            · go_keep
            refine Last.tk 0 68 #[Y,Z,Z,Z,Z,Z,Z,Z,Z,Z,Z,Z,Z,Z,Z] rfl rfl hHeld ?_
            refine Last.tk 1 69 #[Y,Y,Z,Z,Z,Z,Z,Z,Z,Z,Z,Z,Z,Z,Z] rfl rfl hHeld ?_
            refine Last.tk 2 70 #[Y,Y,Y,Z,Z,Z,Z,Z,Z,Z,Z,Z,Z,Z,Z] rfl rfl hHeld ?_
            refine Last.tk 3 71 #[Y,Y,Y,Y,Z,Z,Z,Z,Z,Z,Z,Z,Z,Z,Z] rfl rfl hHeld ?_
            refine Last.tk 4 72 #[Y,Y,Y,Y,Y,Z,Z,Z,Z,Z,Z,Z,Z,Z,Z] rfl rfl hHeld ?_
            refine Last.tk 5 73 #[Y,Y,Y,Y,Y,Y,Z,Z,Z,Z,Z,Z,Z,Z,Z] rfl rfl hHeld ?_
            refine Last.tk 7 75 #[Y,Y,Y,Y,Y,Y,Z,Y,Z,Z,Z,Z,Z,Z,Z] rfl rfl hHeld ?_
            refine Last.tk 8 76 #[Y,Y,Y,Y,Y,Y,Z,Y,Y,Z,Z,Z,Z,Z,Z] rfl rfl hHeld ?_
            refine Last.tk 9 77 #[Y,Y,Y,Y,Y,Y,Z,Y,Y,Y,Z,Z,Z,Z,Z] rfl rfl hHeld ?_
            refine Last.tk 10 78 #[Y,Y,Y,Y,Y,Y,Z,Y,Y,Y,Y,Z,Z,Z,Z] rfl rfl hHeld ?_
            refine Last.tk 11 79 #[Y,Y,Y,Y,Y,Y,Z,Y,Y,Y,Y,Y,Z,Z,Z] rfl rfl hHeld ?_
            refine Last.one_ (i := 6) (N := some 74) #[Y,Y,Y,Y,Y,Y,Y,Y,Y,Y,Y,Y,Z,Z,Z] rfl rfl (by kernel_rfl) (by decide) (fun K hK => ?_)
            first
            | (have RSX := RS.nil HB5.out.drew 2
               refine step_any (by rfl) _ _ _ (by rfl) 35 i0 _ 2 16 Try.underlying22 HI0.out HZ0.out HZ1.out HZ2.out (by rfl) (by decide) (.slice none 0 0) 0 [] none (by rfl) (RSX.row ⟨2, (.slice none 0 0), 0, [], none⟩ (by first | simp | exact List.mem_cons_self ..)) ⟨ib, io, none⟩ j icap (itemCells EI (t.1.take j)) ⟨_, by rfl, fun _ => by rfl⟩ (by rw [itemCells_length, List.length_take, Nat.min_eq_left (by have h9 := HPT.out; omega)]; rfl) (HTK.out _ RSX.below) (itemCells_one _) (by unfold maxLen; omega) (by omega) ?_
               intro v21 w21 g21 hr hg hF
               rw [Nat.zero_add, List.nil_append] at hr
               have HS := hidp (RS.grow (A := []) RSX hr hg hF)
               obtain ⟨s21, c21, hv21⟩ := Row.len hr
               subst hv21
               have k2 := (RS.at HS.out (b := b13) (vs := [.slice none 0 0, .slice none 0 0, .int .i64 0]) (by simp)).cell 0 rfl
               have k3 := (RS.at HS.out (b := w.heap.size) (vs := [.slice (some ⟨ib, io, none⟩) P icap, .slice (some ⟨kb, ko, none⟩) Q kcap, .int .i64 c]) (by simp)).cell 0 rfl
               have k2f := (RS.at HS.out (b := b13) (vs := [.slice none 0 0, .slice none 0 0, .int .i64 0]) (by simp)).froz 0 (v := .slice none 0 0) rfl
               have hl13 := (RS.at HS.out (b := b13) (vs := [.slice none 0 0, .slice none 0 0, .int .i64 0]) (by simp)).1
               clear hr hg hF RSX)
            | (have RSX := HS.out
               refine step_any (by rfl) _ _ _ (by rfl) 35 i0 _ 2 16 Try.underlying22 HI0.out HZ0.out HZ1.out HZ2.out (by rfl) (by decide) (.slice s21 j c21) j (itemCells EI (t.1.take j)) g21 (by rfl) (RSX.row ⟨2, (.slice s21 j c21), j, (itemCells EI (t.1.take j)), g21⟩ (by first | simp | exact List.mem_cons_self ..)) ⟨ib, io + (j + 1) * 2, none⟩ (P - (j + 1)) (icap - (j + 1)) (itemCells EI (t.1.drop (j + 1))) ⟨_, by rfl, fun hm => by first | rfl | exact if_neg (by omega) | simp⟩ (by rw [itemCells_length, List.length_drop, ← HPT.out]; rfl) (HDR.out _ RSX.below) (itemCells_one _) (by unfold maxLen; omega) (by omega) ?_
               intro v22 w22 g22 hr hg hF
               have HS := hidp (RS.grow (A := []) RSX hr hg hF)
               obtain ⟨s22, c22, hv22⟩ := Row.len hr
               subst hv22
               have k2 := (RS.at HS.out (b := b13) (vs := [.slice none 0 0, .slice none 0 0, .int .i64 0]) (by simp)).cell 0 rfl
               have k3 := (RS.at HS.out (b := w.heap.size) (vs := [.slice (some ⟨ib, io, none⟩) P icap, .slice (some ⟨kb, ko, none⟩) Q kcap, .int .i64 c]) (by simp)).cell 0 rfl
               have k2f := (RS.at HS.out (b := b13) (vs := [.slice none 0 0, .slice none 0 0, .int .i64 0]) (by simp)).froz 0 (v := .slice none 0 0) rfl
               have hl13 := (RS.at HS.out (b := b13) (vs := [.slice none 0 0, .slice none 0 0, .int .i64 0]) (by simp)).1
               clear hr hg hF RSX)
            refine hK.out _ _ ?_ (fun hHeld => ?_)
            · (try dsimp only); go_keep
            clear hK K
            try simp only [Act.put, setIfInBounds_toArray, set_cons_zero, set_cons_succ]
            refine Last.one_ (i := 12) (N := some 80) #[Y,Y,Y,Y,Y,Y,Y,Y,Y,Y,Y,Y,Y,Z,Z] rfl rfl (by kernel_rfl) (by decide) (fun K hK => ?_)
            first
            | (have RSX := RS.nil HB5.out.drew 2
               refine step_any (by rfl) _ _ _ (by rfl) 35 i0 _ 2 16 Try.underlying22 HI0.out HZ0.out HZ1.out HZ2.out (by rfl) (by decide) (.slice none 0 0) 0 [] none (by rfl) (RSX.row ⟨2, (.slice none 0 0), 0, [], none⟩ (by first | simp | exact List.mem_cons_self ..)) ⟨ib, io, none⟩ j icap (itemCells EI (t.1.take j)) ⟨_, by rfl, fun _ => by rfl⟩ (by rw [itemCells_length, List.length_take, Nat.min_eq_left (by have h9 := HPT.out; omega)]; rfl) (HTK.out _ RSX.below) (itemCells_one _) (by unfold maxLen; omega) (by omega) ?_
               intro v21 w21 g21 hr hg hF
               rw [Nat.zero_add, List.nil_append] at hr
               have HS := hidp (RS.grow (A := []) RSX hr hg hF)
               obtain ⟨s21, c21, hv21⟩ := Row.len hr
               subst hv21
               have k2 := (RS.at HS.out (b := b13) (vs := [.slice none 0 0, .slice none 0 0, .int .i64 0]) (by simp)).cell 0 rfl
               have k3 := (RS.at HS.out (b := w.heap.size) (vs := [.slice (some ⟨ib, io, none⟩) P icap, .slice (some ⟨kb, ko, none⟩) Q kcap, .int .i64 c]) (by simp)).cell 0 rfl
               have k2f := (RS.at HS.out (b := b13) (vs := [.slice none 0 0, .slice none 0 0, .int .i64 0]) (by simp)).froz 0 (v := .slice none 0 0) rfl
               have hl13 := (RS.at HS.out (b := b13) (vs := [.slice none 0 0, .slice none 0 0, .int .i64 0]) (by simp)).1
               clear hr hg hF RSX)
            | (have RSX := HS.out
               refine step_any (by rfl) _ _ _ (by rfl) 35 i0 _ 2 16 Try.underlying22 HI0.out HZ0.out HZ1.out HZ2.out (by rfl) (by decide) (.slice s21 j c21) j (itemCells EI (t.1.take j)) g21 (by rfl) (RSX.row ⟨2, (.slice s21 j c21), j, (itemCells EI (t.1.take j)), g21⟩ (by first | simp | exact List.mem_cons_self ..)) ⟨ib, io + (j + 1) * 2, none⟩ (P - (j + 1)) (icap - (j + 1)) (itemCells EI (t.1.drop (j + 1))) ⟨_, by rfl, fun hm => by first | rfl | exact if_neg (by omega) | simp⟩ (by rw [itemCells_length, List.length_drop, ← HPT.out]; rfl) (HDR.out _ RSX.below) (itemCells_one _) (by unfold maxLen; omega) (by omega) ?_
               intro v22 w22 g22 hr hg hF
               have HS := hidp (RS.grow (A := []) RSX hr hg hF)
               obtain ⟨s22, c22, hv22⟩ := Row.len hr
               subst hv22
               have k2 := (RS.at HS.out (b := b13) (vs := [.slice none 0 0, .slice none 0 0, .int .i64 0]) (by simp)).cell 0 rfl
               have k3 := (RS.at HS.out (b := w.heap.size) (vs := [.slice (some ⟨ib, io, none⟩) P icap, .slice (some ⟨kb, ko, none⟩) Q kcap, .int .i64 c]) (by simp)).cell 0 rfl
               have k2f := (RS.at HS.out (b := b13) (vs := [.slice none 0 0, .slice none 0 0, .int .i64 0]) (by simp)).froz 0 (v := .slice none 0 0) rfl
               have hl13 := (RS.at HS.out (b := b13) (vs := [.slice none 0 0, .slice none 0 0, .int .i64 0]) (by simp)).1
               clear hr hg hF RSX)
            refine hK.out _ _ ?_ (fun hHeld => ?_)
            · (try dsimp only); go_keep
            clear hK K
            try simp only [Act.put, setIfInBounds_toArray, set_cons_zero, set_cons_succ]
            refine Last.tk 13 81 #[Y,Y,Y,Y,Y,Y,Y,Y,Y,Y,Y,Y,Y,Y,Z] rfl rfl hHeld ?_
            refine Last.last_ (i := 14) (N := none) #[Y,Y,Y,Y,Y,Y,Y,Y,Y,Y,Y,Y,Y,Y,Y] rfl rfl (by kernel_rfl) (by decide) (fun K hK => ?_)
            go_simp
            refine hK.out _ _ ?_
            clear hK K
            try simp only [Act.put, setIfInBounds_toArray, set_cons_zero, set_cons_succ]
            refine Last.done_ (by kernel_rfl) ?_
            have hu7 := Upd.one w22 (b := b13) (o := 0) (.slice s22 (j + (P - (j + 1))) c22) (by rw [M_of k2 k2f]; rfl)
            have HB7 := hidp (RS.put (A := []) HS.out hu7.fr (Bx.set (RS.at HS.out (b := b13) (vs := [.slice none 0 0, .slice none 0 0, .int .i64 0]) (by simp)) hu7))
            clear hu7 k2 k3 k2f hl13 HS HB5 HTK HDR
            generalize (w22.setCell ⟨b13, 0, none⟩ (.slice s22 (j + (P - (j + 1))) c22)) = w7 at HB7 ⊢
            obtain ⟨Lx, hLx, hgx⟩ := NodeAt.kids HN.out
            have hgx : Flat 3 w (.slice (some ⟨kb, ko, none⟩) Q kcap) Q (kcells Lx) := by rw [HT.out.2.2.2.2.1] at hgx ⊢; exact hgx
            have HKX := hidp hLx
            have HGX := hidp hgx
            clear hLx hgx
            have HTKK : Hid (∀ wr : World, Below w.heap.size w wr → ∀ q u, (kcells (Lx.take j))[q]? = some u → wr.cell? ((⟨kb, ko, none⟩ : Addr).add q) = some u) := hidp fun wr hbw q u hq => by
              obtain ⟨A0, hA0, hsrc⟩ := Flat.src HGX.out
              obtain rfl := Option.some.inj (hA0 (by omega))
              refine hsrc wr hbw q u ?_
              rw [← kcells_take, List.getElem?_take] at hq
              split at hq
              · exact hq
              · cases hq
            have HDRK : Hid (∀ wr : World, Below w.heap.size w wr → ∀ q u, (kcells (Lx.drop (j + 2)))[q]? = some u → wr.cell? ((⟨kb, ko + (j + 2) * 3, none⟩ : Addr).add q) = some u) := hidp fun wr hbw q u hq => by
              obtain ⟨A0, hA0, hsrc⟩ := Flat.src HGX.out
              obtain rfl := Option.some.inj (hA0 (by omega))
              rw [← kcells_drop, List.getElem?_drop] at hq
              have h9 := hsrc wr hbw _ u hq
              rw [Addr.add_lit] at h9 ⊢
              rw [Nat.add_assoc]
              exact h9
            have k2 := (RS.at HB7.out (b := b13) (vs := [.slice s22 (j + (P - (j + 1))) c22, .slice none 0 0, .int .i64 0]) (by simp)).cell 1 rfl
            have k3 := (RS.at HB7.out (b := w.heap.size) (vs := [.slice (some ⟨ib, io, none⟩) P icap, .slice (some ⟨kb, ko, none⟩) Q kcap, .int .i64 c]) (by simp)).cell 1 rfl
            have k2f := (RS.at HB7.out (b := b13) (vs := [.slice s22 (j + (P - (j + 1))) c22, .slice none 0 0, .int .i64 0]) (by simp)).froz 1 (v := .slice none 0 0) rfl
            have hl13 := (RS.at HB7.out (b := b13) (vs := [.slice s22 (j + (P - (j + 1))) c22, .slice none 0 0, .int .i64 0]) (by simp)).1
            have k8 : (j : Int) ≤ (kcap : Int) := by omega
            generalize (if icap = j + 1 then (some ⟨ib, io, none⟩ : Option Addr) else some ⟨ib, io + (j + 1) * 2, none⟩) = zz7
            go_wp2_with fail
            refine Last.start_ (S := fun w' => w'.cell? ⟨b13, 1, none⟩ = some (.slice none 0 0) ∧ w'.cell? ⟨w.heap.size, 1, none⟩ = some (.slice (some ⟨kb, ko, none⟩) Q kcap)) (ds := [13]) #[Z,Z,Z,Z,Z,Z,Z,Z,Z,Z,Z,Z,Z,Z] (by rfl) (by rfl) (by rfl) ?_ (fun hHeld => ?_)
            · go_keep
            refine Last.tk 0 82 #[Y,Z,Z,Z,Z,Z,Z,Z,Z,Z,Z,Z,Z,Z] rfl rfl hHeld ?_
            refine Last.tk 1 83 #[Y,Y,Z,Z,Z,Z,Z,Z,Z,Z,Z,Z,Z,Z] rfl rfl hHeld ?_
            refine Last.tk 2 84 #[Y,Y,Y,Z,Z,Z,Z,Z,Z,Z,Z,Z,Z,Z] rfl rfl hHeld ?_
            refine Last.tk 3 85 #[Y,Y,Y,Y,Z,Z,Z,Z,Z,Z,Z,Z,Z,Z] rfl rfl hHeld ?_
            refine Last.tk 4 86 #[Y,Y,Y,Y,Y,Z,Z,Z,Z,Z,Z,Z,Z,Z] rfl rfl hHeld ?_
            refine Last.tk 5 87 #[Y,Y,Y,Y,Y,Y,Z,Z,Z,Z,Z,Z,Z,Z] rfl rfl hHeld ?_
            refine Last.tk 7 89 #[Y,Y,Y,Y,Y,Y,Z,Y,Z,Z,Z,Z,Z,Z] rfl rfl hHeld ?_
            refine Last.tk 8 90 #[Y,Y,Y,Y,Y,Y,Z,Y,Y,Z,Z,Z,Z,Z] rfl rfl hHeld ?_
            refine Last.tk 9 91 #[Y,Y,Y,Y,Y,Y,Z,Y,Y,Y,Z,Z,Z,Z] rfl rfl hHeld ?_
            refine Last.join_ (σ := Option Addr × Nat × Option Nat × Nat) 3 #[Y,Y,Y,Y,Y,Y,Y,Y,Y,Y,Y,Z,Z,Z] (fun s => [(88, .slice s.1 j s.2.1), (92, .slice (some ⟨s.2.2.2, 0, none⟩) 1 1)]) (fun s W => RS w ((s.2.2.2, [.slice s11 (a2 + 1 + b2) c11, .slice s12 (a5 + b5) c12, .int .i64 0]) :: (b13, [.slice s22 (j + (P - (j + 1))) c22, .slice none 0 0, .int .i64 0]) :: [(b8, [.slice a1 a2 a3, .slice a4 a5 a6, .int .i64 ac]), (b9, [.slice b1 b2 b3, .slice b4 b5 b6, .int .i64 bc]), (b10, [.int .i64 m.1, .int .i64 m.2]), (w.heap.size + 1, [.slice none 0 0, .slice none 0 0, .int .i64 0]), (w.heap.size, [.slice (some ⟨ib, io, none⟩) P icap, .slice (some ⟨kb, ko, none⟩) Q kcap, .int .i64 c])]) [⟨3, .slice s.1 j s.2.1, j, (kcells (Lx.take j)), s.2.2.1⟩, ⟨2, .slice s22 (j + (P - (j + 1))) c22, j + (P - (j + 1)), itemCells EI (t.1.take j) ++ itemCells EI (t.1.drop (j + 1)), g22⟩, ⟨3, .slice s12 (a5 + b5) c12, a5 + b5, kcells (La ++ Lb), g12⟩, ⟨2, .slice s11 (a2 + 1 + b2) c11, a2 + 1 + b2, itemCells EI (a.1 ++ m :: b.1), g11⟩] W) (fun s wj hRj => ?_) (fun hcont => ?_)
            rotate_left
            · refine Last.two_ (i := 6) (j := 10) (Ni := some 88) (Nj := some 92) #[Y,Y,Y,Y,Y,Y,Y,Y,Y,Y,Z,Z,Z,Z] #[Y,Y,Y,Y,Y,Y,Z,Y,Y,Y,Y,Z,Z,Z] rfl rfl rfl rfl (by kernel_rfl) (by decide) (by decide) (fun K hK => ?_) (fun K hK => ?_)
              · have RSX := RS.nil HB7.out.drew 3
                refine step_any (by rfl) _ _ _ (by rfl) 25 i1 _ 3 56 Try.underlying23 HI1.out HY0.out HY1.out HY2.out (by rfl) (by decide) (.slice none 0 0) 0 [] none (by rfl) (RSX.row ⟨3, (.slice none 0 0), 0, [], none⟩ (by first | simp | exact List.mem_cons_self ..)) ⟨kb, ko, none⟩ j kcap (kcells (Lx.take j)) ⟨_, by rfl, fun _ => by rfl⟩ (by rw [kcells_length, List.length_take, Nat.min_eq_left (by have h9 := HKX.out.1; have h8 := HT.out.2.2.2.2.1; omega)]) (HTKK.out _ RSX.below) (KL.one_cell (HKX.out.take j)) (by unfold maxLen; omega) (by omega) ?_
                intro v31 w31 g31 hr hg hF
                rw [Nat.zero_add, List.nil_append] at hr
                have HS := hidp (RS.grow (A := []) RSX hr hg hF)
                obtain ⟨s31, c31, hv31⟩ := Row.len hr
                subst hv31
                have k2 := (RS.at HS.out (b := b13) (vs := [.slice s22 (j + (P - (j + 1))) c22, .slice none 0 0, .int .i64 0]) (by simp)).cell 1 rfl
                have k3 := (RS.at HS.out (b := w.heap.size) (vs := [.slice (some ⟨ib, io, none⟩) P icap, .slice (some ⟨kb, ko, none⟩) Q kcap, .int .i64 c]) (by simp)).cell 1 rfl
                have k2f := (RS.at HS.out (b := b13) (vs := [.slice s22 (j + (P - (j + 1))) c22, .slice none 0 0, .int .i64 0]) (by simp)).froz 1 (v := .slice none 0 0) rfl
                have hl13 := (RS.at HS.out (b := b13) (vs := [.slice s22 (j + (P - (j + 1))) c22, .slice none 0 0, .int .i64 0]) (by simp)).1
                clear hr hg hF RSX
                refine hK.out _ _ ?_ (fun hHeld => ?_)
                · (try dsimp only); go_keep
                clear hK K
                try simp only [Act.put, setIfInBounds_toArray, set_cons_zero, set_cons_succ]
                refine Last.one_ (i := 10) (N := some 92) #[Y,Y,Y,Y,Y,Y,Y,Y,Y,Y,Y,Z,Z,Z] rfl rfl (by kernel_rfl) (by decide) (fun K hK => ?_)
                go_simp
                have HS0 := hidp (HS.out.box [.slice s11 (a2 + 1 + b2) c11, .slice s12 (a5 + b5) c12, .int .i64 0] 25)
                have k2 := (RS.at HS0.out (b := b13) (vs := [.slice s22 (j + (P - (j + 1))) c22, .slice none 0 0, .int .i64 0]) (by simp)).cell 1 rfl
                have k3 := (RS.at HS0.out (b := w.heap.size) (vs := [.slice (some ⟨ib, io, none⟩) P icap, .slice (some ⟨kb, ko, none⟩) Q kcap, .int .i64 c]) (by simp)).cell 1 rfl
                have k2f := (RS.at HS0.out (b := b13) (vs := [.slice s22 (j + (P - (j + 1))) c22, .slice none 0 0, .int .i64 0]) (by simp)).froz 1 (v := .slice none 0 0) rfl
                have hl13 := (RS.at HS0.out (b := b13) (vs := [.slice s22 (j + (P - (j + 1))) c22, .slice none 0 0, .int .i64 0]) (by simp)).1
                refine hK.out _ _ ?_ (fun hHeld => ?_)
                · (try dsimp only); go_keep
                clear hK K
                try simp only [Act.put, setIfInBounds_toArray, set_cons_zero, set_cons_succ]
                exact hcont (s31, c31, g31, w31.heap.size) _ HS0.out
              · go_simp
                have HS0 := hidp (HB7.out.drew.box [.slice s11 (a2 + 1 + b2) c11, .slice s12 (a5 + b5) c12, .int .i64 0] 25)
                have k2 := (RS.at HS0.out (b := b13) (vs := [.slice s22 (j + (P - (j + 1))) c22, .slice none 0 0, .int .i64 0]) (by simp)).cell 1 rfl
                have k3 := (RS.at HS0.out (b := w.heap.size) (vs := [.slice (some ⟨ib, io, none⟩) P icap, .slice (some ⟨kb, ko, none⟩) Q kcap, .int .i64 c]) (by simp)).cell 1 rfl
                have k2f := (RS.at HS0.out (b := b13) (vs := [.slice s22 (j + (P - (j + 1))) c22, .slice none 0 0, .int .i64 0]) (by simp)).froz 1 (v := .slice none 0 0) rfl
                have hl13 := (RS.at HS0.out (b := b13) (vs := [.slice s22 (j + (P - (j + 1))) c22, .slice none 0 0, .int .i64 0]) (by simp)).1
                refine hK.out _ _ ?_ (fun hHeld => ?_)
                · (try dsimp only); go_keep
                clear hK K
                try simp only [Act.put, setIfInBounds_toArray, set_cons_zero, set_cons_succ]
                refine Last.one_ (i := 6) (N := some 88) #[Y,Y,Y,Y,Y,Y,Y,Y,Y,Y,Y,Z,Z,Z] rfl rfl (by kernel_rfl) (by decide) (fun K hK => ?_)
                have RSX := RS.nil HS0.out 3
                refine step_any (by rfl) _ _ _ (by rfl) 25 i1 _ 3 56 Try.underlying23 HI1.out HY0.out HY1.out HY2.out (by rfl) (by decide) (.slice none 0 0) 0 [] none (by rfl) (RSX.row ⟨3, (.slice none 0 0), 0, [], none⟩ (by first | simp | exact List.mem_cons_self ..)) ⟨kb, ko, none⟩ j kcap (kcells (Lx.take j)) ⟨_, by rfl, fun _ => by rfl⟩ (by rw [kcells_length, List.length_take, Nat.min_eq_left (by have h9 := HKX.out.1; have h8 := HT.out.2.2.2.2.1; omega)]) (HTKK.out _ RSX.below) (KL.one_cell (HKX.out.take j)) (by unfold maxLen; omega) (by omega) ?_
                intro v31 w31 g31 hr hg hF
                rw [Nat.zero_add, List.nil_append] at hr
                have HS := hidp (RS.grow (A := []) RSX hr hg hF)
                obtain ⟨s31, c31, hv31⟩ := Row.len hr
                subst hv31
                have k2 := (RS.at HS.out (b := b13) (vs := [.slice s22 (j + (P - (j + 1))) c22, .slice none 0 0, .int .i64 0]) (by simp)).cell 1 rfl
                have k3 := (RS.at HS.out (b := w.heap.size) (vs := [.slice (some ⟨ib, io, none⟩) P icap, .slice (some ⟨kb, ko, none⟩) Q kcap, .int .i64 c]) (by simp)).cell 1 rfl
                have k2f := (RS.at HS.out (b := b13) (vs := [.slice s22 (j + (P - (j + 1))) c22, .slice none 0 0, .int .i64 0]) (by simp)).froz 1 (v := .slice none 0 0) rfl
                have hl13 := (RS.at HS.out (b := b13) (vs := [.slice s22 (j + (P - (j + 1))) c22, .slice none 0 0, .int .i64 0]) (by simp)).1
                clear hr hg hF RSX
                refine hK.out _ _ ?_ (fun hHeld => ?_)
                · (try dsimp only); go_keep
                clear hK K
                try simp only [Act.put, setIfInBounds_toArray, set_cons_zero, set_cons_succ]
                exact hcont (s31, c31, g31, w7.heap.size) _ HS.out
            obtain ⟨s31, c31, g31, nb⟩ := s
            try simp only [Last.putAll, Act.put, List.setIfInBounds_toArray, List.set_cons_zero, List.set_cons_succ]
            have HS := hidp hRj
            have k2 := (RS.at hRj (b := b13) (vs := [.slice s22 (j + (P - (j + 1))) c22, .slice none 0 0, .int .i64 0]) (by simp)).cell 1 rfl
            have k3 := (RS.at hRj (b := w.heap.size) (vs := [.slice (some ⟨ib, io, none⟩) P icap, .slice (some ⟨kb, ko, none⟩) Q kcap, .int .i64 c]) (by simp)).cell 1 rfl
            have k2f := (RS.at hRj (b := b13) (vs := [.slice s22 (j + (P - (j + 1))) c22, .slice none 0 0, .int .i64 0]) (by simp)).froz 1 (v := .slice none 0 0) rfl
            have hl13 := (RS.at hRj (b := b13) (vs := [.slice s22 (j + (P - (j + 1))) c22, .slice none 0 0, .int .i64 0]) (by simp)).1
            have hHeld : (fun w' => w'.cell? ⟨b13, 1, none⟩ = some (.slice none 0 0) ∧ w'.cell? ⟨w.heap.size, 1, none⟩ = some (.slice (some ⟨kb, ko, none⟩) Q kcap)) wj := ⟨k2, k3⟩
            clear hRj
            refine Last.one_ (i := 11) (N := some 93) #[Y,Y,Y,Y,Y,Y,Y,Y,Y,Y,Y,Y,Z,Z] rfl rfl (by kernel_rfl) (by decide) (fun K hK => ?_)
            have RSX := HS.out
            refine step_any (by rfl) _ _ _ (by rfl) 25 i1 _ 3 56 Try.underlying23 HI1.out HY0.out HY1.out HY2.out (by rfl) (by decide) (.slice s31 j c31) j (kcells (Lx.take j)) g31 (by rfl) (RSX.row ⟨3, (.slice s31 j c31), j, (kcells (Lx.take j)), g31⟩ (by first | simp | exact List.mem_cons_self ..)) ⟨nb, 0, none⟩ 1 1 [.slice s11 (a2 + 1 + b2) c11, .slice s12 (a5 + b5) c12, .int .i64 0] ⟨_, by rfl, fun _ => by rfl⟩ (by rfl) (fun q u hq => by rw [Addr.add_lit, Nat.zero_add]; exact (RSX.at (b := nb) (vs := [.slice s11 (a2 + 1 + b2) c11, .slice s12 (a5 + b5) c12, .int .i64 0]) (by first | simp | exact List.mem_cons_self ..)).cell q hq) (by simp [Value.oneCell']) (by unfold maxLen; omega) (by omega) ?_
            intro v32 w32 g32 hr hg hF
            have HS := hidp (RS.grow (A := []) RSX hr hg hF)
            obtain ⟨s32, c32, hv32⟩ := Row.len hr
            subst hv32
            have k2 := (RS.at HS.out (b := b13) (vs := [.slice s22 (j + (P - (j + 1))) c22, .slice none 0 0, .int .i64 0]) (by simp)).cell 1 rfl
            have k3 := (RS.at HS.out (b := w.heap.size) (vs := [.slice (some ⟨ib, io, none⟩) P icap, .slice (some ⟨kb, ko, none⟩) Q kcap, .int .i64 c]) (by simp)).cell 1 rfl
            have k2f := (RS.at HS.out (b := b13) (vs := [.slice s22 (j + (P - (j + 1))) c22, .slice none 0 0, .int .i64 0]) (by simp)).froz 1 (v := .slice none 0 0) rfl
            have hl13 := (RS.at HS.out (b := b13) (vs := [.slice s22 (j + (P - (j + 1))) c22, .slice none 0 0, .int .i64 0]) (by simp)).1
            clear hr hg hF RSX
            refine hK.out _ _ ?_ (fun hHeld => ?_)
            · (try dsimp only); go_keep
            clear hK K
            try simp only [Act.put, setIfInBounds_toArray, set_cons_zero, set_cons_succ]
            refine Last.tk 12 94 #[Y,Y,Y,Y,Y,Y,Y,Y,Y,Y,Y,Y,Y,Z] rfl rfl hHeld ?_
            refine Last.last_ (i := 13) (N := none) #[Y,Y,Y,Y,Y,Y,Y,Y,Y,Y,Y,Y,Y,Y] rfl rfl (by kernel_rfl) (by decide) (fun K hK => ?_)
            go_simp
            refine hK.out _ _ ?_
            clear hK K
            try simp only [Act.put, setIfInBounds_toArray, set_cons_zero, set_cons_succ]
            refine Last.done_ (by kernel_rfl) ?_
            have hu8 := Upd.one w32 (b := b13) (o := 1) (.slice s32 (j + 1) c32) (by rw [M_of k2 k2f]; rfl)
            have h8 := RS.put (A := [(nb, [.slice s11 (a2 + 1 + b2) c11, .slice s12 (a5 + b5) c12, .int .i64 0])]) HS.out hu8.fr (Bx.set (RS.at HS.out (b := b13) (vs := [.slice s22 (j + (P - (j + 1))) c22, .slice none 0 0, .int .i64 0]) (by simp)) hu8)
            have HB8 := hidp (RS.sub (BX' := (b13, [.slice s22 (j + (P - (j + 1))) c22, .slice s32 (j + 1) c32, .int .i64 0]) :: [(b8, [.slice a1 a2 a3, .slice a4 a5 a6, .int .i64 ac]), (b9, [.slice b1 b2 b3, .slice b4 b5 b6, .int .i64 bc]), (b10, [.int .i64 m.1, .int .i64 m.2]), (w.heap.size + 1, [.slice none 0 0, .slice none 0 0, .int .i64 0]), (w.heap.size, [.slice (some ⟨ib, io, none⟩) P icap, .slice (some ⟨kb, ko, none⟩) Q kcap, .int .i64 c])]) h8 (fun q hq => List.mem_cons_of_mem _ hq) (List.nodup_cons.1 h8.nd).2)
            clear hu8 h8 k2 k3 k2f hl13 HS HB7 HTKK hHeld
            generalize (w32.setCell ⟨b13, 1, none⟩ (.slice s32 (j + 1) c32)) = w8 at HB8 ⊢
            have k2 := (RS.at HB8.out (b := b13) (vs := [.slice s22 (j + (P - (j + 1))) c22, .slice s32 (j + 1) c32, .int .i64 0]) (by simp)).cell 1 rfl
            have k3 := (RS.at HB8.out (b := w.heap.size) (vs := [.slice (some ⟨ib, io, none⟩) P icap, .slice (some ⟨kb, ko, none⟩) Q kcap, .int .i64 c]) (by simp)).cell 1 rfl
            have k2f := (RS.at HB8.out (b := b13) (vs := [.slice s22 (j + (P - (j + 1))) c22, .slice s32 (j + 1) c32, .int .i64 0]) (by simp)).froz 1 (v := .slice s32 (j + 1) c32) rfl
            have hl13 := (RS.at HB8.out (b := b13) (vs := [.slice s22 (j + (P - (j + 1))) c22, .slice s32 (j + 1) c32, .int .i64 0]) (by simp)).1
            have hwj2 : IntKind.i64.wrap ((j : Int) + 2) = (j : Int) + 2 := by rw [Last.i64_w, IntWalk.wrap64_in _ ⟨by omega, by omega⟩]
            have hQb : Q ≤ 4000001 := by have h9 := HKL.out; omega
            have k9 : (j : Int) + 2 ≤ (Q : Int) := by omega
            have k10 : (0 : Int) ≤ (j : Int) + 2 := by omega
            go_wp2_with fail
            refine Last.start_ (S := fun w' => w'.cell? ⟨b13, 1, none⟩ = some (.slice s32 (j + 1) c32) ∧ w'.cell? ⟨w.heap.size, 1, none⟩ = some (.slice (some ⟨kb, ko, none⟩) Q kcap)) (ds := [9]) #[Z,Z,Z,Z,Z,Z,Z,Z,Z,Z] (by rfl) (by rfl) (by rfl) ?_ (fun hHeld => ?_)
            · go_keep
            refine Last.tk 0 95 #[Y,Z,Z,Z,Z,Z,Z,Z,Z,Z] rfl rfl hHeld ?_
            refine Last.tk 1 96 #[Y,Y,Z,Z,Z,Z,Z,Z,Z,Z] rfl rfl hHeld ?_
            refine Last.tk 2 97 #[Y,Y,Y,Z,Z,Z,Z,Z,Z,Z] rfl rfl hHeld ?_
            refine Last.tk 3 98 #[Y,Y,Y,Y,Z,Z,Z,Z,Z,Z] rfl rfl hHeld ?_
            refine Last.tk 4 99 #[Y,Y,Y,Y,Y,Z,Z,Z,Z,Z] rfl rfl hHeld ?_
            refine Last.tk 5 100 #[Y,Y,Y,Y,Y,Y,Z,Z,Z,Z] rfl rfl hHeld ?_
            refine Last.tk 6 101 #[Y,Y,Y,Y,Y,Y,Y,Z,Z,Z] rfl rfl hHeld ?_
            refine Last.one_ (i := 7) (N := some 102) #[Y,Y,Y,Y,Y,Y,Y,Y,Z,Z] rfl rfl (by kernel_rfl) (by decide) (fun K hK => ?_)
            have RSX := HB8.out.drew
            refine step_any (by rfl) _ _ _ (by rfl) 25 i1 _ 3 56 Try.underlying23 HI1.out HY0.out HY1.out HY2.out (by rfl) (by decide) (.slice s32 (j + 1) c32) (j + 1) (kcells (Lx.take j) ++ [.slice s11 (a2 + 1 + b2) c11, .slice s12 (a5 + b5) c12, .int .i64 0]) g32 (by rfl) (RSX.row ⟨3, (.slice s32 (j + 1) c32), (j + 1), (kcells (Lx.take j) ++ [.slice s11 (a2 + 1 + b2) c11, .slice s12 (a5 + b5) c12, .int .i64 0]), g32⟩ (by first | simp | exact List.mem_cons_self ..)) ⟨kb, ko + (j + 2) * 3, none⟩ (Q - (j + 2)) (kcap - (j + 2)) (kcells (Lx.drop (j + 2))) ⟨_, by rfl, fun hm => by first | rfl | exact if_neg (by omega) | simp⟩ (by rw [kcells_length, List.length_drop, HKX.out.1, ← HT.out.2.2.2.2.1]) (HDRK.out _ RSX.below) (KL.one_cell (HKX.out.drop (j + 2))) (by unfold maxLen; omega) (by omega) ?_
            intro v33 w33 g33 hr hg hF
            have HS := hidp (RS.grow (A := []) RSX hr hg hF)
            obtain ⟨s33, c33, hv33⟩ := Row.len hr
            subst hv33
            have k2 := (RS.at HS.out (b := b13) (vs := [.slice s22 (j + (P - (j + 1))) c22, .slice s32 (j + 1) c32, .int .i64 0]) (by simp)).cell 1 rfl
            have k3 := (RS.at HS.out (b := w.heap.size) (vs := [.slice (some ⟨ib, io, none⟩) P icap, .slice (some ⟨kb, ko, none⟩) Q kcap, .int .i64 c]) (by simp)).cell 1 rfl
            have k2f := (RS.at HS.out (b := b13) (vs := [.slice s22 (j + (P - (j + 1))) c22, .slice s32 (j + 1) c32, .int .i64 0]) (by simp)).froz 1 (v := .slice s32 (j + 1) c32) rfl
            have hl13 := (RS.at HS.out (b := b13) (vs := [.slice s22 (j + (P - (j + 1))) c22, .slice s32 (j + 1) c32, .int .i64 0]) (by simp)).1
            clear hr hg hF RSX
            refine hK.out _ _ ?_ (fun hHeld => ?_)
            · (try dsimp only); go_keep
            clear hK K
            try simp only [Act.put, setIfInBounds_toArray, set_cons_zero, set_cons_succ]
            refine Last.tk 8 103 #[Y,Y,Y,Y,Y,Y,Y,Y,Y,Z] rfl rfl hHeld ?_
            refine Last.last_ (i := 9) (N := none) #[Y,Y,Y,Y,Y,Y,Y,Y,Y,Y] rfl rfl (by kernel_rfl) (by decide) (fun K hK => ?_)
            go_simp
            refine hK.out _ _ ?_
            clear hK K
            try simp only [Act.put, setIfInBounds_toArray, set_cons_zero, set_cons_succ]
            refine Last.done_ (by kernel_rfl) ?_
            have hu9 := Upd.one w33 (b := b13) (o := 1) (.slice s33 (j + 1 + (Q - (j + 2))) c33) (by rw [M_of k2 k2f]; rfl)
            have HB9 := hidp (RS.put (A := []) HS.out hu9.fr (Bx.set (RS.at HS.out (b := b13) (vs := [.slice s22 (j + (P - (j + 1))) c22, .slice s32 (j + 1) c32, .int .i64 0]) (by simp)) hu9))
            clear hu9 k2 k3 k2f hl13 HS HB8 HDRK k8 k9 k10 hwj2
            generalize (w33.setCell ⟨b13, 1, none⟩ (.slice s33 (j + 1 + (Q - (j + 2))) c33)) = w9 at HB9 ⊢
            generalize (if kcap = ((j : Int) + 2).toNat then (some ⟨kb, ko, none⟩ : Option Addr) else some ⟨kb, ko + ((j : Int) + 2).toNat * 3, none⟩) = zz9
            have k2 := (RS.at HB9.out (b := b13) (vs := [.slice s22 (j + (P - (j + 1))) c22, .slice s33 (j + 1 + (Q - (j + 2))) c33, .int .i64 0]) (by simp)).cell 0 rfl
            have k3 := (RS.at HB9.out (b := b13) (vs := [.slice s22 (j + (P - (j + 1))) c22, .slice s33 (j + 1 + (Q - (j + 2))) c33, .int .i64 0]) (by simp)).cell 1 rfl
            have k4 := (RS.at HB9.out (b := b13) (vs := [.slice s22 (j + (P - (j + 1))) c22, .slice s33 (j + 1 + (Q - (j + 2))) c33, .int .i64 0]) (by simp)).cell 2 rfl
            -- the node that is made
            have HNY : Hid (NodeAt w9 (n + 2) (rebD D t j a b m) (.slice s22 (j + (P - (j + 1))) c22) (.slice s33 (j + 1 + (Q - (j + 2))) c33) 0) := hidp (by
              have hba : a.1.length + b.1.length < 2 * D - 1 := by have h1 := HLN.out.1; have h2 := HLN.out.2.1; omega
              have ey : rebD D t j a b m = (t.1.take j ++ t.1.drop (j + 1), t.2.1.take j ++ joinD a m b :: t.2.1.drop (j + 2), 0) := if_pos hba
              rw [ey]
              have hbw := HB9.out.below
              have f11 := Row.flat (HB9.out.row ⟨2, .slice s11 (a2 + 1 + b2) c11, a2 + 1 + b2, itemCells EI (a.1 ++ m :: b.1), g11⟩ (by simp))
              have f12 := Row.flat (HB9.out.row ⟨3, .slice s12 (a5 + b5) c12, a5 + b5, kcells (La ++ Lb), g12⟩ (by simp))
              have f22 := Row.flat (HB9.out.row ⟨2, .slice s22 (j + (P - (j + 1))) c22, j + (P - (j + 1)), itemCells EI (t.1.take j) ++ itemCells EI (t.1.drop (j + 1)), g22⟩ (by simp))
              have f33 := Row.flat (HB9.out.row ⟨3, .slice s33 (j + 1 + (Q - (j + 2))) c33, j + 1 + (Q - (j + 2)), kcells (Lx.take j) ++ [.slice s11 (a2 + 1 + b2) c11, .slice s12 (a5 + b5) c12, .int .i64 0] ++ kcells (Lx.drop (j + 2)), g33⟩ (by simp))
              have l1 := HT.out.2.2.2.1
              have l2 := HT.out.2.2.2.2.1
              have hJ : NodeAt w9 (n + 1) (joinD a m b) (.slice s11 (a2 + 1 + b2) c11) (.slice s12 (a5 + b5) c12) 0 := by
                have e1 : (joinD a m b).1.length = a2 + 1 + b2 := by show (a.1 ++ m :: b.1).length = _; rw [List.length_append, List.length_cons, HLN.out.1, HLN.out.2.1]; omega
                have e2 : (joinD a m b).2.1.length = a5 + b5 := by show (a.2.1 ++ b.2.1).length = _; rw [List.length_append, HLN.out.2.2.1, HLN.out.2.2.2]
                exact NodeAt.of (t := joinD a m b) (L := La ++ Lb) (by rw [e1]; exact f11) (by rw [e2]; exact f12) ((HKA.out.append HKB.out).below hbw)
              have hlx : Lx.length = Q := by rw [HKX.out.1, l2]
              exact NodeAt.of (t := ((t.1.take j ++ t.1.drop (j + 1), t.2.1.take j ++ joinD a m b :: t.2.1.drop (j + 2), 0) : DT (n + 2))) (L := Lx.take j ++ (.slice s11 (a2 + 1 + b2) c11, .slice s12 (a5 + b5) c12, 0) :: Lx.drop (j + 2))
                (by
                  have e1 : (t.1.take j ++ t.1.drop (j + 1)).length = j + (P - (j + 1)) := by rw [List.length_append, List.length_take, List.length_drop, ← l1]; omega
                  show Flat 2 w9 _ (t.1.take j ++ t.1.drop (j + 1)).length (itemCells EI (t.1.take j ++ t.1.drop (j + 1)))
                  rw [e1, itemCells_append]
                  exact f22)
                (by
                  have e1 : (t.2.1.take j ++ joinD a m b :: t.2.1.drop (j + 2)).length = j + 1 + (Q - (j + 2)) := by rw [List.length_append, List.length_cons, List.length_take, List.length_drop, ← l2]; omega
                  show Flat 3 w9 _ (t.2.1.take j ++ joinD a m b :: t.2.1.drop (j + 2)).length _
                  rw [e1, kcells_append]
                  have e2 : kcells ((.slice s11 (a2 + 1 + b2) c11, .slice s12 (a5 + b5) c12, 0) :: Lx.drop (j + 2)) = [.slice s11 (a2 + 1 + b2) c11, .slice s12 (a5 + b5) c12, .int .i64 0] ++ kcells (Lx.drop (j + 2)) := rfl
                  rw [e2, ← List.append_assoc]
                  exact f33)
                (((HKX.out.take j).below hbw).append ((KL.one hJ).append ((HKX.out.drop (j + 2)).below hbw))))
            have HBY : Hid (bulk (n + 2) (rebD D t j a b m) ≤ 10000000) := hidp (by have h9 := bulk_rebD (D := D) HT.out.1 HT.out.2.1 HT.out.2.2.1; have h8 := HT.out.2.2.2.2.2; omega)
            have HWC := hidp (wc_is (n + 2) (rebD D t j a b m) HNY.out HBY.out)
            go_wp2_with fail
            refine HWC.out.mono ?_
            rintro e w10 ⟨ui, uk, c', rfl, hq, hb10⟩
            obtain ⟨⟨d1, d2, d3, rfl⟩, d4, d5, d6, rfl⟩ := hq.vals
            have hz := Bx.below (RS.at HB9.out (b := w.heap.size + 1) (vs := [.slice none 0 0, .slice none 0 0, .int .i64 0]) (by simp)) hb10 (RS.at HB9.out (b := w.heap.size + 1) (vs := [.slice none 0 0, .slice none 0 0, .int .i64 0]) (by simp)).1
            have q0 := hz.cell 0 rfl
            have q1 := hz.cell 1 rfl
            have q2 := hz.cell 2 rfl
            have r0 := hz.froz 0 (v := .slice none 0 0) rfl
            have r1 := hz.froz 1 (v := .slice none 0 0) rfl
            have r2 := hz.froz 2 (v := .int .i64 0) rfl
            have hlz := hz.1
            have hub := Bx.upd3 hz (.slice d1 d2 d3) (.slice d4 d5 d6) (.int .i64 c')
            have HQ := hidp (hq.keep (Q' := fun b => w.heap.size ≤ b ∧ b < w10.heap.size) hub.fr (fun b hb => ⟨fun (h : b = w.heap.size + 1) => by have h1 := hb.1; have h2 := (RS.at HB9.out (b := w.heap.size + 1) (vs := [.slice none 0 0, .slice none 0 0, .int .i64 0]) (by simp)).1; omega, by have h1 := hb.1; have h2 := HB9.out.below.size; omega, hb.2⟩))
            have HSS := hidp hub.size
            have HB10 := hidp (HB9.out.below.trans (hb10.mono HB9.out.below.size))
            clear hq hz hub hb10 HWC k2 k3 k4
            go_wp2
            refine bodyPost_ret (v := .agg #[.slice d1 d2 d3, .slice d4 d5 d6, .int .i64 c']) (by simp [results, Try.results23, go_sem, q0, q1, q2, r0, r1, r2]) rfl ?_
            refine ⟨_, _, c', rfl, ?_, ?_⟩
            · have h := HQ.out
              exact h.mono (fun b hb => ⟨hb.1, Nat.lt_of_lt_of_eq hb.2 HSS.out.symm⟩)
            · exact ((HB10.out.setCell (by show w.heap.size ≤ w.heap.size + 1; omega) _).setCell (by show w.heap.size ≤ w.heap.size + 1; omega) _).setCell (by show w.heap.size ≤ w.heap.size + 1; omega) _
          · obtain ⟨gg, hcc, rfl, rfl⟩ : ∃ gg, a2 + 1 + b2 ≤ c11 ∧ s11 = some ⟨gg, 0, none⟩ ∧ g11 = some gg := by
              obtain ⟨_, hrow⟩ := HB5.out.row ⟨2, .slice s11 (a2 + 1 + b2) c11, a2 + 1 + b2, itemCells EI (a.1 ++ m :: b.1), g11⟩ (by simp)
              rcases hrow with ⟨_, h0, _⟩ | ⟨gg, cap, hg, hv, h1, _, _, _⟩
              · have h9 : a2 + 1 + b2 = 0 := h0
                omega
              · have hv' : Value.slice s11 (a2 + 1 + b2) c11 = .slice (some ⟨gg, 0, none⟩) (a2 + 1 + b2) cap := hv
                injection hv' with e1 e2 e3
                have hg' : g11 = some gg := hg
                exact ⟨gg, by rw [e3]; exact h1, e1, hg'⟩
            have hw1 : IntKind.i64.wrap ((a2 : Int) + 1) = (a2 : Int) + 1 := by rw [Last.i64_w, IntWalk.wrap64_in _ ⟨by omega, by omega⟩]
            have hw2 : IntKind.i64.wrap ((a2 : Int) - 1) = (a2 : Int) - 1 := by rw [Last.i64_w, IntWalk.wrap64_in _ ⟨by omega, by omega⟩]
            go_upto_if 116 with (fail)
            have k4 := (RS.at HB5.out (b := b8) (vs := [.slice a1 a2 a3, .slice a4 a5 a6, .int .i64 ac]) (by simp)).cell 0 rfl
            generalize (wc.alloc (.cells #[.slice none 0 0, .slice none 0 0, .int .i64 0] 25)) = w5 at HB5 k4 ⊢
            generalize wc.heap.size = b13 at HB5 ⊢
            clear k0 k1 hlb8 hlb9 hwa hwd hwe HB4
            go_cut [14] from 106 to 120 (fun u14 wx => u14 = .int .i64 (atD a2 b2 : Nat) ∧ wx = w5)
            case first =>
              by_cases hgt : (b2 : Int) < (a2 : Int)
              · have HG := hidp hgt
                go_wp2
                go_meet
                exact ⟨by have h9 := HG.out; rw [atD, if_pos (by omega)]; congr 1; omega, rfl⟩
              · have HG := hidp hgt
                go_wp2
                go_meet
                exact ⟨by have h9 := HG.out; rw [atD, if_neg (by omega)]; rfl, rfl⟩
            case rest =>
              obtain ⟨rfl, rfl⟩ := hcut
              have he : atD a2 b2 + 1 ≤ a2 + 1 + b2 := by unfold atD; split <;> omega
              have HE := hidp (show ∃ e, e = atD a2 b2 from ⟨_, rfl⟩)
              generalize hee : atD a2 b2 = e at he ⊢
              have HEE := hidp hee
              have HSUM := hidp hsum
              clear hee HE hw1 hw2 k4 hsum
              generalize hNN : a2 + 1 + b2 = N at HB5 he hcc ⊢
              have HNN := hidp hNN
              clear hNN
              have hwe1 : IntKind.i64.wrap ((e : Int) + 1) = (e : Int) + 1 := by have h9 := HNN.out; rw [Last.i64_w, IntWalk.wrap64_in _ ⟨by omega, by omega⟩]
              have e0 : (0 : Int) ≤ (e : Int) := by omega
              have e1 : (e : Int) ≤ (c11 : Int) := by omega
              have e2 : (0 : Int) ≤ (e : Int) + 1 := by omega
              have e3 : (e : Int) + 1 ≤ (N : Int) := by omega
              have k4 := (RS.at HB5.out (b := b8) (vs := [.slice a1 a2 a3, .slice a4 a5 a6, .int .i64 ac]) (by simp)).cell 0 rfl
              have HCC := hidp hcc
              have HEN := hidp he
              go_upto_region 14 with (fail)
              go_cut [15, 16] from 121 to 129 (fun u15 u16 wx => ∃ (b15 b16 : Nat) (z14 : Option Addr), u15 = .pointer (some ⟨b15, 0, none⟩) ∧ u16 = .pointer (some ⟨b16, 0, none⟩) ∧ Hid ((0 < N - (e + 1) → z14 = some ⟨gg, (e + 1) * 2, none⟩) ∧ RS w ((b15, [.slice (some ⟨gg, 0, none⟩) e c11, .slice none 0 0, .int .i64 0]) :: (b16, [.slice z14 (N - (e + 1)) (c11 - (e + 1)), .slice none 0 0, .int .i64 0]) :: (b13, [.slice none 0 0, .slice none 0 0, .int .i64 0]) :: [(b8, [.slice a1 a2 a3, .slice a4 a5 a6, .int .i64 ac]), (b9, [.slice b1 b2 b3, .slice b4 b5 b6, .int .i64 bc]), (b10, [.int .i64 m.1, .int .i64 m.2]), (w.heap.size + 1, [.slice none 0 0, .slice none 0 0, .int .i64 0]), (w.heap.size, [.slice (some ⟨ib, io, none⟩) P icap, .slice (some ⟨kb, ko, none⟩) Q kcap, .int .i64 c])]) [⟨3, .slice s12 (a5 + b5) c12, a5 + b5, kcells (La ++ Lb), g12⟩, ⟨2, .slice (some ⟨gg, 0, none⟩) N c11, N, itemCells EI (a.1 ++ m :: b.1), some gg⟩] wx))
              case first =>
                go_region_held3 (fun w' => w'.cell? ⟨b8, 0, none⟩ = some (.slice a1 a2 a3)) (simp (maxDischargeDepth := 8) [*, World.cell?_alloc_some, World.cell?_setCell_far]) (fail)
                all_goals
                  obtain ⟨z14, hz14⟩ : ∃ z : Option Addr, z = (if c11 = e + 1 then some ⟨gg, 0, none⟩ else some ⟨gg, (e + 1) * 2, none⟩) := ⟨_, rfl⟩
                  rw [← hz14]
                  have HZ14 := hidp hz14
                  clear hz14
                  go_wp2_with fail
                  go_meet
                  refine ⟨_, _, z14, rfl, rfl, hidp ⟨fun h => by rw [HZ14.out]; exact if_neg (by have h1 := HCC.out; omega), RS.sub (RS.box2 HB5.out _ _ _ _) ?_ ?_⟩⟩
                  · intro q hq
                    simp only [List.mem_cons, List.not_mem_nil, or_false] at hq ⊢
                    rcases hq with h | h | h | h | h | h | h | h <;> simp [h]
                  · have hnd := (RS.box2 HB5.out [.slice (some ⟨gg, 0, none⟩) e c11, .slice none 0 0, .int .i64 0] [.slice (some ⟨gg, 0, none⟩) e c11, .slice none 0 0, .int .i64 0] 0 0).nd
                    first
                    | exact hnd
                    | exact (List.Perm.swap _ _ _).nodup_iff.1 hnd
              case rest =>
                obtain ⟨b15, b16, z14, rfl, rfl, hh15⟩ := hcut
                have HZ14 := hidp hh15.out.1
                have HB15 := hidp hh15.out.2
                clear hh15 HB5 k4 e0 e1 e2 e3 hwe1
                have HTK : Hid (∀ wr : World, Below w.heap.size w wr → ∀ q u, (itemCells EI (t.1.take j))[q]? = some u → wr.cell? ((⟨ib, io, none⟩ : Addr).add q) = some u) := hidp fun wr hbw q u hq => by
                  obtain ⟨A0, hA0, hsrc⟩ := Flat.src HFX.out
                  obtain rfl := Option.some.inj (hA0 (by omega))
                  refine hsrc wr hbw q u ?_
                  rw [← itemCells_take (E := EI), List.getElem?_take] at hq
                  split at hq
                  · exact hq
                  · cases hq
                have HDR : Hid (∀ wr : World, Below w.heap.size w wr → ∀ q u, (itemCells EI (t.1.drop (j + 1)))[q]? = some u → wr.cell? ((⟨ib, io + (j + 1) * 2, none⟩ : Addr).add q) = some u) := hidp fun wr hbw q u hq => by
                  obtain ⟨A0, hA0, hsrc⟩ := Flat.src HFX.out
                  obtain rfl := Option.some.inj (hA0 (by omega))
                  rw [← itemCells_drop (E := EI), List.getElem?_drop] at hq
                  have h9 := hsrc wr hbw _ u hq
                  rw [Addr.add_lit] at h9 ⊢
                  rw [Nat.add_assoc]
                  exact h9
                obtain ⟨y, hy⟩ : ∃ y, (a.1 ++ m :: b.1)[e]? = some y := ⟨_, List.getElem?_eq_getElem (by rw [List.length_append, List.length_cons, ← HLN.out.1, ← HLN.out.2.1]; have h8 := HNN.out; have h9 := HEN.out; omega)⟩
                have HY := hidp hy
                clear hy
                have j5 : (j : Int) ≤ (icap : Int) := by omega
                have j6 : (j : Int) + 1 ≤ (P : Int) := by omega
                have j7 : (0 : Int) ≤ (j : Int) + 1 := by omega
                have e5 : (e : Int) < (N : Int) := by omega
                by_cases hk0 : a5 + b5 = 0
                · have hk1 : ¬ (0 : Int) < (a5 : Int) + (b5 : Int) := by omega
                  have k2 := (RS.at HB15.out (b := b13) (vs := [.slice none 0 0, .slice none 0 0, .int .i64 0]) (by simp)).cell 0 rfl
                  have k3 := (RS.at HB15.out (b := w.heap.size) (vs := [.slice (some ⟨ib, io, none⟩) P icap, .slice (some ⟨kb, ko, none⟩) Q kcap, .int .i64 c]) (by simp)).cell 0 rfl
                  have k2f := (RS.at HB15.out (b := b13) (vs := [.slice none 0 0, .slice none 0 0, .int .i64 0]) (by simp)).froz 0 (v := .slice none 0 0) rfl
                  have hl13 := (RS.at HB15.out (b := b13) (vs := [.slice none 0 0, .slice none 0 0, .int .i64 0]) (by simp)).1
                  have k5 := (row_item (RS.row HB15.out ⟨2, .slice (some ⟨gg, 0, none⟩) N c11, N, itemCells EI (a.1 ++ m :: b.1), some gg⟩ (by simp)) HY.out).1
                  have k6 := (row_item (RS.row HB15.out ⟨2, .slice (some ⟨gg, 0, none⟩) N c11, N, itemCells EI (a.1 ++ m :: b.1), some gg⟩ (by simp)) HY.out).2
                  go_wp2_with fail
                  generalize wc = w15 at HB15 k2 k3 k2f hl13 k5 k6 ⊢
                  refine Last.start_ (S := fun w' => w'.cell? ⟨b13, 0, none⟩ = some (.slice none 0 0) ∧ w'.cell? ⟨w.heap.size, 0, none⟩ = some (.slice (some ⟨ib, io, none⟩) P icap) ∧ w'.cell? ⟨gg, e * 2, none⟩ = some (.int .i64 y.1) ∧ w'.cell? ⟨gg, e * 2 + 1, none⟩ = some (.int .i64 y.2)) (ds := [20]) #[Z,Z,Z,Z,Z,Z,Z,Z,Z,Z,Z,Z,Z,Z,Z,Z,Z,Z,Z,Z,Z] (by rfl) (by rfl) (by rfl) ?_ (fun hHeld => ?_)
                  · go_keep
                  refine Last.tk 0 143 #[Y,Z,Z,Z,Z,Z,Z,Z,Z,Z,Z,Z,Z,Z,Z,Z,Z,Z,Z,Z,Z] rfl rfl hHeld ?_
                  refine Last.tk 1 144 #[Y,Y,Z,Z,Z,Z,Z,Z,Z,Z,Z,Z,Z,Z,Z,Z,Z,Z,Z,Z,Z] rfl rfl hHeld ?_
                  refine Last.tk 2 145 #[Y,Y,Y,Z,Z,Z,Z,Z,Z,Z,Z,Z,Z,Z,Z,Z,Z,Z,Z,Z,Z] rfl rfl hHeld ?_
                  refine Last.tk 3 146 #[Y,Y,Y,Y,Z,Z,Z,Z,Z,Z,Z,Z,Z,Z,Z,Z,Z,Z,Z,Z,Z] rfl rfl hHeld ?_
                  refine Last.tk 4 147 #[Y,Y,Y,Y,Y,Z,Z,Z,Z,Z,Z,Z,Z,Z,Z,Z,Z,Z,Z,Z,Z] rfl rfl hHeld ?_
                  refine Last.tk 5 148 #[Y,Y,Y,Y,Y,Y,Z,Z,Z,Z,Z,Z,Z,Z,Z,Z,Z,Z,Z,Z,Z] rfl rfl hHeld ?_
                  refine Last.tk 7 150 #[Y,Y,Y,Y,Y,Y,Z,Y,Z,Z,Z,Z,Z,Z,Z,Z,Z,Z,Z,Z,Z] rfl rfl hHeld ?_
                  refine Last.tk 8 151 #[Y,Y,Y,Y,Y,Y,Z,Y,Y,Z,Z,Z,Z,Z,Z,Z,Z,Z,Z,Z,Z] rfl rfl hHeld ?_
                  refine Last.tk 9 152 #[Y,Y,Y,Y,Y,Y,Z,Y,Y,Y,Z,Z,Z,Z,Z,Z,Z,Z,Z,Z,Z] rfl rfl hHeld ?_
                  refine Last.tk 10 153 #[Y,Y,Y,Y,Y,Y,Z,Y,Y,Y,Y,Z,Z,Z,Z,Z,Z,Z,Z,Z,Z] rfl rfl hHeld ?_
                  refine Last.tk 13 156 #[Y,Y,Y,Y,Y,Y,Z,Y,Y,Y,Y,Z,Z,Y,Z,Z,Z,Z,Z,Z,Z] rfl rfl hHeld ?_
                  refine Last.tk 14 157 #[Y,Y,Y,Y,Y,Y,Z,Y,Y,Y,Y,Z,Z,Y,Y,Z,Z,Z,Z,Z,Z] rfl rfl hHeld ?_
                  refine Last.tk 15 158 #[Y,Y,Y,Y,Y,Y,Z,Y,Y,Y,Y,Z,Z,Y,Y,Y,Z,Z,Z,Z,Z] rfl rfl hHeld ?_
                  refine Last.tk 16 159 #[Y,Y,Y,Y,Y,Y,Z,Y,Y,Y,Y,Z,Z,Y,Y,Y,Y,Z,Z,Z,Z] rfl rfl hHeld ?_
                  refine Last.tk 17 160 #[Y,Y,Y,Y,Y,Y,Z,Y,Y,Y,Y,Z,Z,Y,Y,Y,Y,Y,Z,Z,Z] rfl rfl hHeld ?_
                  refine Last.join_ (σ := Option Addr × Nat × Option Nat × Nat) 4 #[Y,Y,Y,Y,Y,Y,Y,Y,Y,Y,Y,Y,Z,Y,Y,Y,Y,Y,Z,Z,Z] (fun s => [(149, .slice s.1 j s.2.1), (154, .slice (some ⟨s.2.2.2, 0, none⟩) 1 1)]) (fun s W => RS w ((s.2.2.2, [.int .i64 y.1, .int .i64 y.2]) :: (b15, [.slice (some ⟨gg, 0, none⟩) e c11, .slice none 0 0, .int .i64 0]) :: (b16, [.slice z14 (N - (e + 1)) (c11 - (e + 1)), .slice none 0 0, .int .i64 0]) :: (b13, [.slice none 0 0, .slice none 0 0, .int .i64 0]) :: [(b8, [.slice a1 a2 a3, .slice a4 a5 a6, .int .i64 ac]), (b9, [.slice b1 b2 b3, .slice b4 b5 b6, .int .i64 bc]), (b10, [.int .i64 m.1, .int .i64 m.2]), (w.heap.size + 1, [.slice none 0 0, .slice none 0 0, .int .i64 0]), (w.heap.size, [.slice (some ⟨ib, io, none⟩) P icap, .slice (some ⟨kb, ko, none⟩) Q kcap, .int .i64 c])]) [⟨2, .slice s.1 j s.2.1, j, (itemCells EI (t.1.take j)), s.2.2.1⟩, ⟨3, .slice s12 (a5 + b5) c12, a5 + b5, kcells (La ++ Lb), g12⟩, ⟨2, .slice (some ⟨gg, 0, none⟩) N c11, N, itemCells EI (a.1 ++ m :: b.1), some gg⟩] W) (fun s wj hRj => ?_) (fun hcont => ?_)
                  rotate_left
                  · refine Last.two_ (i := 6) (j := 11) (Ni := some 149) (Nj := some 154) #[Y,Y,Y,Y,Y,Y,Y,Y,Y,Y,Y,Z,Z,Y,Y,Y,Y,Y,Z,Z,Z] #[Y,Y,Y,Y,Y,Y,Z,Y,Y,Y,Y,Y,Z,Y,Y,Y,Y,Y,Z,Z,Z] rfl rfl rfl rfl (by kernel_rfl) (by decide) (by decide) (fun K hK => ?_) (fun K hK => ?_)
                    · have RSX := RS.nil HB15.out.drew 2
                      refine step_any (by rfl) _ _ _ (by rfl) 35 i0 _ 2 16 Try.underlying22 HI0.out HZ0.out HZ1.out HZ2.out (by rfl) (by decide) (.slice none 0 0) 0 [] none (by rfl) (RSX.row ⟨2, (.slice none 0 0), 0, [], none⟩ (by first | simp | exact List.mem_cons_self ..)) ⟨ib, io, none⟩ j icap (itemCells EI (t.1.take j)) ⟨_, by rfl, fun _ => by rfl⟩ (by rw [itemCells_length, List.length_take, Nat.min_eq_left (by have h9 := HPT.out; omega)]; rfl) (HTK.out _ RSX.below) (itemCells_one _) (by unfold maxLen; omega) (by omega) ?_
                      intro v41 w41 g41 hr hg hF
                      rw [Nat.zero_add, List.nil_append] at hr
                      have HS := hidp (RS.grow (A := []) RSX hr hg hF)
                      obtain ⟨s41, c41, hv41⟩ := Row.len hr
                      subst hv41
                      have k2 := (RS.at HS.out (b := b13) (vs := [.slice none 0 0, .slice none 0 0, .int .i64 0]) (by simp)).cell 0 rfl
                      have k3 := (RS.at HS.out (b := w.heap.size) (vs := [.slice (some ⟨ib, io, none⟩) P icap, .slice (some ⟨kb, ko, none⟩) Q kcap, .int .i64 c]) (by simp)).cell 0 rfl
                      have k2f := (RS.at HS.out (b := b13) (vs := [.slice none 0 0, .slice none 0 0, .int .i64 0]) (by simp)).froz 0 (v := .slice none 0 0) rfl
                      have hl13 := (RS.at HS.out (b := b13) (vs := [.slice none 0 0, .slice none 0 0, .int .i64 0]) (by simp)).1
                      have k5 := (row_item (RS.row HS.out ⟨2, .slice (some ⟨gg, 0, none⟩) N c11, N, itemCells EI (a.1 ++ m :: b.1), some gg⟩ (by simp)) HY.out).1
                      have k6 := (row_item (RS.row HS.out ⟨2, .slice (some ⟨gg, 0, none⟩) N c11, N, itemCells EI (a.1 ++ m :: b.1), some gg⟩ (by simp)) HY.out).2
                      clear hr hg hF RSX
                      refine hK.out _ _ ?_ (fun hHeld => ?_)
                      · (try dsimp only); go_keep
                      clear hK K
                      try simp only [Act.put, setIfInBounds_toArray, set_cons_zero, set_cons_succ]
                      refine Last.one_ (i := 11) (N := some 154) #[Y,Y,Y,Y,Y,Y,Y,Y,Y,Y,Y,Y,Z,Y,Y,Y,Y,Y,Z,Z,Z] rfl rfl (by kernel_rfl) (by decide) (fun K hK => ?_)
                      go_simp
                      have HS0 := hidp (HS.out.box [.int .i64 y.1, .int .i64 y.2] 35)
                      have k2 := (RS.at HS0.out (b := b13) (vs := [.slice none 0 0, .slice none 0 0, .int .i64 0]) (by simp)).cell 0 rfl
                      have k3 := (RS.at HS0.out (b := w.heap.size) (vs := [.slice (some ⟨ib, io, none⟩) P icap, .slice (some ⟨kb, ko, none⟩) Q kcap, .int .i64 c]) (by simp)).cell 0 rfl
                      have k2f := (RS.at HS0.out (b := b13) (vs := [.slice none 0 0, .slice none 0 0, .int .i64 0]) (by simp)).froz 0 (v := .slice none 0 0) rfl
                      have hl13 := (RS.at HS0.out (b := b13) (vs := [.slice none 0 0, .slice none 0 0, .int .i64 0]) (by simp)).1
                      have k5 := (row_item (RS.row HS0.out ⟨2, .slice (some ⟨gg, 0, none⟩) N c11, N, itemCells EI (a.1 ++ m :: b.1), some gg⟩ (by simp)) HY.out).1
                      have k6 := (row_item (RS.row HS0.out ⟨2, .slice (some ⟨gg, 0, none⟩) N c11, N, itemCells EI (a.1 ++ m :: b.1), some gg⟩ (by simp)) HY.out).2
                      refine hK.out _ _ ?_ (fun hHeld => ?_)
                      · (try dsimp only); go_keep
                      clear hK K
                      try simp only [Act.put, setIfInBounds_toArray, set_cons_zero, set_cons_succ]
                      exact hcont (s41, c41, g41, w41.heap.size) _ HS0.out
                    · go_simp
                      have HS0 := hidp (HB15.out.drew.box [.int .i64 y.1, .int .i64 y.2] 35)
                      have k2 := (RS.at HS0.out (b := b13) (vs := [.slice none 0 0, .slice none 0 0, .int .i64 0]) (by simp)).cell 0 rfl
                      have k3 := (RS.at HS0.out (b := w.heap.size) (vs := [.slice (some ⟨ib, io, none⟩) P icap, .slice (some ⟨kb, ko, none⟩) Q kcap, .int .i64 c]) (by simp)).cell 0 rfl
                      have k2f := (RS.at HS0.out (b := b13) (vs := [.slice none 0 0, .slice none 0 0, .int .i64 0]) (by simp)).froz 0 (v := .slice none 0 0) rfl
                      have hl13 := (RS.at HS0.out (b := b13) (vs := [.slice none 0 0, .slice none 0 0, .int .i64 0]) (by simp)).1
                      have k5 := (row_item (RS.row HS0.out ⟨2, .slice (some ⟨gg, 0, none⟩) N c11, N, itemCells EI (a.1 ++ m :: b.1), some gg⟩ (by simp)) HY.out).1
                      have k6 := (row_item (RS.row HS0.out ⟨2, .slice (some ⟨gg, 0, none⟩) N c11, N, itemCells EI (a.1 ++ m :: b.1), some gg⟩ (by simp)) HY.out).2
                      refine hK.out _ _ ?_ (fun hHeld => ?_)
                      · (try dsimp only); go_keep
                      clear hK K
                      try simp only [Act.put, setIfInBounds_toArray, set_cons_zero, set_cons_succ]
                      refine Last.one_ (i := 6) (N := some 149) #[Y,Y,Y,Y,Y,Y,Y,Y,Y,Y,Y,Y,Z,Y,Y,Y,Y,Y,Z,Z,Z] rfl rfl (by kernel_rfl) (by decide) (fun K hK => ?_)
                      have RSX := RS.nil HS0.out 2
                      refine step_any (by rfl) _ _ _ (by rfl) 35 i0 _ 2 16 Try.underlying22 HI0.out HZ0.out HZ1.out HZ2.out (by rfl) (by decide) (.slice none 0 0) 0 [] none (by rfl) (RSX.row ⟨2, (.slice none 0 0), 0, [], none⟩ (by first | simp | exact List.mem_cons_self ..)) ⟨ib, io, none⟩ j icap (itemCells EI (t.1.take j)) ⟨_, by rfl, fun _ => by rfl⟩ (by rw [itemCells_length, List.length_take, Nat.min_eq_left (by have h9 := HPT.out; omega)]; rfl) (HTK.out _ RSX.below) (itemCells_one _) (by unfold maxLen; omega) (by omega) ?_
                      intro v41 w41 g41 hr hg hF
                      rw [Nat.zero_add, List.nil_append] at hr
                      have HS := hidp (RS.grow (A := []) RSX hr hg hF)
                      obtain ⟨s41, c41, hv41⟩ := Row.len hr
                      subst hv41
                      have k2 := (RS.at HS.out (b := b13) (vs := [.slice none 0 0, .slice none 0 0, .int .i64 0]) (by simp)).cell 0 rfl
                      have k3 := (RS.at HS.out (b := w.heap.size) (vs := [.slice (some ⟨ib, io, none⟩) P icap, .slice (some ⟨kb, ko, none⟩) Q kcap, .int .i64 c]) (by simp)).cell 0 rfl
                      have k2f := (RS.at HS.out (b := b13) (vs := [.slice none 0 0, .slice none 0 0, .int .i64 0]) (by simp)).froz 0 (v := .slice none 0 0) rfl
                      have hl13 := (RS.at HS.out (b := b13) (vs := [.slice none 0 0, .slice none 0 0, .int .i64 0]) (by simp)).1
                      have k5 := (row_item (RS.row HS.out ⟨2, .slice (some ⟨gg, 0, none⟩) N c11, N, itemCells EI (a.1 ++ m :: b.1), some gg⟩ (by simp)) HY.out).1
                      have k6 := (row_item (RS.row HS.out ⟨2, .slice (some ⟨gg, 0, none⟩) N c11, N, itemCells EI (a.1 ++ m :: b.1), some gg⟩ (by simp)) HY.out).2
                      clear hr hg hF RSX
                      refine hK.out _ _ ?_ (fun hHeld => ?_)
                      · (try dsimp only); go_keep
                      clear hK K
                      try simp only [Act.put, setIfInBounds_toArray, set_cons_zero, set_cons_succ]
                      exact hcont (s41, c41, g41, w15.heap.size) _ HS.out
                  obtain ⟨s41, c41, g41, nb⟩ := s
                  try simp only [Last.putAll, Act.put, List.setIfInBounds_toArray, List.set_cons_zero, List.set_cons_succ]
                  have HS := hidp hRj
                  have k2 := (RS.at hRj (b := b13) (vs := [.slice none 0 0, .slice none 0 0, .int .i64 0]) (by simp)).cell 0 rfl
                  have k3 := (RS.at hRj (b := w.heap.size) (vs := [.slice (some ⟨ib, io, none⟩) P icap, .slice (some ⟨kb, ko, none⟩) Q kcap, .int .i64 c]) (by simp)).cell 0 rfl
                  have k2f := (RS.at hRj (b := b13) (vs := [.slice none 0 0, .slice none 0 0, .int .i64 0]) (by simp)).froz 0 (v := .slice none 0 0) rfl
                  have hl13 := (RS.at hRj (b := b13) (vs := [.slice none 0 0, .slice none 0 0, .int .i64 0]) (by simp)).1
                  have k5 := (row_item (RS.row hRj ⟨2, .slice (some ⟨gg, 0, none⟩) N c11, N, itemCells EI (a.1 ++ m :: b.1), some gg⟩ (by simp)) HY.out).1
                  have k6 := (row_item (RS.row hRj ⟨2, .slice (some ⟨gg, 0, none⟩) N c11, N, itemCells EI (a.1 ++ m :: b.1), some gg⟩ (by simp)) HY.out).2
                  have hHeld : (fun w' => w'.cell? ⟨b13, 0, none⟩ = some (.slice none 0 0) ∧ w'.cell? ⟨w.heap.size, 0, none⟩ = some (.slice (some ⟨ib, io, none⟩) P icap) ∧ w'.cell? ⟨gg, e * 2, none⟩ = some (.int .i64 y.1) ∧ w'.cell? ⟨gg, e * 2 + 1, none⟩ = some (.int .i64 y.2)) wj := by go_keep
                  clear hRj
                  refine Last.one_ (i := 12) (N := some 155) #[Y,Y,Y,Y,Y,Y,Y,Y,Y,Y,Y,Y,Y,Y,Y,Y,Y,Y,Z,Z,Z] rfl rfl (by kernel_rfl) (by decide) (fun K hK => ?_)
                  have RSX := HS.out
                  refine step_any (by rfl) _ _ _ (by rfl) 35 i0 _ 2 16 Try.underlying22 HI0.out HZ0.out HZ1.out HZ2.out (by rfl) (by decide) (.slice s41 j c41) j (itemCells EI (t.1.take j)) g41 (by rfl) (RSX.row ⟨2, (.slice s41 j c41), j, (itemCells EI (t.1.take j)), g41⟩ (by first | simp | exact List.mem_cons_self ..)) ⟨nb, 0, none⟩ 1 1 [.int .i64 y.1, .int .i64 y.2] ⟨_, by rfl, fun _ => by rfl⟩ (by rfl) (fun q u hq => by rw [Addr.add_lit, Nat.zero_add]; exact (RSX.at (b := nb) (vs := [.int .i64 y.1, .int .i64 y.2]) (by first | simp | exact List.mem_cons_self ..)).cell q hq) (by simp [Value.oneCell']) (by unfold maxLen; omega) (by omega) ?_
                  intro v42 w42 g42 hr hg hF
                  have HS := hidp (RS.grow (A := []) RSX hr hg hF)
                  obtain ⟨s42, c42, hv42⟩ := Row.len hr
                  subst hv42
                  have k2 := (RS.at HS.out (b := b13) (vs := [.slice none 0 0, .slice none 0 0, .int .i64 0]) (by simp)).cell 0 rfl
                  have k3 := (RS.at HS.out (b := w.heap.size) (vs := [.slice (some ⟨ib, io, none⟩) P icap, .slice (some ⟨kb, ko, none⟩) Q kcap, .int .i64 c]) (by simp)).cell 0 rfl
                  have k2f := (RS.at HS.out (b := b13) (vs := [.slice none 0 0, .slice none 0 0, .int .i64 0]) (by simp)).froz 0 (v := .slice none 0 0) rfl
                  have hl13 := (RS.at HS.out (b := b13) (vs := [.slice none 0 0, .slice none 0 0, .int .i64 0]) (by simp)).1
                  have k5 := (row_item (RS.row HS.out ⟨2, .slice (some ⟨gg, 0, none⟩) N c11, N, itemCells EI (a.1 ++ m :: b.1), some gg⟩ (by simp)) HY.out).1
                  have k6 := (row_item (RS.row HS.out ⟨2, .slice (some ⟨gg, 0, none⟩) N c11, N, itemCells EI (a.1 ++ m :: b.1), some gg⟩ (by simp)) HY.out).2
                  clear hr hg hF RSX
                  refine hK.out _ _ ?_ (fun hHeld => ?_)
                  · (try dsimp only); go_keep
                  clear hK K
                  try simp only [Act.put, setIfInBounds_toArray, set_cons_zero, set_cons_succ]
                  refine Last.one_ (i := 18) (N := some 161) #[Y,Y,Y,Y,Y,Y,Y,Y,Y,Y,Y,Y,Y,Y,Y,Y,Y,Y,Y,Z,Z] rfl rfl (by kernel_rfl) (by decide) (fun K hK => ?_)
                  have RSX := HS.out
                  refine step_any (by rfl) _ _ _ (by rfl) 35 i0 _ 2 16 Try.underlying22 HI0.out HZ0.out HZ1.out HZ2.out (by rfl) (by decide) (.slice s42 (j + 1) c42) (j + 1) (itemCells EI (t.1.take j) ++ [.int .i64 y.1, .int .i64 y.2]) g42 (by rfl) (RSX.row ⟨2, (.slice s42 (j + 1) c42), (j + 1), (itemCells EI (t.1.take j) ++ [.int .i64 y.1, .int .i64 y.2]), g42⟩ (by first | simp | exact List.mem_cons_self ..)) ⟨ib, io + (j + 1) * 2, none⟩ (P - (j + 1)) (icap - (j + 1)) (itemCells EI (t.1.drop (j + 1))) ⟨_, by rfl, fun hm => by first | rfl | exact if_neg (by omega) | simp⟩ (by rw [itemCells_length, List.length_drop, ← HPT.out]; rfl) (HDR.out _ RSX.below) (itemCells_one _) (by unfold maxLen; omega) (by omega) ?_
                  intro v43 w43 g43 hr hg hF
                  have HS := hidp (RS.grow (A := []) RSX hr hg hF)
                  obtain ⟨s43, c43, hv43⟩ := Row.len hr
                  subst hv43
                  have k2 := (RS.at HS.out (b := b13) (vs := [.slice none 0 0, .slice none 0 0, .int .i64 0]) (by simp)).cell 0 rfl
                  have k3 := (RS.at HS.out (b := w.heap.size) (vs := [.slice (some ⟨ib, io, none⟩) P icap, .slice (some ⟨kb, ko, none⟩) Q kcap, .int .i64 c]) (by simp)).cell 0 rfl
                  have k2f := (RS.at HS.out (b := b13) (vs := [.slice none 0 0, .slice none 0 0, .int .i64 0]) (by simp)).froz 0 (v := .slice none 0 0) rfl
                  have hl13 := (RS.at HS.out (b := b13) (vs := [.slice none 0 0, .slice none 0 0, .int .i64 0]) (by simp)).1
                  have k5 := (row_item (RS.row HS.out ⟨2, .slice (some ⟨gg, 0, none⟩) N c11, N, itemCells EI (a.1 ++ m :: b.1), some gg⟩ (by simp)) HY.out).1
                  have k6 := (row_item (RS.row HS.out ⟨2, .slice (some ⟨gg, 0, none⟩) N c11, N, itemCells EI (a.1 ++ m :: b.1), some gg⟩ (by simp)) HY.out).2
                  clear hr hg hF RSX
                  refine hK.out _ _ ?_ (fun hHeld => ?_)
                  · (try dsimp only); go_keep
                  clear hK K
                  try simp only [Act.put, setIfInBounds_toArray, set_cons_zero, set_cons_succ]
                  refine Last.tk 19 162 #[Y,Y,Y,Y,Y,Y,Y,Y,Y,Y,Y,Y,Y,Y,Y,Y,Y,Y,Y,Y,Z] rfl rfl hHeld ?_
                  refine Last.last_ (i := 20) (N := none) #[Y,Y,Y,Y,Y,Y,Y,Y,Y,Y,Y,Y,Y,Y,Y,Y,Y,Y,Y,Y,Y] rfl rfl (by kernel_rfl) (by decide) (fun K hK => ?_)
                  go_simp
                  refine hK.out _ _ ?_
                  clear hK K
                  try simp only [Act.put, setIfInBounds_toArray, set_cons_zero, set_cons_succ]
                  refine Last.done_ (by kernel_rfl) ?_
                  have hu17 := Upd.one w43 (b := b13) (o := 0) (.slice s43 (j + 1 + (P - (j + 1))) c43) (by rw [M_of k2 k2f]; rfl)
                  have h17 := RS.put (A := [(nb, [.int .i64 y.1, .int .i64 y.2]), (b15, [.slice (some ⟨gg, 0, none⟩) e c11, .slice none 0 0, .int .i64 0]), (b16, [.slice z14 (N - (e + 1)) (c11 - (e + 1)), .slice none 0 0, .int .i64 0])]) HS.out hu17.fr (Bx.set (RS.at HS.out (b := b13) (vs := [.slice none 0 0, .slice none 0 0, .int .i64 0]) (by simp)) hu17)
                  have HB17 := hidp (RS.sub (BX' := (b15, [.slice (some ⟨gg, 0, none⟩) e c11, .slice none 0 0, .int .i64 0]) :: (b16, [.slice z14 (N - (e + 1)) (c11 - (e + 1)), .slice none 0 0, .int .i64 0]) :: (b13, [.slice s43 (j + 1 + (P - (j + 1))) c43, .slice none 0 0, .int .i64 0]) :: [(b8, [.slice a1 a2 a3, .slice a4 a5 a6, .int .i64 ac]), (b9, [.slice b1 b2 b3, .slice b4 b5 b6, .int .i64 bc]), (b10, [.int .i64 m.1, .int .i64 m.2]), (w.heap.size + 1, [.slice none 0 0, .slice none 0 0, .int .i64 0]), (w.heap.size, [.slice (some ⟨ib, io, none⟩) P icap, .slice (some ⟨kb, ko, none⟩) Q kcap, .int .i64 c])]) h17 (fun q hq => List.mem_cons_of_mem _ hq) (List.nodup_cons.1 h17.nd).2)
                  clear hu17 h17 k2 k3 k2f hl13 k5 k6 HS HB15 HTK HDR hHeld
                  generalize (w43.setCell ⟨b13, 0, none⟩ (.slice s43 (j + 1 + (P - (j + 1))) c43)) = w17 at HB17 ⊢
                  generalize (if icap = j + 1 then (some ⟨ib, io, none⟩ : Option Addr) else some ⟨ib, io + (j + 1) * 2, none⟩) = zz17
                  obtain ⟨Lx, hLx, hgx⟩ := NodeAt.kids HN.out
                  have hgx : Flat 3 w (.slice (some ⟨kb, ko, none⟩) Q kcap) Q (kcells Lx) := by rw [HT.out.2.2.2.2.1] at hgx ⊢; exact hgx
                  have HKX := hidp hLx
                  have HGX := hidp hgx
                  clear hLx hgx
                  have HTKK : Hid (∀ wr : World, Below w.heap.size w wr → ∀ q u, (kcells (Lx.take j))[q]? = some u → wr.cell? ((⟨kb, ko, none⟩ : Addr).add q) = some u) := hidp fun wr hbw q u hq => by
                    obtain ⟨A0, hA0, hsrc⟩ := Flat.src HGX.out
                    obtain rfl := Option.some.inj (hA0 (by omega))
                    refine hsrc wr hbw q u ?_
                    rw [← kcells_take, List.getElem?_take] at hq
                    split at hq
                    · exact hq
                    · cases hq
                  have HDRK : Hid (∀ wr : World, Below w.heap.size w wr → ∀ q u, (kcells (Lx.drop (j + 2)))[q]? = some u → wr.cell? ((⟨kb, ko + (j + 2) * 3, none⟩ : Addr).add q) = some u) := hidp fun wr hbw q u hq => by
                    obtain ⟨A0, hA0, hsrc⟩ := Flat.src HGX.out
                    obtain rfl := Option.some.inj (hA0 (by omega))
                    rw [← kcells_drop, List.getElem?_drop] at hq
                    have h9 := hsrc wr hbw _ u hq
                    rw [Addr.add_lit] at h9 ⊢
                    rw [Nat.add_assoc]
                    exact h9
                  have k2 := (RS.at HB17.out (b := b13) (vs := [.slice s43 (j + 1 + (P - (j + 1))) c43, .slice none 0 0, .int .i64 0]) (by simp)).cell 1 rfl
                  have k3 := (RS.at HB17.out (b := w.heap.size) (vs := [.slice (some ⟨ib, io, none⟩) P icap, .slice (some ⟨kb, ko, none⟩) Q kcap, .int .i64 c]) (by simp)).cell 1 rfl
                  have k2f := (RS.at HB17.out (b := b13) (vs := [.slice s43 (j + 1 + (P - (j + 1))) c43, .slice none 0 0, .int .i64 0]) (by simp)).froz 1 (v := .slice none 0 0) rfl
                  have hl13 := (RS.at HB17.out (b := b13) (vs := [.slice s43 (j + 1 + (P - (j + 1))) c43, .slice none 0 0, .int .i64 0]) (by simp)).1
                  have n0 := (RS.at HB17.out (b := b15) (vs := [.slice (some ⟨gg, 0, none⟩) e c11, .slice none 0 0, .int .i64 0]) (by simp)).cell 0 rfl
                  have n1 := (RS.at HB17.out (b := b15) (vs := [.slice (some ⟨gg, 0, none⟩) e c11, .slice none 0 0, .int .i64 0]) (by simp)).cell 1 rfl
                  have n2 := (RS.at HB17.out (b := b15) (vs := [.slice (some ⟨gg, 0, none⟩) e c11, .slice none 0 0, .int .i64 0]) (by simp)).cell 2 rfl
                  have n3 := (RS.at HB17.out (b := b16) (vs := [.slice z14 (N - (e + 1)) (c11 - (e + 1)), .slice none 0 0, .int .i64 0]) (by simp)).cell 0 rfl
                  have n4 := (RS.at HB17.out (b := b16) (vs := [.slice z14 (N - (e + 1)) (c11 - (e + 1)), .slice none 0 0, .int .i64 0]) (by simp)).cell 1 rfl
                  have n5 := (RS.at HB17.out (b := b16) (vs := [.slice z14 (N - (e + 1)) (c11 - (e + 1)), .slice none 0 0, .int .i64 0]) (by simp)).cell 2 rfl
                  have k8 : (j : Int) ≤ (kcap : Int) := by omega
                  have hwj2 : IntKind.i64.wrap ((j : Int) + 2) = (j : Int) + 2 := by rw [Last.i64_w, IntWalk.wrap64_in _ ⟨by omega, by omega⟩]
                  have hQb : Q ≤ 4000001 := by have h9 := HKL.out; omega
                  have k9 : (j : Int) + 2 ≤ (Q : Int) := by omega
                  have k10 : (0 : Int) ≤ (j : Int) + 2 := by omega
                  go_wp2_with fail
                  refine Last.start_ (S := fun w' => w'.cell? ⟨b13, 1, none⟩ = some (.slice none 0 0) ∧ w'.cell? ⟨w.heap.size, 1, none⟩ = some (.slice (some ⟨kb, ko, none⟩) Q kcap) ∧ w'.cell? ⟨b15, 0, none⟩ = some (.slice (some ⟨gg, 0, none⟩) e c11) ∧ w'.cell? ⟨b15, 1, none⟩ = some (.slice none 0 0) ∧ w'.cell? ⟨b15, 2, none⟩ = some (.int .i64 0) ∧ w'.cell? ⟨b16, 0, none⟩ = some (.slice z14 (N - (e + 1)) (c11 - (e + 1))) ∧ w'.cell? ⟨b16, 1, none⟩ = some (.slice none 0 0) ∧ w'.cell? ⟨b16, 2, none⟩ = some (.int .i64 0)) (ds := [18]) #[Z,Z,Z,Z,Z,Z,Z,Z,Z,Z,Z,Z,Z,Z,Z,Z,Z,Z,Z] (by rfl) (by rfl) (by rfl) ?_ (fun hHeld => ?_)
                  · go_keep
                  refine Last.tk 0 163 #[Y,Z,Z,Z,Z,Z,Z,Z,Z,Z,Z,Z,Z,Z,Z,Z,Z,Z,Z] rfl rfl hHeld ?_
                  refine Last.tk 1 164 #[Y,Y,Z,Z,Z,Z,Z,Z,Z,Z,Z,Z,Z,Z,Z,Z,Z,Z,Z] rfl rfl hHeld ?_
                  refine Last.tk 2 165 #[Y,Y,Y,Z,Z,Z,Z,Z,Z,Z,Z,Z,Z,Z,Z,Z,Z,Z,Z] rfl rfl hHeld ?_
                  refine Last.tk 3 166 #[Y,Y,Y,Y,Z,Z,Z,Z,Z,Z,Z,Z,Z,Z,Z,Z,Z,Z,Z] rfl rfl hHeld ?_
                  refine Last.tk 4 167 #[Y,Y,Y,Y,Y,Z,Z,Z,Z,Z,Z,Z,Z,Z,Z,Z,Z,Z,Z] rfl rfl hHeld ?_
                  refine Last.tk 5 168 #[Y,Y,Y,Y,Y,Y,Z,Z,Z,Z,Z,Z,Z,Z,Z,Z,Z,Z,Z] rfl rfl hHeld ?_
                  refine Last.tk 7 170 #[Y,Y,Y,Y,Y,Y,Z,Y,Z,Z,Z,Z,Z,Z,Z,Z,Z,Z,Z] rfl rfl hHeld ?_
                  refine Last.tk 8 171 #[Y,Y,Y,Y,Y,Y,Z,Y,Y,Z,Z,Z,Z,Z,Z,Z,Z,Z,Z] rfl rfl hHeld ?_
                  refine Last.tk 11 174 #[Y,Y,Y,Y,Y,Y,Z,Y,Y,Z,Z,Y,Z,Z,Z,Z,Z,Z,Z] rfl rfl hHeld ?_
                  refine Last.tk 12 175 #[Y,Y,Y,Y,Y,Y,Z,Y,Y,Z,Z,Y,Y,Z,Z,Z,Z,Z,Z] rfl rfl hHeld ?_
                  refine Last.tk 13 176 #[Y,Y,Y,Y,Y,Y,Z,Y,Y,Z,Z,Y,Y,Y,Z,Z,Z,Z,Z] rfl rfl hHeld ?_
                  refine Last.tk 14 177 #[Y,Y,Y,Y,Y,Y,Z,Y,Y,Z,Z,Y,Y,Y,Y,Z,Z,Z,Z] rfl rfl hHeld ?_
                  refine Last.tk 15 178 #[Y,Y,Y,Y,Y,Y,Z,Y,Y,Z,Z,Y,Y,Y,Y,Y,Z,Z,Z] rfl rfl hHeld ?_
                  refine Last.join_ (σ := Option Addr × Nat × Option Nat × Nat) 4 #[Y,Y,Y,Y,Y,Y,Y,Y,Y,Y,Z,Y,Y,Y,Y,Y,Z,Z,Z] (fun s => [(169, .slice s.1 j s.2.1), (172, .slice (some ⟨s.2.2.2, 0, none⟩) 2 2)]) (fun s W => RS w ((s.2.2.2, [.slice (some ⟨gg, 0, none⟩) e c11, .slice none 0 0, .int .i64 0, .slice z14 (N - (e + 1)) (c11 - (e + 1)), .slice none 0 0, .int .i64 0]) :: (b15, [.slice (some ⟨gg, 0, none⟩) e c11, .slice none 0 0, .int .i64 0]) :: (b16, [.slice z14 (N - (e + 1)) (c11 - (e + 1)), .slice none 0 0, .int .i64 0]) :: (b13, [.slice s43 (j + 1 + (P - (j + 1))) c43, .slice none 0 0, .int .i64 0]) :: [(b8, [.slice a1 a2 a3, .slice a4 a5 a6, .int .i64 ac]), (b9, [.slice b1 b2 b3, .slice b4 b5 b6, .int .i64 bc]), (b10, [.int .i64 m.1, .int .i64 m.2]), (w.heap.size + 1, [.slice none 0 0, .slice none 0 0, .int .i64 0]), (w.heap.size, [.slice (some ⟨ib, io, none⟩) P icap, .slice (some ⟨kb, ko, none⟩) Q kcap, .int .i64 c])]) [⟨3, .slice s.1 j s.2.1, j, (kcells (Lx.take j)), s.2.2.1⟩, ⟨2, .slice s43 (j + 1 + (P - (j + 1))) c43, j + 1 + (P - (j + 1)), itemCells EI (t.1.take j) ++ [.int .i64 y.1, .int .i64 y.2] ++ itemCells EI (t.1.drop (j + 1)), g43⟩, ⟨3, .slice s12 (a5 + b5) c12, a5 + b5, kcells (La ++ Lb), g12⟩, ⟨2, .slice (some ⟨gg, 0, none⟩) N c11, N, itemCells EI (a.1 ++ m :: b.1), some gg⟩] W) (fun s wj hRj => ?_) (fun hcont => ?_)
                  rotate_left
                  · refine Last.two_ (i := 6) (j := 9) (Ni := some 169) (Nj := some 172) #[Y,Y,Y,Y,Y,Y,Y,Y,Y,Z,Z,Y,Y,Y,Y,Y,Z,Z,Z] #[Y,Y,Y,Y,Y,Y,Z,Y,Y,Y,Z,Y,Y,Y,Y,Y,Z,Z,Z] rfl rfl rfl rfl (by kernel_rfl) (by decide) (by decide) (fun K hK => ?_) (fun K hK => ?_)
                    · have RSX := RS.nil HB17.out.drew 3
                      refine step_any (by rfl) _ _ _ (by rfl) 25 i1 _ 3 56 Try.underlying23 HI1.out HY0.out HY1.out HY2.out (by rfl) (by decide) (.slice none 0 0) 0 [] none (by rfl) (RSX.row ⟨3, (.slice none 0 0), 0, [], none⟩ (by first | simp | exact List.mem_cons_self ..)) ⟨kb, ko, none⟩ j kcap (kcells (Lx.take j)) ⟨_, by rfl, fun _ => by rfl⟩ (by rw [kcells_length, List.length_take, Nat.min_eq_left (by have h9 := HKX.out.1; have h8 := HT.out.2.2.2.2.1; omega)]) (HTKK.out _ RSX.below) (KL.one_cell (HKX.out.take j)) (by unfold maxLen; omega) (by omega) ?_
                      intro v51 w51 g51 hr hg hF
                      rw [Nat.zero_add, List.nil_append] at hr
                      have HS := hidp (RS.grow (A := []) RSX hr hg hF)
                      obtain ⟨s51, c51, hv51⟩ := Row.len hr
                      subst hv51
                      have k2 := (RS.at HS.out (b := b13) (vs := [.slice s43 (j + 1 + (P - (j + 1))) c43, .slice none 0 0, .int .i64 0]) (by simp)).cell 1 rfl
                      have k3 := (RS.at HS.out (b := w.heap.size) (vs := [.slice (some ⟨ib, io, none⟩) P icap, .slice (some ⟨kb, ko, none⟩) Q kcap, .int .i64 c]) (by simp)).cell 1 rfl
                      have k2f := (RS.at HS.out (b := b13) (vs := [.slice s43 (j + 1 + (P - (j + 1))) c43, .slice none 0 0, .int .i64 0]) (by simp)).froz 1 (v := .slice none 0 0) rfl
                      have hl13 := (RS.at HS.out (b := b13) (vs := [.slice s43 (j + 1 + (P - (j + 1))) c43, .slice none 0 0, .int .i64 0]) (by simp)).1
                      have n0 := (RS.at HS.out (b := b15) (vs := [.slice (some ⟨gg, 0, none⟩) e c11, .slice none 0 0, .int .i64 0]) (by simp)).cell 0 rfl
                      have n1 := (RS.at HS.out (b := b15) (vs := [.slice (some ⟨gg, 0, none⟩) e c11, .slice none 0 0, .int .i64 0]) (by simp)).cell 1 rfl
                      have n2 := (RS.at HS.out (b := b15) (vs := [.slice (some ⟨gg, 0, none⟩) e c11, .slice none 0 0, .int .i64 0]) (by simp)).cell 2 rfl
                      have n3 := (RS.at HS.out (b := b16) (vs := [.slice z14 (N - (e + 1)) (c11 - (e + 1)), .slice none 0 0, .int .i64 0]) (by simp)).cell 0 rfl
                      have n4 := (RS.at HS.out (b := b16) (vs := [.slice z14 (N - (e + 1)) (c11 - (e + 1)), .slice none 0 0, .int .i64 0]) (by simp)).cell 1 rfl
                      have n5 := (RS.at HS.out (b := b16) (vs := [.slice z14 (N - (e + 1)) (c11 - (e + 1)), .slice none 0 0, .int .i64 0]) (by simp)).cell 2 rfl
                      clear hr hg hF RSX
                      refine hK.out _ _ ?_ (fun hHeld => ?_)
                      · (try dsimp only); go_keep
                      clear hK K
                      try simp only [Act.put, setIfInBounds_toArray, set_cons_zero, set_cons_succ]
                      refine Last.one_ (i := 9) (N := some 172) #[Y,Y,Y,Y,Y,Y,Y,Y,Y,Y,Z,Y,Y,Y,Y,Y,Z,Z,Z] rfl rfl (by kernel_rfl) (by decide) (fun K hK => ?_)
                      go_simp
                      have HS0 := hidp (HS.out.box [.slice (some ⟨gg, 0, none⟩) e c11, .slice none 0 0, .int .i64 0, .slice z14 (N - (e + 1)) (c11 - (e + 1)), .slice none 0 0, .int .i64 0] 25)
                      have k2 := (RS.at HS0.out (b := b13) (vs := [.slice s43 (j + 1 + (P - (j + 1))) c43, .slice none 0 0, .int .i64 0]) (by simp)).cell 1 rfl
                      have k3 := (RS.at HS0.out (b := w.heap.size) (vs := [.slice (some ⟨ib, io, none⟩) P icap, .slice (some ⟨kb, ko, none⟩) Q kcap, .int .i64 c]) (by simp)).cell 1 rfl
                      have k2f := (RS.at HS0.out (b := b13) (vs := [.slice s43 (j + 1 + (P - (j + 1))) c43, .slice none 0 0, .int .i64 0]) (by simp)).froz 1 (v := .slice none 0 0) rfl
                      have hl13 := (RS.at HS0.out (b := b13) (vs := [.slice s43 (j + 1 + (P - (j + 1))) c43, .slice none 0 0, .int .i64 0]) (by simp)).1
                      have n0 := (RS.at HS0.out (b := b15) (vs := [.slice (some ⟨gg, 0, none⟩) e c11, .slice none 0 0, .int .i64 0]) (by simp)).cell 0 rfl
                      have n1 := (RS.at HS0.out (b := b15) (vs := [.slice (some ⟨gg, 0, none⟩) e c11, .slice none 0 0, .int .i64 0]) (by simp)).cell 1 rfl
                      have n2 := (RS.at HS0.out (b := b15) (vs := [.slice (some ⟨gg, 0, none⟩) e c11, .slice none 0 0, .int .i64 0]) (by simp)).cell 2 rfl
                      have n3 := (RS.at HS0.out (b := b16) (vs := [.slice z14 (N - (e + 1)) (c11 - (e + 1)), .slice none 0 0, .int .i64 0]) (by simp)).cell 0 rfl
                      have n4 := (RS.at HS0.out (b := b16) (vs := [.slice z14 (N - (e + 1)) (c11 - (e + 1)), .slice none 0 0, .int .i64 0]) (by simp)).cell 1 rfl
                      have n5 := (RS.at HS0.out (b := b16) (vs := [.slice z14 (N - (e + 1)) (c11 - (e + 1)), .slice none 0 0, .int .i64 0]) (by simp)).cell 2 rfl
                      refine hK.out _ _ ?_ (fun hHeld => ?_)
                      · (try dsimp only); go_keep
                      clear hK K
                      try simp only [Act.put, setIfInBounds_toArray, set_cons_zero, set_cons_succ]
                      exact hcont (s51, c51, g51, w51.heap.size) _ HS0.out
                    · go_simp
                      have HS0 := hidp (HB17.out.drew.box [.slice (some ⟨gg, 0, none⟩) e c11, .slice none 0 0, .int .i64 0, .slice z14 (N - (e + 1)) (c11 - (e + 1)), .slice none 0 0, .int .i64 0] 25)
                      have k2 := (RS.at HS0.out (b := b13) (vs := [.slice s43 (j + 1 + (P - (j + 1))) c43, .slice none 0 0, .int .i64 0]) (by simp)).cell 1 rfl
                      have k3 := (RS.at HS0.out (b := w.heap.size) (vs := [.slice (some ⟨ib, io, none⟩) P icap, .slice (some ⟨kb, ko, none⟩) Q kcap, .int .i64 c]) (by simp)).cell 1 rfl
                      have k2f := (RS.at HS0.out (b := b13) (vs := [.slice s43 (j + 1 + (P - (j + 1))) c43, .slice none 0 0, .int .i64 0]) (by simp)).froz 1 (v := .slice none 0 0) rfl
                      have hl13 := (RS.at HS0.out (b := b13) (vs := [.slice s43 (j + 1 + (P - (j + 1))) c43, .slice none 0 0, .int .i64 0]) (by simp)).1
                      have n0 := (RS.at HS0.out (b := b15) (vs := [.slice (some ⟨gg, 0, none⟩) e c11, .slice none 0 0, .int .i64 0]) (by simp)).cell 0 rfl
                      have n1 := (RS.at HS0.out (b := b15) (vs := [.slice (some ⟨gg, 0, none⟩) e c11, .slice none 0 0, .int .i64 0]) (by simp)).cell 1 rfl
                      have n2 := (RS.at HS0.out (b := b15) (vs := [.slice (some ⟨gg, 0, none⟩) e c11, .slice none 0 0, .int .i64 0]) (by simp)).cell 2 rfl
                      have n3 := (RS.at HS0.out (b := b16) (vs := [.slice z14 (N - (e + 1)) (c11 - (e + 1)), .slice none 0 0, .int .i64 0]) (by simp)).cell 0 rfl
                      have n4 := (RS.at HS0.out (b := b16) (vs := [.slice z14 (N - (e + 1)) (c11 - (e + 1)), .slice none 0 0, .int .i64 0]) (by simp)).cell 1 rfl
                      have n5 := (RS.at HS0.out (b := b16) (vs := [.slice z14 (N - (e + 1)) (c11 - (e + 1)), .slice none 0 0, .int .i64 0]) (by simp)).cell 2 rfl
                      refine hK.out _ _ ?_ (fun hHeld => ?_)
                      · (try dsimp only); go_keep
                      clear hK K
                      try simp only [Act.put, setIfInBounds_toArray, set_cons_zero, set_cons_succ]
                      refine Last.one_ (i := 6) (N := some 169) #[Y,Y,Y,Y,Y,Y,Y,Y,Y,Y,Z,Y,Y,Y,Y,Y,Z,Z,Z] rfl rfl (by kernel_rfl) (by decide) (fun K hK => ?_)
                      have RSX := RS.nil HS0.out 3
                      refine step_any (by rfl) _ _ _ (by rfl) 25 i1 _ 3 56 Try.underlying23 HI1.out HY0.out HY1.out HY2.out (by rfl) (by decide) (.slice none 0 0) 0 [] none (by rfl) (RSX.row ⟨3, (.slice none 0 0), 0, [], none⟩ (by first | simp | exact List.mem_cons_self ..)) ⟨kb, ko, none⟩ j kcap (kcells (Lx.take j)) ⟨_, by rfl, fun _ => by rfl⟩ (by rw [kcells_length, List.length_take, Nat.min_eq_left (by have h9 := HKX.out.1; have h8 := HT.out.2.2.2.2.1; omega)]) (HTKK.out _ RSX.below) (KL.one_cell (HKX.out.take j)) (by unfold maxLen; omega) (by omega) ?_
                      intro v51 w51 g51 hr hg hF
                      rw [Nat.zero_add, List.nil_append] at hr
                      have HS := hidp (RS.grow (A := []) RSX hr hg hF)
                      obtain ⟨s51, c51, hv51⟩ := Row.len hr
                      subst hv51
                      have k2 := (RS.at HS.out (b := b13) (vs := [.slice s43 (j + 1 + (P - (j + 1))) c43, .slice none 0 0, .int .i64 0]) (by simp)).cell 1 rfl
                      have k3 := (RS.at HS.out (b := w.heap.size) (vs := [.slice (some ⟨ib, io, none⟩) P icap, .slice (some ⟨kb, ko, none⟩) Q kcap, .int .i64 c]) (by simp)).cell 1 rfl
                      have k2f := (RS.at HS.out (b := b13) (vs := [.slice s43 (j + 1 + (P - (j + 1))) c43, .slice none 0 0, .int .i64 0]) (by simp)).froz 1 (v := .slice none 0 0) rfl
                      have hl13 := (RS.at HS.out (b := b13) (vs := [.slice s43 (j + 1 + (P - (j + 1))) c43, .slice none 0 0, .int .i64 0]) (by simp)).1
                      have n0 := (RS.at HS.out (b := b15) (vs := [.slice (some ⟨gg, 0, none⟩) e c11, .slice none 0 0, .int .i64 0]) (by simp)).cell 0 rfl
                      have n1 := (RS.at HS.out (b := b15) (vs := [.slice (some ⟨gg, 0, none⟩) e c11, .slice none 0 0, .int .i64 0]) (by simp)).cell 1 rfl
                      have n2 := (RS.at HS.out (b := b15) (vs := [.slice (some ⟨gg, 0, none⟩) e c11, .slice none 0 0, .int .i64 0]) (by simp)).cell 2 rfl
                      have n3 := (RS.at HS.out (b := b16) (vs := [.slice z14 (N - (e + 1)) (c11 - (e + 1)), .slice none 0 0, .int .i64 0]) (by simp)).cell 0 rfl
                      have n4 := (RS.at HS.out (b := b16) (vs := [.slice z14 (N - (e + 1)) (c11 - (e + 1)), .slice none 0 0, .int .i64 0]) (by simp)).cell 1 rfl
                      have n5 := (RS.at HS.out (b := b16) (vs := [.slice z14 (N - (e + 1)) (c11 - (e + 1)), .slice none 0 0, .int .i64 0]) (by simp)).cell 2 rfl
                      clear hr hg hF RSX
                      refine hK.out _ _ ?_ (fun hHeld => ?_)
                      · (try dsimp only); go_keep
                      clear hK K
                      try simp only [Act.put, setIfInBounds_toArray, set_cons_zero, set_cons_succ]
                      exact hcont (s51, c51, g51, w17.heap.size) _ HS.out
                  obtain ⟨s51, c51, g51, nb⟩ := s
                  try simp only [Last.putAll, Act.put, List.setIfInBounds_toArray, List.set_cons_zero, List.set_cons_succ]
                  have HS := hidp hRj
                  have k2 := (RS.at hRj (b := b13) (vs := [.slice s43 (j + 1 + (P - (j + 1))) c43, .slice none 0 0, .int .i64 0]) (by simp)).cell 1 rfl
                  have k3 := (RS.at hRj (b := w.heap.size) (vs := [.slice (some ⟨ib, io, none⟩) P icap, .slice (some ⟨kb, ko, none⟩) Q kcap, .int .i64 c]) (by simp)).cell 1 rfl
                  have k2f := (RS.at hRj (b := b13) (vs := [.slice s43 (j + 1 + (P - (j + 1))) c43, .slice none 0 0, .int .i64 0]) (by simp)).froz 1 (v := .slice none 0 0) rfl
                  have hl13 := (RS.at hRj (b := b13) (vs := [.slice s43 (j + 1 + (P - (j + 1))) c43, .slice none 0 0, .int .i64 0]) (by simp)).1
                  have n0 := (RS.at hRj (b := b15) (vs := [.slice (some ⟨gg, 0, none⟩) e c11, .slice none 0 0, .int .i64 0]) (by simp)).cell 0 rfl
                  have n1 := (RS.at hRj (b := b15) (vs := [.slice (some ⟨gg, 0, none⟩) e c11, .slice none 0 0, .int .i64 0]) (by simp)).cell 1 rfl
                  have n2 := (RS.at hRj (b := b15) (vs := [.slice (some ⟨gg, 0, none⟩) e c11, .slice none 0 0, .int .i64 0]) (by simp)).cell 2 rfl
                  have n3 := (RS.at hRj (b := b16) (vs := [.slice z14 (N - (e + 1)) (c11 - (e + 1)), .slice none 0 0, .int .i64 0]) (by simp)).cell 0 rfl
                  have n4 := (RS.at hRj (b := b16) (vs := [.slice z14 (N - (e + 1)) (c11 - (e + 1)), .slice none 0 0, .int .i64 0]) (by simp)).cell 1 rfl
                  have n5 := (RS.at hRj (b := b16) (vs := [.slice z14 (N - (e + 1)) (c11 - (e + 1)), .slice none 0 0, .int .i64 0]) (by simp)).cell 2 rfl
                  have hHeld : (fun w' => w'.cell? ⟨b13, 1, none⟩ = some (.slice none 0 0) ∧ w'.cell? ⟨w.heap.size, 1, none⟩ = some (.slice (some ⟨kb, ko, none⟩) Q kcap) ∧ w'.cell? ⟨b15, 0, none⟩ = some (.slice (some ⟨gg, 0, none⟩) e c11) ∧ w'.cell? ⟨b15, 1, none⟩ = some (.slice none 0 0) ∧ w'.cell? ⟨b15, 2, none⟩ = some (.int .i64 0) ∧ w'.cell? ⟨b16, 0, none⟩ = some (.slice z14 (N - (e + 1)) (c11 - (e + 1))) ∧ w'.cell? ⟨b16, 1, none⟩ = some (.slice none 0 0) ∧ w'.cell? ⟨b16, 2, none⟩ = some (.int .i64 0)) wj := by go_keep
                  clear hRj
                  refine Last.one_ (i := 10) (N := some 173) #[Y,Y,Y,Y,Y,Y,Y,Y,Y,Y,Y,Y,Y,Y,Y,Y,Z,Z,Z] rfl rfl (by kernel_rfl) (by decide) (fun K hK => ?_)
                  have RSX := HS.out
                  refine step_any (by rfl) _ _ _ (by rfl) 25 i1 _ 3 56 Try.underlying23 HI1.out HY0.out HY1.out HY2.out (by rfl) (by decide) (.slice s51 j c51) j (kcells (Lx.take j)) g51 (by rfl) (RSX.row ⟨3, (.slice s51 j c51), j, (kcells (Lx.take j)), g51⟩ (by first | simp | exact List.mem_cons_self ..)) ⟨nb, 0, none⟩ 2 2 [.slice (some ⟨gg, 0, none⟩) e c11, .slice none 0 0, .int .i64 0, .slice z14 (N - (e + 1)) (c11 - (e + 1)), .slice none 0 0, .int .i64 0] ⟨_, by rfl, fun _ => by rfl⟩ (by rfl) (fun q u hq => by rw [Addr.add_lit, Nat.zero_add]; exact (RSX.at (b := nb) (vs := [.slice (some ⟨gg, 0, none⟩) e c11, .slice none 0 0, .int .i64 0, .slice z14 (N - (e + 1)) (c11 - (e + 1)), .slice none 0 0, .int .i64 0]) (by first | simp | exact List.mem_cons_self ..)).cell q hq) (by simp [Value.oneCell']) (by unfold maxLen; omega) (by omega) ?_
                  intro v52 w52 g52 hr hg hF
                  have HS := hidp (RS.grow (A := []) RSX hr hg hF)
                  obtain ⟨s52, c52, hv52⟩ := Row.len hr
                  subst hv52
                  have k2 := (RS.at HS.out (b := b13) (vs := [.slice s43 (j + 1 + (P - (j + 1))) c43, .slice none 0 0, .int .i64 0]) (by simp)).cell 1 rfl
                  have k3 := (RS.at HS.out (b := w.heap.size) (vs := [.slice (some ⟨ib, io, none⟩) P icap, .slice (some ⟨kb, ko, none⟩) Q kcap, .int .i64 c]) (by simp)).cell 1 rfl
                  have k2f := (RS.at HS.out (b := b13) (vs := [.slice s43 (j + 1 + (P - (j + 1))) c43, .slice none 0 0, .int .i64 0]) (by simp)).froz 1 (v := .slice none 0 0) rfl
                  have hl13 := (RS.at HS.out (b := b13) (vs := [.slice s43 (j + 1 + (P - (j + 1))) c43, .slice none 0 0, .int .i64 0]) (by simp)).1
                  have n0 := (RS.at HS.out (b := b15) (vs := [.slice (some ⟨gg, 0, none⟩) e c11, .slice none 0 0, .int .i64 0]) (by simp)).cell 0 rfl
                  have n1 := (RS.at HS.out (b := b15) (vs := [.slice (some ⟨gg, 0, none⟩) e c11, .slice none 0 0, .int .i64 0]) (by simp)).cell 1 rfl
                  have n2 := (RS.at HS.out (b := b15) (vs := [.slice (some ⟨gg, 0, none⟩) e c11, .slice none 0 0, .int .i64 0]) (by simp)).cell 2 rfl
                  have n3 := (RS.at HS.out (b := b16) (vs := [.slice z14 (N - (e + 1)) (c11 - (e + 1)), .slice none 0 0, .int .i64 0]) (by simp)).cell 0 rfl
                  have n4 := (RS.at HS.out (b := b16) (vs := [.slice z14 (N - (e + 1)) (c11 - (e + 1)), .slice none 0 0, .int .i64 0]) (by simp)).cell 1 rfl
                  have n5 := (RS.at HS.out (b := b16) (vs := [.slice z14 (N - (e + 1)) (c11 - (e + 1)), .slice none 0 0, .int .i64 0]) (by simp)).cell 2 rfl
                  clear hr hg hF RSX
                  refine hK.out _ _ ?_ (fun hHeld => ?_)
                  · (try dsimp only); go_keep
                  clear hK K
                  try simp only [Act.put, setIfInBounds_toArray, set_cons_zero, set_cons_succ]
                  refine Last.one_ (i := 16) (N := some 179) #[Y,Y,Y,Y,Y,Y,Y,Y,Y,Y,Y,Y,Y,Y,Y,Y,Y,Z,Z] rfl rfl (by kernel_rfl) (by decide) (fun K hK => ?_)
                  have RSX := HS.out
                  refine step_any (by rfl) _ _ _ (by rfl) 25 i1 _ 3 56 Try.underlying23 HI1.out HY0.out HY1.out HY2.out (by rfl) (by decide) (.slice s52 (j + 2) c52) (j + 2) (kcells (Lx.take j) ++ [.slice (some ⟨gg, 0, none⟩) e c11, .slice none 0 0, .int .i64 0, .slice z14 (N - (e + 1)) (c11 - (e + 1)), .slice none 0 0, .int .i64 0]) g52 (by rfl) (RSX.row ⟨3, (.slice s52 (j + 2) c52), (j + 2), (kcells (Lx.take j) ++ [.slice (some ⟨gg, 0, none⟩) e c11, .slice none 0 0, .int .i64 0, .slice z14 (N - (e + 1)) (c11 - (e + 1)), .slice none 0 0, .int .i64 0]), g52⟩ (by first | simp | exact List.mem_cons_self ..)) ⟨kb, ko + (j + 2) * 3, none⟩ (Q - (j + 2)) (kcap - (j + 2)) (kcells (Lx.drop (j + 2))) ⟨_, by rfl, fun hm => by first | rfl | exact if_neg (by omega) | simp⟩ (by rw [kcells_length, List.length_drop, HKX.out.1, ← HT.out.2.2.2.2.1]) (HDRK.out _ RSX.below) (KL.one_cell (HKX.out.drop (j + 2))) (by unfold maxLen; omega) (by omega) ?_
                  intro v53 w53 g53 hr hg hF
                  have HS := hidp (RS.grow (A := []) RSX hr hg hF)
                  obtain ⟨s53, c53, hv53⟩ := Row.len hr
                  subst hv53
                  have k2 := (RS.at HS.out (b := b13) (vs := [.slice s43 (j + 1 + (P - (j + 1))) c43, .slice none 0 0, .int .i64 0]) (by simp)).cell 1 rfl
                  have k3 := (RS.at HS.out (b := w.heap.size) (vs := [.slice (some ⟨ib, io, none⟩) P icap, .slice (some ⟨kb, ko, none⟩) Q kcap, .int .i64 c]) (by simp)).cell 1 rfl
                  have k2f := (RS.at HS.out (b := b13) (vs := [.slice s43 (j + 1 + (P - (j + 1))) c43, .slice none 0 0, .int .i64 0]) (by simp)).froz 1 (v := .slice none 0 0) rfl
                  have hl13 := (RS.at HS.out (b := b13) (vs := [.slice s43 (j + 1 + (P - (j + 1))) c43, .slice none 0 0, .int .i64 0]) (by simp)).1
                  have n0 := (RS.at HS.out (b := b15) (vs := [.slice (some ⟨gg, 0, none⟩) e c11, .slice none 0 0, .int .i64 0]) (by simp)).cell 0 rfl
                  have n1 := (RS.at HS.out (b := b15) (vs := [.slice (some ⟨gg, 0, none⟩) e c11, .slice none 0 0, .int .i64 0]) (by simp)).cell 1 rfl
                  have n2 := (RS.at HS.out (b := b15) (vs := [.slice (some ⟨gg, 0, none⟩) e c11, .slice none 0 0, .int .i64 0]) (by simp)).cell 2 rfl
                  have n3 := (RS.at HS.out (b := b16) (vs := [.slice z14 (N - (e + 1)) (c11 - (e + 1)), .slice none 0 0, .int .i64 0]) (by simp)).cell 0 rfl
                  have n4 := (RS.at HS.out (b := b16) (vs := [.slice z14 (N - (e + 1)) (c11 - (e + 1)), .slice none 0 0, .int .i64 0]) (by simp)).cell 1 rfl
                  have n5 := (RS.at HS.out (b := b16) (vs := [.slice z14 (N - (e + 1)) (c11 - (e + 1)), .slice none 0 0, .int .i64 0]) (by simp)).cell 2 rfl
                  clear hr hg hF RSX
                  refine hK.out _ _ ?_ (fun hHeld => ?_)
                  · (try dsimp only); go_keep
                  clear hK K
                  try simp only [Act.put, setIfInBounds_toArray, set_cons_zero, set_cons_succ]
                  refine Last.tk 17 180 #[Y,Y,Y,Y,Y,Y,Y,Y,Y,Y,Y,Y,Y,Y,Y,Y,Y,Y,Z] rfl rfl hHeld ?_
                  refine Last.last_ (i := 18) (N := none) #[Y,Y,Y,Y,Y,Y,Y,Y,Y,Y,Y,Y,Y,Y,Y,Y,Y,Y,Y] rfl rfl (by kernel_rfl) (by decide) (fun K hK => ?_)
                  go_simp
                  refine hK.out _ _ ?_
                  clear hK K
                  try simp only [Act.put, setIfInBounds_toArray, set_cons_zero, set_cons_succ]
                  refine Last.done_ (by kernel_rfl) ?_
                  have hu18 := Upd.one w53 (b := b13) (o := 1) (.slice s53 (j + 2 + (Q - (j + 2))) c53) (by rw [M_of k2 k2f]; rfl)
                  have h18 := RS.put (A := [(nb, [.slice (some ⟨gg, 0, none⟩) e c11, .slice none 0 0, .int .i64 0, .slice z14 (N - (e + 1)) (c11 - (e + 1)), .slice none 0 0, .int .i64 0]), (b15, [.slice (some ⟨gg, 0, none⟩) e c11, .slice none 0 0, .int .i64 0]), (b16, [.slice z14 (N - (e + 1)) (c11 - (e + 1)), .slice none 0 0, .int .i64 0])]) HS.out hu18.fr (Bx.set (RS.at HS.out (b := b13) (vs := [.slice s43 (j + 1 + (P - (j + 1))) c43, .slice none 0 0, .int .i64 0]) (by simp)) hu18)
                  have HB18 := hidp (RS.sub (BX' := (b15, [.slice (some ⟨gg, 0, none⟩) e c11, .slice none 0 0, .int .i64 0]) :: (b16, [.slice z14 (N - (e + 1)) (c11 - (e + 1)), .slice none 0 0, .int .i64 0]) :: (b13, [.slice s43 (j + 1 + (P - (j + 1))) c43, .slice s53 (j + 2 + (Q - (j + 2))) c53, .int .i64 0]) :: [(b8, [.slice a1 a2 a3, .slice a4 a5 a6, .int .i64 ac]), (b9, [.slice b1 b2 b3, .slice b4 b5 b6, .int .i64 bc]), (b10, [.int .i64 m.1, .int .i64 m.2]), (w.heap.size + 1, [.slice none 0 0, .slice none 0 0, .int .i64 0]), (w.heap.size, [.slice (some ⟨ib, io, none⟩) P icap, .slice (some ⟨kb, ko, none⟩) Q kcap, .int .i64 c])]) h18 (fun q hq => List.mem_cons_of_mem _ hq) (List.nodup_cons.1 h18.nd).2)
                  clear hu18 h18 k2 k3 k2f hl13 n0 n1 n2 n3 n4 n5 HS HB17 HTKK HDRK hHeld k8 k9 k10 hwj2
                  generalize (w53.setCell ⟨b13, 1, none⟩ (.slice s53 (j + 2 + (Q - (j + 2))) c53)) = w18 at HB18 ⊢
                  generalize (if kcap = ((j : Int) + 2).toNat then (some ⟨kb, ko, none⟩ : Option Addr) else some ⟨kb, ko + ((j : Int) + 2).toNat * 3, none⟩) = zz18
                  have k2 := (RS.at HB18.out (b := b13) (vs := [.slice s43 (j + 1 + (P - (j + 1))) c43, .slice s53 (j + 2 + (Q - (j + 2))) c53, .int .i64 0]) (by simp)).cell 0 rfl
                  have k3 := (RS.at HB18.out (b := b13) (vs := [.slice s43 (j + 1 + (P - (j + 1))) c43, .slice s53 (j + 2 + (Q - (j + 2))) c53, .int .i64 0]) (by simp)).cell 1 rfl
                  have k4 := (RS.at HB18.out (b := b13) (vs := [.slice s43 (j + 1 + (P - (j + 1))) c43, .slice s53 (j + 2 + (Q - (j + 2))) c53, .int .i64 0]) (by simp)).cell 2 rfl
                  have HNY : Hid (NodeAt w18 (n + 2) (rebD D t j a b m) (.slice s43 (j + 1 + (P - (j + 1))) c43) (.slice s53 (j + 2 + (Q - (j + 2))) c53) 0) := hidp (by
                    have hba : ¬ a.1.length + b.1.length < 2 * D - 1 := by have h1 := HLN.out.1; have h2 := HLN.out.2.1; have h3 := HSUM.out; omega
                    have hat : atD a.1.length b.1.length = e := by rw [← HLN.out.1, ← HLN.out.2.1]; exact HEE.out
                    have ey : rebD D t j a b m = (t.1.take j ++ [y] ++ t.1.drop (j + 1), t.2.1.take j ++ leftD a m b e :: rightD a m b e :: t.2.1.drop (j + 2), 0) := by
                      unfold rebD
                      rw [if_neg hba, hat, HY.out]
                      rfl
                    rw [ey]
                    have hbw := HB18.out.below
                    have f11 := Row.flat (HB18.out.row ⟨2, .slice (some ⟨gg, 0, none⟩) N c11, N, itemCells EI (a.1 ++ m :: b.1), some gg⟩ (by simp))
                    have f43 := Row.flat (HB18.out.row ⟨2, .slice s43 (j + 1 + (P - (j + 1))) c43, j + 1 + (P - (j + 1)), itemCells EI (t.1.take j) ++ [.int .i64 y.1, .int .i64 y.2] ++ itemCells EI (t.1.drop (j + 1)), g43⟩ (by simp))
                    have f53 := Row.flat (HB18.out.row ⟨3, .slice s53 (j + 2 + (Q - (j + 2))) c53, j + 2 + (Q - (j + 2)), kcells (Lx.take j) ++ [.slice (some ⟨gg, 0, none⟩) e c11, .slice none 0 0, .int .i64 0, .slice z14 (N - (e + 1)) (c11 - (e + 1)), .slice none 0 0, .int .i64 0] ++ kcells (Lx.drop (j + 2)), g53⟩ (by simp))
                    have l1 := HT.out.2.2.2.1
                    have l2 := HT.out.2.2.2.2.1
                    have hN9 : (a.1 ++ m :: b.1).length = N := by rw [List.length_append, List.length_cons, ← HLN.out.1, ← HLN.out.2.1, ← HNN.out]; omega
                    have hEN := HEN.out
                    have hlx : Lx.length = Q := by rw [HKX.out.1, l2]
                    have hJL : NodeAt w18 (n + 1) (leftD a m b e) (.slice (some ⟨gg, 0, none⟩) e c11) (.slice none 0 0) 0 := by
                      have hz : a.2.1 ++ b.2.1 = [] := by
                        have h1 := HLN.out.2.2.1
                        have h2 := HLN.out.2.2.2
                        rw [List.eq_nil_of_length_eq_zero (l := a.2.1) (by omega), List.eq_nil_of_length_eq_zero (l := b.2.1) (by omega)]; rfl
                      have ek : (leftD a m b e).2.1 = [] := by show (a.2.1 ++ b.2.1).take (e + 1) = []; rw [hz]; rfl
                      have e1 : (leftD a m b e).1.length = e := by show ((a.1 ++ m :: b.1).take e).length = e; rw [List.length_take, hN9]; omega
                      refine NodeAt.of (t := leftD a m b e) (L := []) ?_ ?_ ?_
                      · rw [e1]
                        have h := Flat.take f11 (p := e) (by omega)
                        have e3 : (itemCells EI (a.1 ++ m :: b.1)).take (e * 2) = itemCells EI (leftD a m b e).1 := itemCells_take (E := EI) _ e
                        rw [e3] at h
                        exact h
                      · rw [ek]; exact ⟨rfl, none, 0, rfl, Nat.le_refl _, fun h => by cases h⟩
                      · rw [ek]; exact ⟨rfl, fun i y k hy _ => by simp at hy⟩
                    have hJR : NodeAt w18 (n + 1) (rightD a m b e) (.slice z14 (N - (e + 1)) (c11 - (e + 1))) (.slice none 0 0) 0 := by
                      have hz : a.2.1 ++ b.2.1 = [] := by
                        have h1 := HLN.out.2.2.1
                        have h2 := HLN.out.2.2.2
                        rw [List.eq_nil_of_length_eq_zero (l := a.2.1) (by omega), List.eq_nil_of_length_eq_zero (l := b.2.1) (by omega)]; rfl
                      have ek : (rightD a m b e).2.1 = [] := by show (a.2.1 ++ b.2.1).drop (e + 1) = []; rw [hz]; rfl
                      have e1 : (rightD a m b e).1.length = N - (e + 1) := by show ((a.1 ++ m :: b.1).drop (e + 1)).length = _; rw [List.length_drop, hN9]
                      refine NodeAt.of (t := rightD a m b e) (L := []) ?_ ?_ ?_
                      · rw [e1]
                        have h := Flat.drop f11 (p := e + 1) (by omega) (z := z14) (fun h => by rw [HZ14.out h, Nat.zero_add])
                        have e3 : (itemCells EI (a.1 ++ m :: b.1)).drop ((e + 1) * 2) = itemCells EI (rightD a m b e).1 := itemCells_drop (E := EI) _ (e + 1)
                        rw [e3] at h
                        exact h
                      · rw [ek]; exact ⟨rfl, none, 0, rfl, Nat.le_refl _, fun h => by cases h⟩
                      · rw [ek]; exact ⟨rfl, fun i y k hy _ => by simp at hy⟩
                    exact NodeAt.of (t := ((t.1.take j ++ [y] ++ t.1.drop (j + 1), t.2.1.take j ++ leftD a m b e :: rightD a m b e :: t.2.1.drop (j + 2), 0) : DT (n + 2))) (L := Lx.take j ++ (.slice (some ⟨gg, 0, none⟩) e c11, .slice none 0 0, 0) :: (.slice z14 (N - (e + 1)) (c11 - (e + 1)), .slice none 0 0, 0) :: Lx.drop (j + 2))
                      (by
                        have e1 : (t.1.take j ++ [y] ++ t.1.drop (j + 1)).length = j + 1 + (P - (j + 1)) := by rw [List.length_append, List.length_append, List.length_take, List.length_drop, ← l1, List.length_singleton]; omega
                        show Flat 2 w18 _ (t.1.take j ++ [y] ++ t.1.drop (j + 1)).length (itemCells EI (t.1.take j ++ [y] ++ t.1.drop (j + 1)))
                        rw [e1, itemCells_append, itemCells_append]
                        exact f43)
                      (by
                        have e1 : (t.2.1.take j ++ leftD a m b e :: rightD a m b e :: t.2.1.drop (j + 2)).length = j + 2 + (Q - (j + 2)) := by rw [List.length_append, List.length_cons, List.length_cons, List.length_take, List.length_drop, ← l2]; omega
                        show Flat 3 w18 _ (t.2.1.take j ++ leftD a m b e :: rightD a m b e :: t.2.1.drop (j + 2)).length _
                        rw [e1, kcells_append]
                        have e2 : kcells ((.slice (some ⟨gg, 0, none⟩) e c11, .slice none 0 0, 0) :: (.slice z14 (N - (e + 1)) (c11 - (e + 1)), .slice none 0 0, 0) :: Lx.drop (j + 2)) = [.slice (some ⟨gg, 0, none⟩) e c11, .slice none 0 0, .int .i64 0, .slice z14 (N - (e + 1)) (c11 - (e + 1)), .slice none 0 0, .int .i64 0] ++ kcells (Lx.drop (j + 2)) := rfl
                        rw [e2, ← List.append_assoc]
                        exact f53)
                      (((HKX.out.take j).below hbw).append ((KL.one hJL).append ((KL.one hJR).append ((HKX.out.drop (j + 2)).below hbw)))))
                  have HBY : Hid (bulk (n + 2) (rebD D t j a b m) ≤ 10000000) := hidp (by have h9 := bulk_rebD (D := D) HT.out.1 HT.out.2.1 HT.out.2.2.1; have h8 := HT.out.2.2.2.2.2; omega)
                  have HWC := hidp (wc_is (n + 2) (rebD D t j a b m) HNY.out HBY.out)
                  go_wp2_with fail
                  refine HWC.out.mono ?_
                  rintro e w10 ⟨ui, uk, c', rfl, hq, hb10⟩
                  obtain ⟨⟨d1, d2, d3, rfl⟩, d4, d5, d6, rfl⟩ := hq.vals
                  have hz := Bx.below (RS.at HB18.out (b := w.heap.size + 1) (vs := [.slice none 0 0, .slice none 0 0, .int .i64 0]) (by simp)) hb10 (RS.at HB18.out (b := w.heap.size + 1) (vs := [.slice none 0 0, .slice none 0 0, .int .i64 0]) (by simp)).1
                  have q0 := hz.cell 0 rfl
                  have q1 := hz.cell 1 rfl
                  have q2 := hz.cell 2 rfl
                  have r0 := hz.froz 0 (v := .slice none 0 0) rfl
                  have r1 := hz.froz 1 (v := .slice none 0 0) rfl
                  have r2 := hz.froz 2 (v := .int .i64 0) rfl
                  have hlz := hz.1
                  have hub := Bx.upd3 hz (.slice d1 d2 d3) (.slice d4 d5 d6) (.int .i64 c')
                  have HQ := hidp (hq.keep (Q' := fun b => w.heap.size ≤ b ∧ b < w10.heap.size) hub.fr (fun b hb => ⟨fun (h : b = w.heap.size + 1) => by have h1 := hb.1; have h2 := (RS.at HB18.out (b := w.heap.size + 1) (vs := [.slice none 0 0, .slice none 0 0, .int .i64 0]) (by simp)).1; omega, by have h1 := hb.1; have h2 := HB18.out.below.size; omega, hb.2⟩))
                  have HSS := hidp hub.size
                  have HB10 := hidp (HB18.out.below.trans (hb10.mono HB18.out.below.size))
                  clear hq hz hub hb10 HWC k2 k3 k4
                  go_wp2
                  refine bodyPost_ret (v := .agg #[.slice d1 d2 d3, .slice d4 d5 d6, .int .i64 c']) (by simp [results, Try.results23, go_sem, q0, q1, q2, r0, r1, r2]) rfl ?_
                  refine ⟨_, _, c', rfl, ?_, ?_⟩
                  · have h := HQ.out
                    exact h.mono (fun b hb => ⟨hb.1, Nat.lt_of_lt_of_eq hb.2 HSS.out.symm⟩)
                  · exact ((HB10.out.setCell (by show w.heap.size ≤ w.heap.size + 1; omega) _).setCell (by show w.heap.size ≤ w.heap.size + 1; omega) _).setCell (by show w.heap.size ≤ w.heap.size + 1; omega) _
                · have hk1 : (0 : Int) < (a5 : Int) + (b5 : Int) := by omega
                  have hK5 : a5 + b5 = N + 1 := by
                    have h1 := HKK.out
                    rw [← HLN.out.1, ← HLN.out.2.1, ← HLN.out.2.2.1, ← HLN.out.2.2.2] at h1
                    have h2 := HNN.out
                    omega
                  have hek : e + 1 ≤ a5 + b5 := by have h1 := HEN.out; omega
                  have HEK := hidp hek
                  clear hK5
                  obtain ⟨hh, hcc2, rfl, rfl⟩ : ∃ hh, a5 + b5 ≤ c12 ∧ s12 = some ⟨hh, 0, none⟩ ∧ g12 = some hh := by
                    obtain ⟨_, hrow⟩ := HB15.out.row ⟨3, .slice s12 (a5 + b5) c12, a5 + b5, kcells (La ++ Lb), g12⟩ (by simp)
                    rcases hrow with ⟨_, h0, _⟩ | ⟨hh, cap, hg, hv, h1, _, _, _⟩
                    · have h9 : a5 + b5 = 0 := h0
                      omega
                    · have hv' : Value.slice s12 (a5 + b5) c12 = .slice (some ⟨hh, 0, none⟩) (a5 + b5) cap := hv
                      injection hv' with e1 e2 e3
                      have hg' : g12 = some hh := hg
                      exact ⟨hh, by rw [e3]; exact h1, e1, hg'⟩
                  have HCC2 := hidp hcc2
                  have hwe1 : IntKind.i64.wrap ((e : Int) + 1) = (e : Int) + 1 := by have h9 := HNN.out; rw [Last.i64_w, IntWalk.wrap64_in _ ⟨by omega, by omega⟩]
                  have e6 : (0 : Int) ≤ (e : Int) + 1 := by omega
                  have e7 : (e : Int) + 1 ≤ (c12 : Int) := by omega
                  have e8 : (e : Int) + 1 ≤ (a5 : Int) + (b5 : Int) := by omega
                  have q1 := (RS.at HB15.out (b := b15) (vs := [.slice (some ⟨gg, 0, none⟩) e c11, .slice none 0 0, .int .i64 0]) (by simp)).cell 1 rfl
                  have q1f := (RS.at HB15.out (b := b15) (vs := [.slice (some ⟨gg, 0, none⟩) e c11, .slice none 0 0, .int .i64 0]) (by simp)).froz 1 (v := .slice none 0 0) rfl
                  have q1l := (RS.at HB15.out (b := b15) (vs := [.slice (some ⟨gg, 0, none⟩) e c11, .slice none 0 0, .int .i64 0]) (by simp)).1
                  have q2 := (RS.at HB15.out (b := b16) (vs := [.slice z14 (N - (e + 1)) (c11 - (e + 1)), .slice none 0 0, .int .i64 0]) (by simp)).cell 1 rfl
                  have q2f := (RS.at HB15.out (b := b16) (vs := [.slice z14 (N - (e + 1)) (c11 - (e + 1)), .slice none 0 0, .int .i64 0]) (by simp)).froz 1 (v := .slice none 0 0) rfl
                  have q2l := (RS.at HB15.out (b := b16) (vs := [.slice z14 (N - (e + 1)) (c11 - (e + 1)), .slice none 0 0, .int .i64 0]) (by simp)).1
                  have q3 := (RS.at HB15.out (b := b13) (vs := [.slice none 0 0, .slice none 0 0, .int .i64 0]) (by simp)).cell 2 rfl
                  have hnd := HB15.out.nd
                  simp only [List.map_cons, List.map_nil, List.nodup_cons, List.mem_cons, List.not_mem_nil, or_false, not_or] at hnd
                  have u1 : ¬ b15 = b16 := hnd.1.1
                  have u2 : ¬ b15 = b13 := hnd.1.2.1
                  have u3 : ¬ b16 = b13 := hnd.2.1.1
                  have u4 : ¬ b16 = b15 := fun h => u1 h.symm
                  clear hnd
                  go_wp2_with fail
                  go_region_held3 (fun w' => w'.cell? ⟨b13, 2, none⟩ = some (.int .i64 0)) (simp (maxDischargeDepth := 8) [*, World.cell?_alloc_some, World.cell?_setCell_far]) (fail)
                  obtain ⟨z16, hz16⟩ : ∃ z : Option Addr, z = (if c12 = e + 1 then some ⟨hh, 0, none⟩ else some ⟨hh, (e + 1) * 3, none⟩) := ⟨_, rfl⟩
                  rw [← hz16]
                  have HZ16 : Hid (0 < a5 + b5 - (e + 1) → z16 = some ⟨hh, (e + 1) * 3, none⟩) := hidp fun h => by rw [hz16]; exact if_neg (by have h1 := HCC2.out; omega)
                  clear hz16
                  have hu1 := Upd.one wc (b := b15) (o := 1) (.slice (some ⟨hh, 0, none⟩) (e + 1) c12) (by rw [M_of q1 q1f]; rfl)
                  have hp1 := RS.put (A := []) HB15.out hu1.fr (Bx.set (RS.at HB15.out (b := b15) (vs := [.slice (some ⟨gg, 0, none⟩) e c11, .slice none 0 0, .int .i64 0]) (by simp)) hu1)
                  have q4 := (RS.at hp1 (b := b16) (vs := [.slice z14 (N - (e + 1)) (c11 - (e + 1)), .slice none 0 0, .int .i64 0]) (by simp)).cell 1 rfl
                  have q4f := (RS.at hp1 (b := b16) (vs := [.slice z14 (N - (e + 1)) (c11 - (e + 1)), .slice none 0 0, .int .i64 0]) (by simp)).froz 1 (v := .slice none 0 0) rfl
                  have hu2 := Upd.one _ (b := b16) (o := 1) (.slice z16 (a5 + b5 - (e + 1)) (c12 - (e + 1))) (by rw [M_of q4 q4f]; rfl)
                  have hp2 := RS.put (A := [(b15, [.slice (some ⟨gg, 0, none⟩) e c11, .slice (some ⟨hh, 0, none⟩) (e + 1) c12, .int .i64 0])]) hp1 hu2.fr (Bx.set (RS.at hp1 (b := b16) (vs := [.slice z14 (N - (e + 1)) (c11 - (e + 1)), .slice none 0 0, .int .i64 0]) (by simp)) hu2)
                  have HB15 := hidp hp2.drew
                  clear hp1 hp2 hu1 hu2 q1 q1f q1l q2 q2f q2l q3 q4 q4f u1 u2 u3 u4 hwe1 e6 e7 e8
                  generalize ((wc.setCell ⟨b15, 1, none⟩ (.slice (some ⟨hh, 0, none⟩) (e + 1) c12)).setCell ⟨b16, 1, none⟩ (.slice z16 (a5 + b5 - (e + 1)) (c12 - (e + 1)))).drew = w15 at HB15 ⊢
                  have k2 := (RS.at HB15.out (b := b13) (vs := [.slice none 0 0, .slice none 0 0, .int .i64 0]) (by simp)).cell 0 rfl
                  have k3 := (RS.at HB15.out (b := w.heap.size) (vs := [.slice (some ⟨ib, io, none⟩) P icap, .slice (some ⟨kb, ko, none⟩) Q kcap, .int .i64 c]) (by simp)).cell 0 rfl
                  have k2f := (RS.at HB15.out (b := b13) (vs := [.slice none 0 0, .slice none 0 0, .int .i64 0]) (by simp)).froz 0 (v := .slice none 0 0) rfl
                  have hl13 := (RS.at HB15.out (b := b13) (vs := [.slice none 0 0, .slice none 0 0, .int .i64 0]) (by simp)).1
                  have k5 := (row_item (RS.row HB15.out ⟨2, .slice (some ⟨gg, 0, none⟩) N c11, N, itemCells EI (a.1 ++ m :: b.1), some gg⟩ (by simp)) HY.out).1
                  have k6 := (row_item (RS.row HB15.out ⟨2, .slice (some ⟨gg, 0, none⟩) N c11, N, itemCells EI (a.1 ++ m :: b.1), some gg⟩ (by simp)) HY.out).2
                  go_wp2_with fail
                  refine Last.start_ (S := fun w' => w'.cell? ⟨b13, 0, none⟩ = some (.slice none 0 0) ∧ w'.cell? ⟨w.heap.size, 0, none⟩ = some (.slice (some ⟨ib, io, none⟩) P icap) ∧ w'.cell? ⟨gg, e * 2, none⟩ = some (.int .i64 y.1) ∧ w'.cell? ⟨gg, e * 2 + 1, none⟩ = some (.int .i64 y.2)) (ds := [20]) #[Z,Z,Z,Z,Z,Z,Z,Z,Z,Z,Z,Z,Z,Z,Z,Z,Z,Z,Z,Z,Z] (by rfl) (by rfl) (by rfl) ?_ (fun hHeld => ?_)
                  · go_keep
                  refine Last.tk 0 143 #[Y,Z,Z,Z,Z,Z,Z,Z,Z,Z,Z,Z,Z,Z,Z,Z,Z,Z,Z,Z,Z] rfl rfl hHeld ?_
                  refine Last.tk 1 144 #[Y,Y,Z,Z,Z,Z,Z,Z,Z,Z,Z,Z,Z,Z,Z,Z,Z,Z,Z,Z,Z] rfl rfl hHeld ?_
                  refine Last.tk 2 145 #[Y,Y,Y,Z,Z,Z,Z,Z,Z,Z,Z,Z,Z,Z,Z,Z,Z,Z,Z,Z,Z] rfl rfl hHeld ?_
                  refine Last.tk 3 146 #[Y,Y,Y,Y,Z,Z,Z,Z,Z,Z,Z,Z,Z,Z,Z,Z,Z,Z,Z,Z,Z] rfl rfl hHeld ?_
                  refine Last.tk 4 147 #[Y,Y,Y,Y,Y,Z,Z,Z,Z,Z,Z,Z,Z,Z,Z,Z,Z,Z,Z,Z,Z] rfl rfl hHeld ?_
                  refine Last.tk 5 148 #[Y,Y,Y,Y,Y,Y,Z,Z,Z,Z,Z,Z,Z,Z,Z,Z,Z,Z,Z,Z,Z] rfl rfl hHeld ?_
                  refine Last.tk 7 150 #[Y,Y,Y,Y,Y,Y,Z,Y,Z,Z,Z,Z,Z,Z,Z,Z,Z,Z,Z,Z,Z] rfl rfl hHeld ?_
                  refine Last.tk 8 151 #[Y,Y,Y,Y,Y,Y,Z,Y,Y,Z,Z,Z,Z,Z,Z,Z,Z,Z,Z,Z,Z] rfl rfl hHeld ?_
                  refine Last.tk 9 152 #[Y,Y,Y,Y,Y,Y,Z,Y,Y,Y,Z,Z,Z,Z,Z,Z,Z,Z,Z,Z,Z] rfl rfl hHeld ?_
                  refine Last.tk 10 153 #[Y,Y,Y,Y,Y,Y,Z,Y,Y,Y,Y,Z,Z,Z,Z,Z,Z,Z,Z,Z,Z] rfl rfl hHeld ?_
                  refine Last.tk 13 156 #[Y,Y,Y,Y,Y,Y,Z,Y,Y,Y,Y,Z,Z,Y,Z,Z,Z,Z,Z,Z,Z] rfl rfl hHeld ?_
                  refine Last.tk 14 157 #[Y,Y,Y,Y,Y,Y,Z,Y,Y,Y,Y,Z,Z,Y,Y,Z,Z,Z,Z,Z,Z] rfl rfl hHeld ?_
                  refine Last.tk 15 158 #[Y,Y,Y,Y,Y,Y,Z,Y,Y,Y,Y,Z,Z,Y,Y,Y,Z,Z,Z,Z,Z] rfl rfl hHeld ?_
                  refine Last.tk 16 159 #[Y,Y,Y,Y,Y,Y,Z,Y,Y,Y,Y,Z,Z,Y,Y,Y,Y,Z,Z,Z,Z] rfl rfl hHeld ?_
                  refine Last.tk 17 160 #[Y,Y,Y,Y,Y,Y,Z,Y,Y,Y,Y,Z,Z,Y,Y,Y,Y,Y,Z,Z,Z] rfl rfl hHeld ?_
                  refine Last.join_ (σ := Option Addr × Nat × Option Nat × Nat) 4 #[Y,Y,Y,Y,Y,Y,Y,Y,Y,Y,Y,Y,Z,Y,Y,Y,Y,Y,Z,Z,Z] (fun s => [(149, .slice s.1 j s.2.1), (154, .slice (some ⟨s.2.2.2, 0, none⟩) 1 1)]) (fun s W => RS w ((s.2.2.2, [.int .i64 y.1, .int .i64 y.2]) :: (b15, [.slice (some ⟨gg, 0, none⟩) e c11, .slice (some ⟨hh, 0, none⟩) (e + 1) c12, .int .i64 0]) :: (b16, [.slice z14 (N - (e + 1)) (c11 - (e + 1)), .slice z16 (a5 + b5 - (e + 1)) (c12 - (e + 1)), .int .i64 0]) :: (b13, [.slice none 0 0, .slice none 0 0, .int .i64 0]) :: [(b8, [.slice a1 a2 a3, .slice a4 a5 a6, .int .i64 ac]), (b9, [.slice b1 b2 b3, .slice b4 b5 b6, .int .i64 bc]), (b10, [.int .i64 m.1, .int .i64 m.2]), (w.heap.size + 1, [.slice none 0 0, .slice none 0 0, .int .i64 0]), (w.heap.size, [.slice (some ⟨ib, io, none⟩) P icap, .slice (some ⟨kb, ko, none⟩) Q kcap, .int .i64 c])]) [⟨2, .slice s.1 j s.2.1, j, (itemCells EI (t.1.take j)), s.2.2.1⟩, ⟨3, .slice (some ⟨hh, 0, none⟩) (a5 + b5) c12, a5 + b5, kcells (La ++ Lb), some hh⟩, ⟨2, .slice (some ⟨gg, 0, none⟩) N c11, N, itemCells EI (a.1 ++ m :: b.1), some gg⟩] W) (fun s wj hRj => ?_) (fun hcont => ?_)
                  rotate_left
                  · refine Last.two_ (i := 6) (j := 11) (Ni := some 149) (Nj := some 154) #[Y,Y,Y,Y,Y,Y,Y,Y,Y,Y,Y,Z,Z,Y,Y,Y,Y,Y,Z,Z,Z] #[Y,Y,Y,Y,Y,Y,Z,Y,Y,Y,Y,Y,Z,Y,Y,Y,Y,Y,Z,Z,Z] rfl rfl rfl rfl (by kernel_rfl) (by decide) (by decide) (fun K hK => ?_) (fun K hK => ?_)
                    · have RSX := RS.nil HB15.out.drew 2
                      refine step_any (by rfl) _ _ _ (by rfl) 35 i0 _ 2 16 Try.underlying22 HI0.out HZ0.out HZ1.out HZ2.out (by rfl) (by decide) (.slice none 0 0) 0 [] none (by rfl) (RSX.row ⟨2, (.slice none 0 0), 0, [], none⟩ (by first | simp | exact List.mem_cons_self ..)) ⟨ib, io, none⟩ j icap (itemCells EI (t.1.take j)) ⟨_, by rfl, fun _ => by rfl⟩ (by rw [itemCells_length, List.length_take, Nat.min_eq_left (by have h9 := HPT.out; omega)]; rfl) (HTK.out _ RSX.below) (itemCells_one _) (by unfold maxLen; omega) (by omega) ?_
                      intro v41 w41 g41 hr hg hF
                      rw [Nat.zero_add, List.nil_append] at hr
                      have HS := hidp (RS.grow (A := []) RSX hr hg hF)
                      obtain ⟨s41, c41, hv41⟩ := Row.len hr
                      subst hv41
                      have k2 := (RS.at HS.out (b := b13) (vs := [.slice none 0 0, .slice none 0 0, .int .i64 0]) (by simp)).cell 0 rfl
                      have k3 := (RS.at HS.out (b := w.heap.size) (vs := [.slice (some ⟨ib, io, none⟩) P icap, .slice (some ⟨kb, ko, none⟩) Q kcap, .int .i64 c]) (by simp)).cell 0 rfl
                      have k2f := (RS.at HS.out (b := b13) (vs := [.slice none 0 0, .slice none 0 0, .int .i64 0]) (by simp)).froz 0 (v := .slice none 0 0) rfl
                      have hl13 := (RS.at HS.out (b := b13) (vs := [.slice none 0 0, .slice none 0 0, .int .i64 0]) (by simp)).1
                      have k5 := (row_item (RS.row HS.out ⟨2, .slice (some ⟨gg, 0, none⟩) N c11, N, itemCells EI (a.1 ++ m :: b.1), some gg⟩ (by simp)) HY.out).1
                      have k6 := (row_item (RS.row HS.out ⟨2, .slice (some ⟨gg, 0, none⟩) N c11, N, itemCells EI (a.1 ++ m :: b.1), some gg⟩ (by simp)) HY.out).2
                      clear hr hg hF RSX
                      refine hK.out _ _ ?_ (fun hHeld => ?_)
                      · (try dsimp only); go_keep
                      clear hK K
                      try simp only [Act.put, setIfInBounds_toArray, set_cons_zero, set_cons_succ]
                      refine Last.one_ (i := 11) (N := some 154) #[Y,Y,Y,Y,Y,Y,Y,Y,Y,Y,Y,Y,Z,Y,Y,Y,Y,Y,Z,Z,Z] rfl rfl (by kernel_rfl) (by decide) (fun K hK => ?_)
                      go_simp
                      have HS0 := hidp (HS.out.box [.int .i64 y.1, .int .i64 y.2] 35)
                      have k2 := (RS.at HS0.out (b := b13) (vs := [.slice none 0 0, .slice none 0 0, .int .i64 0]) (by simp)).cell 0 rfl
                      have k3 := (RS.at HS0.out (b := w.heap.size) (vs := [.slice (some ⟨ib, io, none⟩) P icap, .slice (some ⟨kb, ko, none⟩) Q kcap, .int .i64 c]) (by simp)).cell 0 rfl
                      have k2f := (RS.at HS0.out (b := b13) (vs := [.slice none 0 0, .slice none 0 0, .int .i64 0]) (by simp)).froz 0 (v := .slice none 0 0) rfl
                      have hl13 := (RS.at HS0.out (b := b13) (vs := [.slice none 0 0, .slice none 0 0, .int .i64 0]) (by simp)).1
                      have k5 := (row_item (RS.row HS0.out ⟨2, .slice (some ⟨gg, 0, none⟩) N c11, N, itemCells EI (a.1 ++ m :: b.1), some gg⟩ (by simp)) HY.out).1
                      have k6 := (row_item (RS.row HS0.out ⟨2, .slice (some ⟨gg, 0, none⟩) N c11, N, itemCells EI (a.1 ++ m :: b.1), some gg⟩ (by simp)) HY.out).2
                      refine hK.out _ _ ?_ (fun hHeld => ?_)
                      · (try dsimp only); go_keep
                      clear hK K
                      try simp only [Act.put, setIfInBounds_toArray, set_cons_zero, set_cons_succ]
                      exact hcont (s41, c41, g41, w41.heap.size) _ HS0.out
                    · go_simp
                      have HS0 := hidp (HB15.out.drew.box [.int .i64 y.1, .int .i64 y.2] 35)
                      have k2 := (RS.at HS0.out (b := b13) (vs := [.slice none 0 0, .slice none 0 0, .int .i64 0]) (by simp)).cell 0 rfl
                      have k3 := (RS.at HS0.out (b := w.heap.size) (vs := [.slice (some ⟨ib, io, none⟩) P icap, .slice (some ⟨kb, ko, none⟩) Q kcap, .int .i64 c]) (by simp)).cell 0 rfl
                      have k2f := (RS.at HS0.out (b := b13) (vs := [.slice none 0 0, .slice none 0 0, .int .i64 0]) (by simp)).froz 0 (v := .slice none 0 0) rfl
                      have hl13 := (RS.at HS0.out (b := b13) (vs := [.slice none 0 0, .slice none 0 0, .int .i64 0]) (by simp)).1
                      have k5 := (row_item (RS.row HS0.out ⟨2, .slice (some ⟨gg, 0, none⟩) N c11, N, itemCells EI (a.1 ++ m :: b.1), some gg⟩ (by simp)) HY.out).1
                      have k6 := (row_item (RS.row HS0.out ⟨2, .slice (some ⟨gg, 0, none⟩) N c11, N, itemCells EI (a.1 ++ m :: b.1), some gg⟩ (by simp)) HY.out).2
                      refine hK.out _ _ ?_ (fun hHeld => ?_)
                      · (try dsimp only); go_keep
                      clear hK K
                      try simp only [Act.put, setIfInBounds_toArray, set_cons_zero, set_cons_succ]
                      refine Last.one_ (i := 6) (N := some 149) #[Y,Y,Y,Y,Y,Y,Y,Y,Y,Y,Y,Y,Z,Y,Y,Y,Y,Y,Z,Z,Z] rfl rfl (by kernel_rfl) (by decide) (fun K hK => ?_)
                      have RSX := RS.nil HS0.out 2
                      refine step_any (by rfl) _ _ _ (by rfl) 35 i0 _ 2 16 Try.underlying22 HI0.out HZ0.out HZ1.out HZ2.out (by rfl) (by decide) (.slice none 0 0) 0 [] none (by rfl) (RSX.row ⟨2, (.slice none 0 0), 0, [], none⟩ (by first | simp | exact List.mem_cons_self ..)) ⟨ib, io, none⟩ j icap (itemCells EI (t.1.take j)) ⟨_, by rfl, fun _ => by rfl⟩ (by rw [itemCells_length, List.length_take, Nat.min_eq_left (by have h9 := HPT.out; omega)]; rfl) (HTK.out _ RSX.below) (itemCells_one _) (by unfold maxLen; omega) (by omega) ?_
                      intro v41 w41 g41 hr hg hF
                      rw [Nat.zero_add, List.nil_append] at hr
                      have HS := hidp (RS.grow (A := []) RSX hr hg hF)
                      obtain ⟨s41, c41, hv41⟩ := Row.len hr
                      subst hv41
                      have k2 := (RS.at HS.out (b := b13) (vs := [.slice none 0 0, .slice none 0 0, .int .i64 0]) (by simp)).cell 0 rfl
                      have k3 := (RS.at HS.out (b := w.heap.size) (vs := [.slice (some ⟨ib, io, none⟩) P icap, .slice (some ⟨kb, ko, none⟩) Q kcap, .int .i64 c]) (by simp)).cell 0 rfl
                      have k2f := (RS.at HS.out (b := b13) (vs := [.slice none 0 0, .slice none 0 0, .int .i64 0]) (by simp)).froz 0 (v := .slice none 0 0) rfl
                      have hl13 := (RS.at HS.out (b := b13) (vs := [.slice none 0 0, .slice none 0 0, .int .i64 0]) (by simp)).1
                      have k5 := (row_item (RS.row HS.out ⟨2, .slice (some ⟨gg, 0, none⟩) N c11, N, itemCells EI (a.1 ++ m :: b.1), some gg⟩ (by simp)) HY.out).1
                      have k6 := (row_item (RS.row HS.out ⟨2, .slice (some ⟨gg, 0, none⟩) N c11, N, itemCells EI (a.1 ++ m :: b.1), some gg⟩ (by simp)) HY.out).2
                      clear hr hg hF RSX
                      refine hK.out _ _ ?_ (fun hHeld => ?_)
                      · (try dsimp only); go_keep
                      clear hK K
                      try simp only [Act.put, setIfInBounds_toArray, set_cons_zero, set_cons_succ]
                      exact hcont (s41, c41, g41, w15.heap.size) _ HS.out
                  obtain ⟨s41, c41, g41, nb⟩ := s
                  try simp only [Last.putAll, Act.put, List.setIfInBounds_toArray, List.set_cons_zero, List.set_cons_succ]
                  have HS := hidp hRj
                  have k2 := (RS.at hRj (b := b13) (vs := [.slice none 0 0, .slice none 0 0, .int .i64 0]) (by simp)).cell 0 rfl
                  have k3 := (RS.at hRj (b := w.heap.size) (vs := [.slice (some ⟨ib, io, none⟩) P icap, .slice (some ⟨kb, ko, none⟩) Q kcap, .int .i64 c]) (by simp)).cell 0 rfl
                  have k2f := (RS.at hRj (b := b13) (vs := [.slice none 0 0, .slice none 0 0, .int .i64 0]) (by simp)).froz 0 (v := .slice none 0 0) rfl
                  have hl13 := (RS.at hRj (b := b13) (vs := [.slice none 0 0, .slice none 0 0, .int .i64 0]) (by simp)).1
                  have k5 := (row_item (RS.row hRj ⟨2, .slice (some ⟨gg, 0, none⟩) N c11, N, itemCells EI (a.1 ++ m :: b.1), some gg⟩ (by simp)) HY.out).1
                  have k6 := (row_item (RS.row hRj ⟨2, .slice (some ⟨gg, 0, none⟩) N c11, N, itemCells EI (a.1 ++ m :: b.1), some gg⟩ (by simp)) HY.out).2
                  have hHeld : (fun w' => w'.cell? ⟨b13, 0, none⟩ = some (.slice none 0 0) ∧ w'.cell? ⟨w.heap.size, 0, none⟩ = some (.slice (some ⟨ib, io, none⟩) P icap) ∧ w'.cell? ⟨gg, e * 2, none⟩ = some (.int .i64 y.1) ∧ w'.cell? ⟨gg, e * 2 + 1, none⟩ = some (.int .i64 y.2)) wj := by go_keep
                  clear hRj
                  refine Last.one_ (i := 12) (N := some 155) #[Y,Y,Y,Y,Y,Y,Y,Y,Y,Y,Y,Y,Y,Y,Y,Y,Y,Y,Z,Z,Z] rfl rfl (by kernel_rfl) (by decide) (fun K hK => ?_)
                  have RSX := HS.out
                  refine step_any (by rfl) _ _ _ (by rfl) 35 i0 _ 2 16 Try.underlying22 HI0.out HZ0.out HZ1.out HZ2.out (by rfl) (by decide) (.slice s41 j c41) j (itemCells EI (t.1.take j)) g41 (by rfl) (RSX.row ⟨2, (.slice s41 j c41), j, (itemCells EI (t.1.take j)), g41⟩ (by first | simp | exact List.mem_cons_self ..)) ⟨nb, 0, none⟩ 1 1 [.int .i64 y.1, .int .i64 y.2] ⟨_, by rfl, fun _ => by rfl⟩ (by rfl) (fun q u hq => by rw [Addr.add_lit, Nat.zero_add]; exact (RSX.at (b := nb) (vs := [.int .i64 y.1, .int .i64 y.2]) (by first | simp | exact List.mem_cons_self ..)).cell q hq) (by simp [Value.oneCell']) (by unfold maxLen; omega) (by omega) ?_
                  intro v42 w42 g42 hr hg hF
                  have HS := hidp (RS.grow (A := []) RSX hr hg hF)
                  obtain ⟨s42, c42, hv42⟩ := Row.len hr
                  subst hv42
                  have k2 := (RS.at HS.out (b := b13) (vs := [.slice none 0 0, .slice none 0 0, .int .i64 0]) (by simp)).cell 0 rfl
                  have k3 := (RS.at HS.out (b := w.heap.size) (vs := [.slice (some ⟨ib, io, none⟩) P icap, .slice (some ⟨kb, ko, none⟩) Q kcap, .int .i64 c]) (by simp)).cell 0 rfl
                  have k2f := (RS.at HS.out (b := b13) (vs := [.slice none 0 0, .slice none 0 0, .int .i64 0]) (by simp)).froz 0 (v := .slice none 0 0) rfl
                  have hl13 := (RS.at HS.out (b := b13) (vs := [.slice none 0 0, .slice none 0 0, .int .i64 0]) (by simp)).1
                  have k5 := (row_item (RS.row HS.out ⟨2, .slice (some ⟨gg, 0, none⟩) N c11, N, itemCells EI (a.1 ++ m :: b.1), some gg⟩ (by simp)) HY.out).1
                  have k6 := (row_item (RS.row HS.out ⟨2, .slice (some ⟨gg, 0, none⟩) N c11, N, itemCells EI (a.1 ++ m :: b.1), some gg⟩ (by simp)) HY.out).2
                  clear hr hg hF RSX
                  refine hK.out _ _ ?_ (fun hHeld => ?_)
                  · (try dsimp only); go_keep
                  clear hK K
                  try simp only [Act.put, setIfInBounds_toArray, set_cons_zero, set_cons_succ]
                  refine Last.one_ (i := 18) (N := some 161) #[Y,Y,Y,Y,Y,Y,Y,Y,Y,Y,Y,Y,Y,Y,Y,Y,Y,Y,Y,Z,Z] rfl rfl (by kernel_rfl) (by decide) (fun K hK => ?_)
                  have RSX := HS.out
                  refine step_any (by rfl) _ _ _ (by rfl) 35 i0 _ 2 16 Try.underlying22 HI0.out HZ0.out HZ1.out HZ2.out (by rfl) (by decide) (.slice s42 (j + 1) c42) (j + 1) (itemCells EI (t.1.take j) ++ [.int .i64 y.1, .int .i64 y.2]) g42 (by rfl) (RSX.row ⟨2, (.slice s42 (j + 1) c42), (j + 1), (itemCells EI (t.1.take j) ++ [.int .i64 y.1, .int .i64 y.2]), g42⟩ (by first | simp | exact List.mem_cons_self ..)) ⟨ib, io + (j + 1) * 2, none⟩ (P - (j + 1)) (icap - (j + 1)) (itemCells EI (t.1.drop (j + 1))) ⟨_, by rfl, fun hm => by first | rfl | exact if_neg (by omega) | simp⟩ (by rw [itemCells_length, List.length_drop, ← HPT.out]; rfl) (HDR.out _ RSX.below) (itemCells_one _) (by unfold maxLen; omega) (by omega) ?_
                  intro v43 w43 g43 hr hg hF
                  have HS := hidp (RS.grow (A := []) RSX hr hg hF)
                  obtain ⟨s43, c43, hv43⟩ := Row.len hr
                  subst hv43
                  have k2 := (RS.at HS.out (b := b13) (vs := [.slice none 0 0, .slice none 0 0, .int .i64 0]) (by simp)).cell 0 rfl
                  have k3 := (RS.at HS.out (b := w.heap.size) (vs := [.slice (some ⟨ib, io, none⟩) P icap, .slice (some ⟨kb, ko, none⟩) Q kcap, .int .i64 c]) (by simp)).cell 0 rfl
                  have k2f := (RS.at HS.out (b := b13) (vs := [.slice none 0 0, .slice none 0 0, .int .i64 0]) (by simp)).froz 0 (v := .slice none 0 0) rfl
                  have hl13 := (RS.at HS.out (b := b13) (vs := [.slice none 0 0, .slice none 0 0, .int .i64 0]) (by simp)).1
                  have k5 := (row_item (RS.row HS.out ⟨2, .slice (some ⟨gg, 0, none⟩) N c11, N, itemCells EI (a.1 ++ m :: b.1), some gg⟩ (by simp)) HY.out).1
                  have k6 := (row_item (RS.row HS.out ⟨2, .slice (some ⟨gg, 0, none⟩) N c11, N, itemCells EI (a.1 ++ m :: b.1), some gg⟩ (by simp)) HY.out).2
                  clear hr hg hF RSX
                  refine hK.out _ _ ?_ (fun hHeld => ?_)
                  · (try dsimp only); go_keep
                  clear hK K
                  try simp only [Act.put, setIfInBounds_toArray, set_cons_zero, set_cons_succ]
                  refine Last.tk 19 162 #[Y,Y,Y,Y,Y,Y,Y,Y,Y,Y,Y,Y,Y,Y,Y,Y,Y,Y,Y,Y,Z] rfl rfl hHeld ?_
                  refine Last.last_ (i := 20) (N := none) #[Y,Y,Y,Y,Y,Y,Y,Y,Y,Y,Y,Y,Y,Y,Y,Y,Y,Y,Y,Y,Y] rfl rfl (by kernel_rfl) (by decide) (fun K hK => ?_)
                  go_simp
                  refine hK.out _ _ ?_
                  clear hK K
                  try simp only [Act.put, setIfInBounds_toArray, set_cons_zero, set_cons_succ]
                  refine Last.done_ (by kernel_rfl) ?_
                  have hu17 := Upd.one w43 (b := b13) (o := 0) (.slice s43 (j + 1 + (P - (j + 1))) c43) (by rw [M_of k2 k2f]; rfl)
                  have h17 := RS.put (A := [(nb, [.int .i64 y.1, .int .i64 y.2]), (b15, [.slice (some ⟨gg, 0, none⟩) e c11, .slice (some ⟨hh, 0, none⟩) (e + 1) c12, .int .i64 0]), (b16, [.slice z14 (N - (e + 1)) (c11 - (e + 1)), .slice z16 (a5 + b5 - (e + 1)) (c12 - (e + 1)), .int .i64 0])]) HS.out hu17.fr (Bx.set (RS.at HS.out (b := b13) (vs := [.slice none 0 0, .slice none 0 0, .int .i64 0]) (by simp)) hu17)
                  have HB17 := hidp (RS.sub (BX' := (b15, [.slice (some ⟨gg, 0, none⟩) e c11, .slice (some ⟨hh, 0, none⟩) (e + 1) c12, .int .i64 0]) :: (b16, [.slice z14 (N - (e + 1)) (c11 - (e + 1)), .slice z16 (a5 + b5 - (e + 1)) (c12 - (e + 1)), .int .i64 0]) :: (b13, [.slice s43 (j + 1 + (P - (j + 1))) c43, .slice none 0 0, .int .i64 0]) :: [(b8, [.slice a1 a2 a3, .slice a4 a5 a6, .int .i64 ac]), (b9, [.slice b1 b2 b3, .slice b4 b5 b6, .int .i64 bc]), (b10, [.int .i64 m.1, .int .i64 m.2]), (w.heap.size + 1, [.slice none 0 0, .slice none 0 0, .int .i64 0]), (w.heap.size, [.slice (some ⟨ib, io, none⟩) P icap, .slice (some ⟨kb, ko, none⟩) Q kcap, .int .i64 c])]) h17 (fun q hq => List.mem_cons_of_mem _ hq) (List.nodup_cons.1 h17.nd).2)
                  clear hu17 h17 k2 k3 k2f hl13 k5 k6 HS HB15 HTK HDR hHeld
                  generalize (w43.setCell ⟨b13, 0, none⟩ (.slice s43 (j + 1 + (P - (j + 1))) c43)) = w17 at HB17 ⊢
                  generalize (if icap = j + 1 then (some ⟨ib, io, none⟩ : Option Addr) else some ⟨ib, io + (j + 1) * 2, none⟩) = zz17
                  obtain ⟨Lx, hLx, hgx⟩ := NodeAt.kids HN.out
                  have hgx : Flat 3 w (.slice (some ⟨kb, ko, none⟩) Q kcap) Q (kcells Lx) := by rw [HT.out.2.2.2.2.1] at hgx ⊢; exact hgx
                  have HKX := hidp hLx
                  have HGX := hidp hgx
                  clear hLx hgx
                  have HTKK : Hid (∀ wr : World, Below w.heap.size w wr → ∀ q u, (kcells (Lx.take j))[q]? = some u → wr.cell? ((⟨kb, ko, none⟩ : Addr).add q) = some u) := hidp fun wr hbw q u hq => by
                    obtain ⟨A0, hA0, hsrc⟩ := Flat.src HGX.out
                    obtain rfl := Option.some.inj (hA0 (by omega))
                    refine hsrc wr hbw q u ?_
                    rw [← kcells_take, List.getElem?_take] at hq
                    split at hq
                    · exact hq
                    · cases hq
                  have HDRK : Hid (∀ wr : World, Below w.heap.size w wr → ∀ q u, (kcells (Lx.drop (j + 2)))[q]? = some u → wr.cell? ((⟨kb, ko + (j + 2) * 3, none⟩ : Addr).add q) = some u) := hidp fun wr hbw q u hq => by
                    obtain ⟨A0, hA0, hsrc⟩ := Flat.src HGX.out
                    obtain rfl := Option.some.inj (hA0 (by omega))
                    rw [← kcells_drop, List.getElem?_drop] at hq
                    have h9 := hsrc wr hbw _ u hq
                    rw [Addr.add_lit] at h9 ⊢
                    rw [Nat.add_assoc]
                    exact h9
                  have k2 := (RS.at HB17.out (b := b13) (vs := [.slice s43 (j + 1 + (P - (j + 1))) c43, .slice none 0 0, .int .i64 0]) (by simp)).cell 1 rfl
                  have k3 := (RS.at HB17.out (b := w.heap.size) (vs := [.slice (some ⟨ib, io, none⟩) P icap, .slice (some ⟨kb, ko, none⟩) Q kcap, .int .i64 c]) (by simp)).cell 1 rfl
                  have k2f := (RS.at HB17.out (b := b13) (vs := [.slice s43 (j + 1 + (P - (j + 1))) c43, .slice none 0 0, .int .i64 0]) (by simp)).froz 1 (v := .slice none 0 0) rfl
                  have hl13 := (RS.at HB17.out (b := b13) (vs := [.slice s43 (j + 1 + (P - (j + 1))) c43, .slice none 0 0, .int .i64 0]) (by simp)).1
                  have n0 := (RS.at HB17.out (b := b15) (vs := [.slice (some ⟨gg, 0, none⟩) e c11, .slice (some ⟨hh, 0, none⟩) (e + 1) c12, .int .i64 0]) (by simp)).cell 0 rfl
                  have n1 := (RS.at HB17.out (b := b15) (vs := [.slice (some ⟨gg, 0, none⟩) e c11, .slice (some ⟨hh, 0, none⟩) (e + 1) c12, .int .i64 0]) (by simp)).cell 1 rfl
                  have n2 := (RS.at HB17.out (b := b15) (vs := [.slice (some ⟨gg, 0, none⟩) e c11, .slice (some ⟨hh, 0, none⟩) (e + 1) c12, .int .i64 0]) (by simp)).cell 2 rfl
                  have n3 := (RS.at HB17.out (b := b16) (vs := [.slice z14 (N - (e + 1)) (c11 - (e + 1)), .slice z16 (a5 + b5 - (e + 1)) (c12 - (e + 1)), .int .i64 0]) (by simp)).cell 0 rfl
                  have n4 := (RS.at HB17.out (b := b16) (vs := [.slice z14 (N - (e + 1)) (c11 - (e + 1)), .slice z16 (a5 + b5 - (e + 1)) (c12 - (e + 1)), .int .i64 0]) (by simp)).cell 1 rfl
                  have n5 := (RS.at HB17.out (b := b16) (vs := [.slice z14 (N - (e + 1)) (c11 - (e + 1)), .slice z16 (a5 + b5 - (e + 1)) (c12 - (e + 1)), .int .i64 0]) (by simp)).cell 2 rfl
                  have k8 : (j : Int) ≤ (kcap : Int) := by omega
                  have hwj2 : IntKind.i64.wrap ((j : Int) + 2) = (j : Int) + 2 := by rw [Last.i64_w, IntWalk.wrap64_in _ ⟨by omega, by omega⟩]
                  have hQb : Q ≤ 4000001 := by have h9 := HKL.out; omega
                  have k9 : (j : Int) + 2 ≤ (Q : Int) := by omega
                  have k10 : (0 : Int) ≤ (j : Int) + 2 := by omega
                  go_wp2_with fail
                  refine Last.start_ (S := fun w' => w'.cell? ⟨b13, 1, none⟩ = some (.slice none 0 0) ∧ w'.cell? ⟨w.heap.size, 1, none⟩ = some (.slice (some ⟨kb, ko, none⟩) Q kcap) ∧ w'.cell? ⟨b15, 0, none⟩ = some (.slice (some ⟨gg, 0, none⟩) e c11) ∧ w'.cell? ⟨b15, 1, none⟩ = some (.slice (some ⟨hh, 0, none⟩) (e + 1) c12) ∧ w'.cell? ⟨b15, 2, none⟩ = some (.int .i64 0) ∧ w'.cell? ⟨b16, 0, none⟩ = some (.slice z14 (N - (e + 1)) (c11 - (e + 1))) ∧ w'.cell? ⟨b16, 1, none⟩ = some (.slice z16 (a5 + b5 - (e + 1)) (c12 - (e + 1))) ∧ w'.cell? ⟨b16, 2, none⟩ = some (.int .i64 0)) (ds := [18]) #[Z,Z,Z,Z,Z,Z,Z,Z,Z,Z,Z,Z,Z,Z,Z,Z,Z,Z,Z] (by rfl) (by rfl) (by rfl) ?_ (fun hHeld => ?_)
                  · go_keep
                  refine Last.tk 0 163 #[Y,Z,Z,Z,Z,Z,Z,Z,Z,Z,Z,Z,Z,Z,Z,Z,Z,Z,Z] rfl rfl hHeld ?_
                  refine Last.tk 1 164 #[Y,Y,Z,Z,Z,Z,Z,Z,Z,Z,Z,Z,Z,Z,Z,Z,Z,Z,Z] rfl rfl hHeld ?_
                  refine Last.tk 2 165 #[Y,Y,Y,Z,Z,Z,Z,Z,Z,Z,Z,Z,Z,Z,Z,Z,Z,Z,Z] rfl rfl hHeld ?_
                  refine Last.tk 3 166 #[Y,Y,Y,Y,Z,Z,Z,Z,Z,Z,Z,Z,Z,Z,Z,Z,Z,Z,Z] rfl rfl hHeld ?_
                  refine Last.tk 4 167 #[Y,Y,Y,Y,Y,Z,Z,Z,Z,Z,Z,Z,Z,Z,Z,Z,Z,Z,Z] rfl rfl hHeld ?_
                  refine Last.tk 5 168 #[Y,Y,Y,Y,Y,Y,Z,Z,Z,Z,Z,Z,Z,Z,Z,Z,Z,Z,Z] rfl rfl hHeld ?_
                  refine Last.tk 7 170 #[Y,Y,Y,Y,Y,Y,Z,Y,Z,Z,Z,Z,Z,Z,Z,Z,Z,Z,Z] rfl rfl hHeld ?_
                  refine Last.tk 8 171 #[Y,Y,Y,Y,Y,Y,Z,Y,Y,Z,Z,Z,Z,Z,Z,Z,Z,Z,Z] rfl rfl hHeld ?_
                  refine Last.tk 11 174 #[Y,Y,Y,Y,Y,Y,Z,Y,Y,Z,Z,Y,Z,Z,Z,Z,Z,Z,Z] rfl rfl hHeld ?_
                  refine Last.tk 12 175 #[Y,Y,Y,Y,Y,Y,Z,Y,Y,Z,Z,Y,Y,Z,Z,Z,Z,Z,Z] rfl rfl hHeld ?_
                  refine Last.tk 13 176 #[Y,Y,Y,Y,Y,Y,Z,Y,Y,Z,Z,Y,Y,Y,Z,Z,Z,Z,Z] rfl rfl hHeld ?_
                  refine Last.tk 14 177 #[Y,Y,Y,Y,Y,Y,Z,Y,Y,Z,Z,Y,Y,Y,Y,Z,Z,Z,Z] rfl rfl hHeld ?_
                  refine Last.tk 15 178 #[Y,Y,Y,Y,Y,Y,Z,Y,Y,Z,Z,Y,Y,Y,Y,Y,Z,Z,Z] rfl rfl hHeld ?_
                  refine Last.join_ (σ := Option Addr × Nat × Option Nat × Nat) 4 #[Y,Y,Y,Y,Y,Y,Y,Y,Y,Y,Z,Y,Y,Y,Y,Y,Z,Z,Z] (fun s => [(169, .slice s.1 j s.2.1), (172, .slice (some ⟨s.2.2.2, 0, none⟩) 2 2)]) (fun s W => RS w ((s.2.2.2, [.slice (some ⟨gg, 0, none⟩) e c11, .slice (some ⟨hh, 0, none⟩) (e + 1) c12, .int .i64 0, .slice z14 (N - (e + 1)) (c11 - (e + 1)), .slice z16 (a5 + b5 - (e + 1)) (c12 - (e + 1)), .int .i64 0]) :: (b15, [.slice (some ⟨gg, 0, none⟩) e c11, .slice (some ⟨hh, 0, none⟩) (e + 1) c12, .int .i64 0]) :: (b16, [.slice z14 (N - (e + 1)) (c11 - (e + 1)), .slice z16 (a5 + b5 - (e + 1)) (c12 - (e + 1)), .int .i64 0]) :: (b13, [.slice s43 (j + 1 + (P - (j + 1))) c43, .slice none 0 0, .int .i64 0]) :: [(b8, [.slice a1 a2 a3, .slice a4 a5 a6, .int .i64 ac]), (b9, [.slice b1 b2 b3, .slice b4 b5 b6, .int .i64 bc]), (b10, [.int .i64 m.1, .int .i64 m.2]), (w.heap.size + 1, [.slice none 0 0, .slice none 0 0, .int .i64 0]), (w.heap.size, [.slice (some ⟨ib, io, none⟩) P icap, .slice (some ⟨kb, ko, none⟩) Q kcap, .int .i64 c])]) [⟨3, .slice s.1 j s.2.1, j, (kcells (Lx.take j)), s.2.2.1⟩, ⟨2, .slice s43 (j + 1 + (P - (j + 1))) c43, j + 1 + (P - (j + 1)), itemCells EI (t.1.take j) ++ [.int .i64 y.1, .int .i64 y.2] ++ itemCells EI (t.1.drop (j + 1)), g43⟩, ⟨3, .slice (some ⟨hh, 0, none⟩) (a5 + b5) c12, a5 + b5, kcells (La ++ Lb), some hh⟩, ⟨2, .slice (some ⟨gg, 0, none⟩) N c11, N, itemCells EI (a.1 ++ m :: b.1), some gg⟩] W) (fun s wj hRj => ?_) (fun hcont => ?_)
                  rotate_left
                  · refine Last.two_ (i := 6) (j := 9) (Ni := some 169) (Nj := some 172) #[Y,Y,Y,Y,Y,Y,Y,Y,Y,Z,Z,Y,Y,Y,Y,Y,Z,Z,Z] #[Y,Y,Y,Y,Y,Y,Z,Y,Y,Y,Z,Y,Y,Y,Y,Y,Z,Z,Z] rfl rfl rfl rfl (by kernel_rfl) (by decide) (by decide) (fun K hK => ?_) (fun K hK => ?_)
                    · have RSX := RS.nil HB17.out.drew 3
                      refine step_any (by rfl) _ _ _ (by rfl) 25 i1 _ 3 56 Try.underlying23 HI1.out HY0.out HY1.out HY2.out (by rfl) (by decide) (.slice none 0 0) 0 [] none (by rfl) (RSX.row ⟨3, (.slice none 0 0), 0, [], none⟩ (by first | simp | exact List.mem_cons_self ..)) ⟨kb, ko, none⟩ j kcap (kcells (Lx.take j)) ⟨_, by rfl, fun _ => by rfl⟩ (by rw [kcells_length, List.length_take, Nat.min_eq_left (by have h9 := HKX.out.1; have h8 := HT.out.2.2.2.2.1; omega)]) (HTKK.out _ RSX.below) (KL.one_cell (HKX.out.take j)) (by unfold maxLen; omega) (by omega) ?_
                      intro v51 w51 g51 hr hg hF
                      rw [Nat.zero_add, List.nil_append] at hr
                      have HS := hidp (RS.grow (A := []) RSX hr hg hF)
                      obtain ⟨s51, c51, hv51⟩ := Row.len hr
                      subst hv51
                      have k2 := (RS.at HS.out (b := b13) (vs := [.slice s43 (j + 1 + (P - (j + 1))) c43, .slice none 0 0, .int .i64 0]) (by simp)).cell 1 rfl
                      have k3 := (RS.at HS.out (b := w.heap.size) (vs := [.slice (some ⟨ib, io, none⟩) P icap, .slice (some ⟨kb, ko, none⟩) Q kcap, .int .i64 c]) (by simp)).cell 1 rfl
                      have k2f := (RS.at HS.out (b := b13) (vs := [.slice s43 (j + 1 + (P - (j + 1))) c43, .slice none 0 0, .int .i64 0]) (by simp)).froz 1 (v := .slice none 0 0) rfl
                      have hl13 := (RS.at HS.out (b := b13) (vs := [.slice s43 (j + 1 + (P - (j + 1))) c43, .slice none 0 0, .int .i64 0]) (by simp)).1
                      have n0 := (RS.at HS.out (b := b15) (vs := [.slice (some ⟨gg, 0, none⟩) e c11, .slice (some ⟨hh, 0, none⟩) (e + 1) c12, .int .i64 0]) (by simp)).cell 0 rfl
                      have n1 := (RS.at HS.out (b := b15) (vs := [.slice (some ⟨gg, 0, none⟩) e c11, .slice (some ⟨hh, 0, none⟩) (e + 1) c12, .int .i64 0]) (by simp)).cell 1 rfl
                      have n2 := (RS.at HS.out (b := b15) (vs := [.slice (some ⟨gg, 0, none⟩) e c11, .slice (some ⟨hh, 0, none⟩) (e + 1) c12, .int .i64 0]) (by simp)).cell 2 rfl
                      have n3 := (RS.at HS.out (b := b16) (vs := [.slice z14 (N - (e + 1)) (c11 - (e + 1)), .slice z16 (a5 + b5 - (e + 1)) (c12 - (e + 1)), .int .i64 0]) (by simp)).cell 0 rfl
                      have n4 := (RS.at HS.out (b := b16) (vs := [.slice z14 (N - (e + 1)) (c11 - (e + 1)), .slice z16 (a5 + b5 - (e + 1)) (c12 - (e + 1)), .int .i64 0]) (by simp)).cell 1 rfl
                      have n5 := (RS.at HS.out (b := b16) (vs := [.slice z14 (N - (e + 1)) (c11 - (e + 1)), .slice z16 (a5 + b5 - (e + 1)) (c12 - (e + 1)), .int .i64 0]) (by simp)).cell 2 rfl
                      clear hr hg hF RSX
                      refine hK.out _ _ ?_ (fun hHeld => ?_)
                      · (try dsimp only); go_keep
                      clear hK K
                      try simp only [Act.put, setIfInBounds_toArray, set_cons_zero, set_cons_succ]
                      refine Last.one_ (i := 9) (N := some 172) #[Y,Y,Y,Y,Y,Y,Y,Y,Y,Y,Z,Y,Y,Y,Y,Y,Z,Z,Z] rfl rfl (by kernel_rfl) (by decide) (fun K hK => ?_)
                      go_simp
                      have HS0 := hidp (HS.out.box [.slice (some ⟨gg, 0, none⟩) e c11, .slice (some ⟨hh, 0, none⟩) (e + 1) c12, .int .i64 0, .slice z14 (N - (e + 1)) (c11 - (e + 1)), .slice z16 (a5 + b5 - (e + 1)) (c12 - (e + 1)), .int .i64 0] 25)
                      have k2 := (RS.at HS0.out (b := b13) (vs := [.slice s43 (j + 1 + (P - (j + 1))) c43, .slice none 0 0, .int .i64 0]) (by simp)).cell 1 rfl
                      have k3 := (RS.at HS0.out (b := w.heap.size) (vs := [.slice (some ⟨ib, io, none⟩) P icap, .slice (some ⟨kb, ko, none⟩) Q kcap, .int .i64 c]) (by simp)).cell 1 rfl
                      have k2f := (RS.at HS0.out (b := b13) (vs := [.slice s43 (j + 1 + (P - (j + 1))) c43, .slice none 0 0, .int .i64 0]) (by simp)).froz 1 (v := .slice none 0 0) rfl
                      have hl13 := (RS.at HS0.out (b := b13) (vs := [.slice s43 (j + 1 + (P - (j + 1))) c43, .slice none 0 0, .int .i64 0]) (by simp)).1
                      have n0 := (RS.at HS0.out (b := b15) (vs := [.slice (some ⟨gg, 0, none⟩) e c11, .slice (some ⟨hh, 0, none⟩) (e + 1) c12, .int .i64 0]) (by simp)).cell 0 rfl
                      have n1 := (RS.at HS0.out (b := b15) (vs := [.slice (some ⟨gg, 0, none⟩) e c11, .slice (some ⟨hh, 0, none⟩) (e + 1) c12, .int .i64 0]) (by simp)).cell 1 rfl
                      have n2 := (RS.at HS0.out (b := b15) (vs := [.slice (some ⟨gg, 0, none⟩) e c11, .slice (some ⟨hh, 0, none⟩) (e + 1) c12, .int .i64 0]) (by simp)).cell 2 rfl
                      have n3 := (RS.at HS0.out (b := b16) (vs := [.slice z14 (N - (e + 1)) (c11 - (e + 1)), .slice z16 (a5 + b5 - (e + 1)) (c12 - (e + 1)), .int .i64 0]) (by simp)).cell 0 rfl
                      have n4 := (RS.at HS0.out (b := b16) (vs := [.slice z14 (N - (e + 1)) (c11 - (e + 1)), .slice z16 (a5 + b5 - (e + 1)) (c12 - (e + 1)), .int .i64 0]) (by simp)).cell 1 rfl
                      have n5 := (RS.at HS0.out (b := b16) (vs := [.slice z14 (N - (e + 1)) (c11 - (e + 1)), .slice z16 (a5 + b5 - (e + 1)) (c12 - (e + 1)), .int .i64 0]) (by simp)).cell 2 rfl
                      refine hK.out _ _ ?_ (fun hHeld => ?_)
                      · (try dsimp only); go_keep
                      clear hK K
                      try simp only [Act.put, setIfInBounds_toArray, set_cons_zero, set_cons_succ]
                      exact hcont (s51, c51, g51, w51.heap.size) _ HS0.out
                    · go_simp
                      have HS0 := hidp (HB17.out.drew.box [.slice (some ⟨gg, 0, none⟩) e c11, .slice (some ⟨hh, 0, none⟩) (e + 1) c12, .int .i64 0, .slice z14 (N - (e + 1)) (c11 - (e + 1)), .slice z16 (a5 + b5 - (e + 1)) (c12 - (e + 1)), .int .i64 0] 25)
                      have k2 := (RS.at HS0.out (b := b13) (vs := [.slice s43 (j + 1 + (P - (j + 1))) c43, .slice none 0 0, .int .i64 0]) (by simp)).cell 1 rfl
                      have k3 := (RS.at HS0.out (b := w.heap.size) (vs := [.slice (some ⟨ib, io, none⟩) P icap, .slice (some ⟨kb, ko, none⟩) Q kcap, .int .i64 c]) (by simp)).cell 1 rfl
                      have k2f := (RS.at HS0.out (b := b13) (vs := [.slice s43 (j + 1 + (P - (j + 1))) c43, .slice none 0 0, .int .i64 0]) (by simp)).froz 1 (v := .slice none 0 0) rfl
                      have hl13 := (RS.at HS0.out (b := b13) (vs := [.slice s43 (j + 1 + (P - (j + 1))) c43, .slice none 0 0, .int .i64 0]) (by simp)).1
                      have n0 := (RS.at HS0.out (b := b15) (vs := [.slice (some ⟨gg, 0, none⟩) e c11, .slice (some ⟨hh, 0, none⟩) (e + 1) c12, .int .i64 0]) (by simp)).cell 0 rfl
                      have n1 := (RS.at HS0.out (b := b15) (vs := [.slice (some ⟨gg, 0, none⟩) e c11, .slice (some ⟨hh, 0, none⟩) (e + 1) c12, .int .i64 0]) (by simp)).cell 1 rfl
                      have n2 := (RS.at HS0.out (b := b15) (vs := [.slice (some ⟨gg, 0, none⟩) e c11, .slice (some ⟨hh, 0, none⟩) (e + 1) c12, .int .i64 0]) (by simp)).cell 2 rfl
                      have n3 := (RS.at HS0.out (b := b16) (vs := [.slice z14 (N - (e + 1)) (c11 - (e + 1)), .slice z16 (a5 + b5 - (e + 1)) (c12 - (e + 1)), .int .i64 0]) (by simp)).cell 0 rfl
                      have n4 := (RS.at HS0.out (b := b16) (vs := [.slice z14 (N - (e + 1)) (c11 - (e + 1)), .slice z16 (a5 + b5 - (e + 1)) (c12 - (e + 1)), .int .i64 0]) (by simp)).cell 1 rfl
                      have n5 := (RS.at HS0.out (b := b16) (vs := [.slice z14 (N - (e + 1)) (c11 - (e + 1)), .slice z16 (a5 + b5 - (e + 1)) (c12 - (e + 1)), .int .i64 0]) (by simp)).cell 2 rfl
                      refine hK.out _ _ ?_ (fun hHeld => ?_)
                      · (try dsimp only); go_keep
                      clear hK K
                      try simp only [Act.put, setIfInBounds_toArray, set_cons_zero, set_cons_succ]
                      refine Last.one_ (i := 6) (N := some 169) #[Y,Y,Y,Y,Y,Y,Y,Y,Y,Y,Z,Y,Y,Y,Y,Y,Z,Z,Z] rfl rfl (by kernel_rfl) (by decide) (fun K hK => ?_)
                      have RSX := RS.nil HS0.out 3
                      refine step_any (by rfl) _ _ _ (by rfl) 25 i1 _ 3 56 Try.underlying23 HI1.out HY0.out HY1.out HY2.out (by rfl) (by decide) (.slice none 0 0) 0 [] none (by rfl) (RSX.row ⟨3, (.slice none 0 0), 0, [], none⟩ (by first | simp | exact List.mem_cons_self ..)) ⟨kb, ko, none⟩ j kcap (kcells (Lx.take j)) ⟨_, by rfl, fun _ => by rfl⟩ (by rw [kcells_length, List.length_take, Nat.min_eq_left (by have h9 := HKX.out.1; have h8 := HT.out.2.2.2.2.1; omega)]) (HTKK.out _ RSX.below) (KL.one_cell (HKX.out.take j)) (by unfold maxLen; omega) (by omega) ?_
                      intro v51 w51 g51 hr hg hF
                      rw [Nat.zero_add, List.nil_append] at hr
                      have HS := hidp (RS.grow (A := []) RSX hr hg hF)
                      obtain ⟨s51, c51, hv51⟩ := Row.len hr
                      subst hv51
                      have k2 := (RS.at HS.out (b := b13) (vs := [.slice s43 (j + 1 + (P - (j + 1))) c43, .slice none 0 0, .int .i64 0]) (by simp)).cell 1 rfl
                      have k3 := (RS.at HS.out (b := w.heap.size) (vs := [.slice (some ⟨ib, io, none⟩) P icap, .slice (some ⟨kb, ko, none⟩) Q kcap, .int .i64 c]) (by simp)).cell 1 rfl
                      have k2f := (RS.at HS.out (b := b13) (vs := [.slice s43 (j + 1 + (P - (j + 1))) c43, .slice none 0 0, .int .i64 0]) (by simp)).froz 1 (v := .slice none 0 0) rfl
                      have hl13 := (RS.at HS.out (b := b13) (vs := [.slice s43 (j + 1 + (P - (j + 1))) c43, .slice none 0 0, .int .i64 0]) (by simp)).1
                      have n0 := (RS.at HS.out (b := b15) (vs := [.slice (some ⟨gg, 0, none⟩) e c11, .slice (some ⟨hh, 0, none⟩) (e + 1) c12, .int .i64 0]) (by simp)).cell 0 rfl
                      have n1 := (RS.at HS.out (b := b15) (vs := [.slice (some ⟨gg, 0, none⟩) e c11, .slice (some ⟨hh, 0, none⟩) (e + 1) c12, .int .i64 0]) (by simp)).cell 1 rfl
                      have n2 := (RS.at HS.out (b := b15) (vs := [.slice (some ⟨gg, 0, none⟩) e c11, .slice (some ⟨hh, 0, none⟩) (e + 1) c12, .int .i64 0]) (by simp)).cell 2 rfl
                      have n3 := (RS.at HS.out (b := b16) (vs := [.slice z14 (N - (e + 1)) (c11 - (e + 1)), .slice z16 (a5 + b5 - (e + 1)) (c12 - (e + 1)), .int .i64 0]) (by simp)).cell 0 rfl
                      have n4 := (RS.at HS.out (b := b16) (vs := [.slice z14 (N - (e + 1)) (c11 - (e + 1)), .slice z16 (a5 + b5 - (e + 1)) (c12 - (e + 1)), .int .i64 0]) (by simp)).cell 1 rfl
                      have n5 := (RS.at HS.out (b := b16) (vs := [.slice z14 (N - (e + 1)) (c11 - (e + 1)), .slice z16 (a5 + b5 - (e + 1)) (c12 - (e + 1)), .int .i64 0]) (by simp)).cell 2 rfl
                      clear hr hg hF RSX
                      refine hK.out _ _ ?_ (fun hHeld => ?_)
                      · (try dsimp only); go_keep
                      clear hK K
                      try simp only [Act.put, setIfInBounds_toArray, set_cons_zero, set_cons_succ]
                      exact hcont (s51, c51, g51, w17.heap.size) _ HS.out
                  obtain ⟨s51, c51, g51, nb⟩ := s
                  try simp only [Last.putAll, Act.put, List.setIfInBounds_toArray, List.set_cons_zero, List.set_cons_succ]
                  have HS := hidp hRj
                  have k2 := (RS.at hRj (b := b13) (vs := [.slice s43 (j + 1 + (P - (j + 1))) c43, .slice none 0 0, .int .i64 0]) (by simp)).cell 1 rfl
                  have k3 := (RS.at hRj (b := w.heap.size) (vs := [.slice (some ⟨ib, io, none⟩) P icap, .slice (some ⟨kb, ko, none⟩) Q kcap, .int .i64 c]) (by simp)).cell 1 rfl
                  have k2f := (RS.at hRj (b := b13) (vs := [.slice s43 (j + 1 + (P - (j + 1))) c43, .slice none 0 0, .int .i64 0]) (by simp)).froz 1 (v := .slice none 0 0) rfl
                  have hl13 := (RS.at hRj (b := b13) (vs := [.slice s43 (j + 1 + (P - (j + 1))) c43, .slice none 0 0, .int .i64 0]) (by simp)).1
                  have n0 := (RS.at hRj (b := b15) (vs := [.slice (some ⟨gg, 0, none⟩) e c11, .slice (some ⟨hh, 0, none⟩) (e + 1) c12, .int .i64 0]) (by simp)).cell 0 rfl
                  have n1 := (RS.at hRj (b := b15) (vs := [.slice (some ⟨gg, 0, none⟩) e c11, .slice (some ⟨hh, 0, none⟩) (e + 1) c12, .int .i64 0]) (by simp)).cell 1 rfl
                  have n2 := (RS.at hRj (b := b15) (vs := [.slice (some ⟨gg, 0, none⟩) e c11, .slice (some ⟨hh, 0, none⟩) (e + 1) c12, .int .i64 0]) (by simp)).cell 2 rfl
                  have n3 := (RS.at hRj (b := b16) (vs := [.slice z14 (N - (e + 1)) (c11 - (e + 1)), .slice z16 (a5 + b5 - (e + 1)) (c12 - (e + 1)), .int .i64 0]) (by simp)).cell 0 rfl
                  have n4 := (RS.at hRj (b := b16) (vs := [.slice z14 (N - (e + 1)) (c11 - (e + 1)), .slice z16 (a5 + b5 - (e + 1)) (c12 - (e + 1)), .int .i64 0]) (by simp)).cell 1 rfl
                  have n5 := (RS.at hRj (b := b16) (vs := [.slice z14 (N - (e + 1)) (c11 - (e + 1)), .slice z16 (a5 + b5 - (e + 1)) (c12 - (e + 1)), .int .i64 0]) (by simp)).cell 2 rfl
                  have hHeld : (fun w' => w'.cell? ⟨b13, 1, none⟩ = some (.slice none 0 0) ∧ w'.cell? ⟨w.heap.size, 1, none⟩ = some (.slice (some ⟨kb, ko, none⟩) Q kcap) ∧ w'.cell? ⟨b15, 0, none⟩ = some (.slice (some ⟨gg, 0, none⟩) e c11) ∧ w'.cell? ⟨b15, 1, none⟩ = some (.slice (some ⟨hh, 0, none⟩) (e + 1) c12) ∧ w'.cell? ⟨b15, 2, none⟩ = some (.int .i64 0) ∧ w'.cell? ⟨b16, 0, none⟩ = some (.slice z14 (N - (e + 1)) (c11 - (e + 1))) ∧ w'.cell? ⟨b16, 1, none⟩ = some (.slice z16 (a5 + b5 - (e + 1)) (c12 - (e + 1))) ∧ w'.cell? ⟨b16, 2, none⟩ = some (.int .i64 0)) wj := by go_keep
                  clear hRj
                  refine Last.one_ (i := 10) (N := some 173) #[Y,Y,Y,Y,Y,Y,Y,Y,Y,Y,Y,Y,Y,Y,Y,Y,Z,Z,Z] rfl rfl (by kernel_rfl) (by decide) (fun K hK => ?_)
                  have RSX := HS.out
                  refine step_any (by rfl) _ _ _ (by rfl) 25 i1 _ 3 56 Try.underlying23 HI1.out HY0.out HY1.out HY2.out (by rfl) (by decide) (.slice s51 j c51) j (kcells (Lx.take j)) g51 (by rfl) (RSX.row ⟨3, (.slice s51 j c51), j, (kcells (Lx.take j)), g51⟩ (by first | simp | exact List.mem_cons_self ..)) ⟨nb, 0, none⟩ 2 2 [.slice (some ⟨gg, 0, none⟩) e c11, .slice (some ⟨hh, 0, none⟩) (e + 1) c12, .int .i64 0, .slice z14 (N - (e + 1)) (c11 - (e + 1)), .slice z16 (a5 + b5 - (e + 1)) (c12 - (e + 1)), .int .i64 0] ⟨_, by rfl, fun _ => by rfl⟩ (by rfl) (fun q u hq => by rw [Addr.add_lit, Nat.zero_add]; exact (RSX.at (b := nb) (vs := [.slice (some ⟨gg, 0, none⟩) e c11, .slice (some ⟨hh, 0, none⟩) (e + 1) c12, .int .i64 0, .slice z14 (N - (e + 1)) (c11 - (e + 1)), .slice z16 (a5 + b5 - (e + 1)) (c12 - (e + 1)), .int .i64 0]) (by first | simp | exact List.mem_cons_self ..)).cell q hq) (by simp [Value.oneCell']) (by unfold maxLen; omega) (by omega) ?_
                  intro v52 w52 g52 hr hg hF
                  have HS := hidp (RS.grow (A := []) RSX hr hg hF)
                  obtain ⟨s52, c52, hv52⟩ := Row.len hr
                  subst hv52
                  have k2 := (RS.at HS.out (b := b13) (vs := [.slice s43 (j + 1 + (P - (j + 1))) c43, .slice none 0 0, .int .i64 0]) (by simp)).cell 1 rfl
                  have k3 := (RS.at HS.out (b := w.heap.size) (vs := [.slice (some ⟨ib, io, none⟩) P icap, .slice (some ⟨kb, ko, none⟩) Q kcap, .int .i64 c]) (by simp)).cell 1 rfl
                  have k2f := (RS.at HS.out (b := b13) (vs := [.slice s43 (j + 1 + (P - (j + 1))) c43, .slice none 0 0, .int .i64 0]) (by simp)).froz 1 (v := .slice none 0 0) rfl
                  have hl13 := (RS.at HS.out (b := b13) (vs := [.slice s43 (j + 1 + (P - (j + 1))) c43, .slice none 0 0, .int .i64 0]) (by simp)).1
                  have n0 := (RS.at HS.out (b := b15) (vs := [.slice (some ⟨gg, 0, none⟩) e c11, .slice (some ⟨hh, 0, none⟩) (e + 1) c12, .int .i64 0]) (by simp)).cell 0 rfl
                  have n1 := (RS.at HS.out (b := b15) (vs := [.slice (some ⟨gg, 0, none⟩) e c11, .slice (some ⟨hh, 0, none⟩) (e + 1) c12, .int .i64 0]) (by simp)).cell 1 rfl
                  have n2 := (RS.at HS.out (b := b15) (vs := [.slice (some ⟨gg, 0, none⟩) e c11, .slice (some ⟨hh, 0, none⟩) (e + 1) c12, .int .i64 0]) (by simp)).cell 2 rfl
                  have n3 := (RS.at HS.out (b := b16) (vs := [.slice z14 (N - (e + 1)) (c11 - (e + 1)), .slice z16 (a5 + b5 - (e + 1)) (c12 - (e + 1)), .int .i64 0]) (by simp)).cell 0 rfl
                  have n4 := (RS.at HS.out (b := b16) (vs := [.slice z14 (N - (e + 1)) (c11 - (e + 1)), .slice z16 (a5 + b5 - (e + 1)) (c12 - (e + 1)), .int .i64 0]) (by simp)).cell 1 rfl
                  have n5 := (RS.at HS.out (b := b16) (vs := [.slice z14 (N - (e + 1)) (c11 - (e + 1)), .slice z16 (a5 + b5 - (e + 1)) (c12 - (e + 1)), .int .i64 0]) (by simp)).cell 2 rfl
                  clear hr hg hF RSX
                  refine hK.out _ _ ?_ (fun hHeld => ?_)
                  · (try dsimp only); go_keep
                  clear hK K
                  try simp only [Act.put, setIfInBounds_toArray, set_cons_zero, set_cons_succ]
                  refine Last.one_ (i := 16) (N := some 179) #[Y,Y,Y,Y,Y,Y,Y,Y,Y,Y,Y,Y,Y,Y,Y,Y,Y,Z,Z] rfl rfl (by kernel_rfl) (by decide) (fun K hK => ?_)
                  have RSX := HS.out
                  refine step_any (by rfl) _ _ _ (by rfl) 25 i1 _ 3 56 Try.underlying23 HI1.out HY0.out HY1.out HY2.out (by rfl) (by decide) (.slice s52 (j + 2) c52) (j + 2) (kcells (Lx.take j) ++ [.slice (some ⟨gg, 0, none⟩) e c11, .slice (some ⟨hh, 0, none⟩) (e + 1) c12, .int .i64 0, .slice z14 (N - (e + 1)) (c11 - (e + 1)), .slice z16 (a5 + b5 - (e + 1)) (c12 - (e + 1)), .int .i64 0]) g52 (by rfl) (RSX.row ⟨3, (.slice s52 (j + 2) c52), (j + 2), (kcells (Lx.take j) ++ [.slice (some ⟨gg, 0, none⟩) e c11, .slice (some ⟨hh, 0, none⟩) (e + 1) c12, .int .i64 0, .slice z14 (N - (e + 1)) (c11 - (e + 1)), .slice z16 (a5 + b5 - (e + 1)) (c12 - (e + 1)), .int .i64 0]), g52⟩ (by first | simp | exact List.mem_cons_self ..)) ⟨kb, ko + (j + 2) * 3, none⟩ (Q - (j + 2)) (kcap - (j + 2)) (kcells (Lx.drop (j + 2))) ⟨_, by rfl, fun hm => by first | rfl | exact if_neg (by omega) | simp⟩ (by rw [kcells_length, List.length_drop, HKX.out.1, ← HT.out.2.2.2.2.1]) (HDRK.out _ RSX.below) (KL.one_cell (HKX.out.drop (j + 2))) (by unfold maxLen; omega) (by omega) ?_
                  intro v53 w53 g53 hr hg hF
                  have HS := hidp (RS.grow (A := []) RSX hr hg hF)
                  obtain ⟨s53, c53, hv53⟩ := Row.len hr
                  subst hv53
                  have k2 := (RS.at HS.out (b := b13) (vs := [.slice s43 (j + 1 + (P - (j + 1))) c43, .slice none 0 0, .int .i64 0]) (by simp)).cell 1 rfl
                  have k3 := (RS.at HS.out (b := w.heap.size) (vs := [.slice (some ⟨ib, io, none⟩) P icap, .slice (some ⟨kb, ko, none⟩) Q kcap, .int .i64 c]) (by simp)).cell 1 rfl
                  have k2f := (RS.at HS.out (b := b13) (vs := [.slice s43 (j + 1 + (P - (j + 1))) c43, .slice none 0 0, .int .i64 0]) (by simp)).froz 1 (v := .slice none 0 0) rfl
                  have hl13 := (RS.at HS.out (b := b13) (vs := [.slice s43 (j + 1 + (P - (j + 1))) c43, .slice none 0 0, .int .i64 0]) (by simp)).1
                  have n0 := (RS.at HS.out (b := b15) (vs := [.slice (some ⟨gg, 0, none⟩) e c11, .slice (some ⟨hh, 0, none⟩) (e + 1) c12, .int .i64 0]) (by simp)).cell 0 rfl
                  have n1 := (RS.at HS.out (b := b15) (vs := [.slice (some ⟨gg, 0, none⟩) e c11, .slice (some ⟨hh, 0, none⟩) (e + 1) c12, .int .i64 0]) (by simp)).cell 1 rfl
                  have n2 := (RS.at HS.out (b := b15) (vs := [.slice (some ⟨gg, 0, none⟩) e c11, .slice (some ⟨hh, 0, none⟩) (e + 1) c12, .int .i64 0]) (by simp)).cell 2 rfl
                  have n3 := (RS.at HS.out (b := b16) (vs := [.slice z14 (N - (e + 1)) (c11 - (e + 1)), .slice z16 (a5 + b5 - (e + 1)) (c12 - (e + 1)), .int .i64 0]) (by simp)).cell 0 rfl
                  have n4 := (RS.at HS.out (b := b16) (vs := [.slice z14 (N - (e + 1)) (c11 - (e + 1)), .slice z16 (a5 + b5 - (e + 1)) (c12 - (e + 1)), .int .i64 0]) (by simp)).cell 1 rfl
                  have n5 := (RS.at HS.out (b := b16) (vs := [.slice z14 (N - (e + 1)) (c11 - (e + 1)), .slice z16 (a5 + b5 - (e + 1)) (c12 - (e + 1)), .int .i64 0]) (by simp)).cell 2 rfl
                  clear hr hg hF RSX
                  refine hK.out _ _ ?_ (fun hHeld => ?_)
                  · (try dsimp only); go_keep
                  clear hK K
                  try simp only [Act.put, setIfInBounds_toArray, set_cons_zero, set_cons_succ]
                  refine Last.tk 17 180 #[Y,Y,Y,Y,Y,Y,Y,Y,Y,Y,Y,Y,Y,Y,Y,Y,Y,Y,Z] rfl rfl hHeld ?_
                  refine Last.last_ (i := 18) (N := none) #[Y,Y,Y,Y,Y,Y,Y,Y,Y,Y,Y,Y,Y,Y,Y,Y,Y,Y,Y] rfl rfl (by kernel_rfl) (by decide) (fun K hK => ?_)
                  go_simp
                  refine hK.out _ _ ?_
                  clear hK K
                  try simp only [Act.put, setIfInBounds_toArray, set_cons_zero, set_cons_succ]
                  refine Last.done_ (by kernel_rfl) ?_
                  have hu18 := Upd.one w53 (b := b13) (o := 1) (.slice s53 (j + 2 + (Q - (j + 2))) c53) (by rw [M_of k2 k2f]; rfl)
                  have h18 := RS.put (A := [(nb, [.slice (some ⟨gg, 0, none⟩) e c11, .slice (some ⟨hh, 0, none⟩) (e + 1) c12, .int .i64 0, .slice z14 (N - (e + 1)) (c11 - (e + 1)), .slice z16 (a5 + b5 - (e + 1)) (c12 - (e + 1)), .int .i64 0]), (b15, [.slice (some ⟨gg, 0, none⟩) e c11, .slice (some ⟨hh, 0, none⟩) (e + 1) c12, .int .i64 0]), (b16, [.slice z14 (N - (e + 1)) (c11 - (e + 1)), .slice z16 (a5 + b5 - (e + 1)) (c12 - (e + 1)), .int .i64 0])]) HS.out hu18.fr (Bx.set (RS.at HS.out (b := b13) (vs := [.slice s43 (j + 1 + (P - (j + 1))) c43, .slice none 0 0, .int .i64 0]) (by simp)) hu18)
                  have HB18 := hidp (RS.sub (BX' := (b15, [.slice (some ⟨gg, 0, none⟩) e c11, .slice (some ⟨hh, 0, none⟩) (e + 1) c12, .int .i64 0]) :: (b16, [.slice z14 (N - (e + 1)) (c11 - (e + 1)), .slice z16 (a5 + b5 - (e + 1)) (c12 - (e + 1)), .int .i64 0]) :: (b13, [.slice s43 (j + 1 + (P - (j + 1))) c43, .slice s53 (j + 2 + (Q - (j + 2))) c53, .int .i64 0]) :: [(b8, [.slice a1 a2 a3, .slice a4 a5 a6, .int .i64 ac]), (b9, [.slice b1 b2 b3, .slice b4 b5 b6, .int .i64 bc]), (b10, [.int .i64 m.1, .int .i64 m.2]), (w.heap.size + 1, [.slice none 0 0, .slice none 0 0, .int .i64 0]), (w.heap.size, [.slice (some ⟨ib, io, none⟩) P icap, .slice (some ⟨kb, ko, none⟩) Q kcap, .int .i64 c])]) h18 (fun q hq => List.mem_cons_of_mem _ hq) (List.nodup_cons.1 h18.nd).2)
                  clear hu18 h18 k2 k3 k2f hl13 n0 n1 n2 n3 n4 n5 HS HB17 HTKK HDRK hHeld k8 k9 k10 hwj2
                  generalize (w53.setCell ⟨b13, 1, none⟩ (.slice s53 (j + 2 + (Q - (j + 2))) c53)) = w18 at HB18 ⊢
                  generalize (if kcap = ((j : Int) + 2).toNat then (some ⟨kb, ko, none⟩ : Option Addr) else some ⟨kb, ko + ((j : Int) + 2).toNat * 3, none⟩) = zz18
                  have k2 := (RS.at HB18.out (b := b13) (vs := [.slice s43 (j + 1 + (P - (j + 1))) c43, .slice s53 (j + 2 + (Q - (j + 2))) c53, .int .i64 0]) (by simp)).cell 0 rfl
                  have k3 := (RS.at HB18.out (b := b13) (vs := [.slice s43 (j + 1 + (P - (j + 1))) c43, .slice s53 (j + 2 + (Q - (j + 2))) c53, .int .i64 0]) (by simp)).cell 1 rfl
                  have k4 := (RS.at HB18.out (b := b13) (vs := [.slice s43 (j + 1 + (P - (j + 1))) c43, .slice s53 (j + 2 + (Q - (j + 2))) c53, .int .i64 0]) (by simp)).cell 2 rfl
                  have HNY : Hid (NodeAt w18 (n + 2) (rebD D t j a b m) (.slice s43 (j + 1 + (P - (j + 1))) c43) (.slice s53 (j + 2 + (Q - (j + 2))) c53) 0) := hidp (by
                    have hba : ¬ a.1.length + b.1.length < 2 * D - 1 := by have h1 := HLN.out.1; have h2 := HLN.out.2.1; have h3 := HSUM.out; omega
                    have hat : atD a.1.length b.1.length = e := by rw [← HLN.out.1, ← HLN.out.2.1]; exact HEE.out
                    have ey : rebD D t j a b m = (t.1.take j ++ [y] ++ t.1.drop (j + 1), t.2.1.take j ++ leftD a m b e :: rightD a m b e :: t.2.1.drop (j + 2), 0) := by
                      unfold rebD
                      rw [if_neg hba, hat, HY.out]
                      rfl
                    rw [ey]
                    have hbw := HB18.out.below
                    have f11 := Row.flat (HB18.out.row ⟨2, .slice (some ⟨gg, 0, none⟩) N c11, N, itemCells EI (a.1 ++ m :: b.1), some gg⟩ (by simp))
                    have f12 := Row.flat (HB18.out.row ⟨3, .slice (some ⟨hh, 0, none⟩) (a5 + b5) c12, a5 + b5, kcells (La ++ Lb), some hh⟩ (by simp))
                    have f43 := Row.flat (HB18.out.row ⟨2, .slice s43 (j + 1 + (P - (j + 1))) c43, j + 1 + (P - (j + 1)), itemCells EI (t.1.take j) ++ [.int .i64 y.1, .int .i64 y.2] ++ itemCells EI (t.1.drop (j + 1)), g43⟩ (by simp))
                    have f53 := Row.flat (HB18.out.row ⟨3, .slice s53 (j + 2 + (Q - (j + 2))) c53, j + 2 + (Q - (j + 2)), kcells (Lx.take j) ++ [.slice (some ⟨gg, 0, none⟩) e c11, .slice (some ⟨hh, 0, none⟩) (e + 1) c12, .int .i64 0, .slice z14 (N - (e + 1)) (c11 - (e + 1)), .slice z16 (a5 + b5 - (e + 1)) (c12 - (e + 1)), .int .i64 0] ++ kcells (Lx.drop (j + 2)), g53⟩ (by simp))
                    have l1 := HT.out.2.2.2.1
                    have l2 := HT.out.2.2.2.2.1
                    have hN9 : (a.1 ++ m :: b.1).length = N := by rw [List.length_append, List.length_cons, ← HLN.out.1, ← HLN.out.2.1, ← HNN.out]; omega
                    have hEN := HEN.out
                    have hlx : Lx.length = Q := by rw [HKX.out.1, l2]
                    have hJL : NodeAt w18 (n + 1) (leftD a m b e) (.slice (some ⟨gg, 0, none⟩) e c11) (.slice (some ⟨hh, 0, none⟩) (e + 1) c12) 0 := by
                      have e1 : (leftD a m b e).1.length = e := by show ((a.1 ++ m :: b.1).take e).length = e; rw [List.length_take, hN9]; omega
                      have e2 : (leftD a m b e).2.1.length = e + 1 := by show ((a.2.1 ++ b.2.1).take (e + 1)).length = e + 1; rw [List.length_take, List.length_append, ← HLN.out.2.2.1, ← HLN.out.2.2.2]; have h9 := HEK.out; omega
                      refine NodeAt.of (t := leftD a m b e) (L := (La ++ Lb).take (e + 1)) ?_ ?_ (((HKA.out.append HKB.out).take (e + 1)).below hbw)
                      · rw [e1]
                        have h := Flat.take f11 (p := e) (by omega)
                        have e3 : (itemCells EI (a.1 ++ m :: b.1)).take (e * 2) = itemCells EI (leftD a m b e).1 := itemCells_take (E := EI) _ e
                        rw [e3] at h
                        exact h
                      · rw [e2]
                        have h := Flat.take f12 (p := e + 1) HEK.out
                        rw [kcells_take] at h
                        exact h
                    have hJR : NodeAt w18 (n + 1) (rightD a m b e) (.slice z14 (N - (e + 1)) (c11 - (e + 1))) (.slice z16 (a5 + b5 - (e + 1)) (c12 - (e + 1))) 0 := by
                      have e1 : (rightD a m b e).1.length = N - (e + 1) := by show ((a.1 ++ m :: b.1).drop (e + 1)).length = _; rw [List.length_drop, hN9]
                      have e2 : (rightD a m b e).2.1.length = a5 + b5 - (e + 1) := by show ((a.2.1 ++ b.2.1).drop (e + 1)).length = _; rw [List.length_drop, List.length_append, ← HLN.out.2.2.1, ← HLN.out.2.2.2]
                      refine NodeAt.of (t := rightD a m b e) (L := (La ++ Lb).drop (e + 1)) ?_ ?_ (((HKA.out.append HKB.out).drop (e + 1)).below hbw)
                      · rw [e1]
                        have h := Flat.drop f11 (p := e + 1) (by omega) (z := z14) (fun h => by rw [HZ14.out h, Nat.zero_add])
                        have e3 : (itemCells EI (a.1 ++ m :: b.1)).drop ((e + 1) * 2) = itemCells EI (rightD a m b e).1 := itemCells_drop (E := EI) _ (e + 1)
                        rw [e3] at h
                        exact h
                      · rw [e2]
                        have h := Flat.drop f12 (p := e + 1) HEK.out (z := z16) (fun h => by rw [HZ16.out h, Nat.zero_add])
                        rw [kcells_drop] at h
                        exact h
                    exact NodeAt.of (t := ((t.1.take j ++ [y] ++ t.1.drop (j + 1), t.2.1.take j ++ leftD a m b e :: rightD a m b e :: t.2.1.drop (j + 2), 0) : DT (n + 2))) (L := Lx.take j ++ (.slice (some ⟨gg, 0, none⟩) e c11, .slice (some ⟨hh, 0, none⟩) (e + 1) c12, 0) :: (.slice z14 (N - (e + 1)) (c11 - (e + 1)), .slice z16 (a5 + b5 - (e + 1)) (c12 - (e + 1)), 0) :: Lx.drop (j + 2))
                      (by
                        have e1 : (t.1.take j ++ [y] ++ t.1.drop (j + 1)).length = j + 1 + (P - (j + 1)) := by rw [List.length_append, List.length_append, List.length_take, List.length_drop, ← l1, List.length_singleton]; omega
                        show Flat 2 w18 _ (t.1.take j ++ [y] ++ t.1.drop (j + 1)).length (itemCells EI (t.1.take j ++ [y] ++ t.1.drop (j + 1)))
                        rw [e1, itemCells_append, itemCells_append]
                        exact f43)
                      (by
                        have e1 : (t.2.1.take j ++ leftD a m b e :: rightD a m b e :: t.2.1.drop (j + 2)).length = j + 2 + (Q - (j + 2)) := by rw [List.length_append, List.length_cons, List.length_cons, List.length_take, List.length_drop, ← l2]; omega
                        show Flat 3 w18 _ (t.2.1.take j ++ leftD a m b e :: rightD a m b e :: t.2.1.drop (j + 2)).length _
                        rw [e1, kcells_append]
                        have e2 : kcells ((.slice (some ⟨gg, 0, none⟩) e c11, .slice (some ⟨hh, 0, none⟩) (e + 1) c12, 0) :: (.slice z14 (N - (e + 1)) (c11 - (e + 1)), .slice z16 (a5 + b5 - (e + 1)) (c12 - (e + 1)), 0) :: Lx.drop (j + 2)) = [.slice (some ⟨gg, 0, none⟩) e c11, .slice (some ⟨hh, 0, none⟩) (e + 1) c12, .int .i64 0, .slice z14 (N - (e + 1)) (c11 - (e + 1)), .slice z16 (a5 + b5 - (e + 1)) (c12 - (e + 1)), .int .i64 0] ++ kcells (Lx.drop (j + 2)) := rfl
                        rw [e2, ← List.append_assoc]
                        exact f53)
                      (((HKX.out.take j).below hbw).append ((KL.one hJL).append ((KL.one hJR).append ((HKX.out.drop (j + 2)).below hbw)))))
                  have HBY : Hid (bulk (n + 2) (rebD D t j a b m) ≤ 10000000) := hidp (by have h9 := bulk_rebD (D := D) HT.out.1 HT.out.2.1 HT.out.2.2.1; have h8 := HT.out.2.2.2.2.2; omega)
                  have HWC := hidp (wc_is (n + 2) (rebD D t j a b m) HNY.out HBY.out)
                  go_wp2_with fail
                  refine HWC.out.mono ?_
                  rintro e w10 ⟨ui, uk, c', rfl, hq, hb10⟩
                  obtain ⟨⟨d1, d2, d3, rfl⟩, d4, d5, d6, rfl⟩ := hq.vals
                  have hz := Bx.below (RS.at HB18.out (b := w.heap.size + 1) (vs := [.slice none 0 0, .slice none 0 0, .int .i64 0]) (by simp)) hb10 (RS.at HB18.out (b := w.heap.size + 1) (vs := [.slice none 0 0, .slice none 0 0, .int .i64 0]) (by simp)).1
                  have q0 := hz.cell 0 rfl
                  have q1 := hz.cell 1 rfl
                  have q2 := hz.cell 2 rfl
                  have r0 := hz.froz 0 (v := .slice none 0 0) rfl
                  have r1 := hz.froz 1 (v := .slice none 0 0) rfl
                  have r2 := hz.froz 2 (v := .int .i64 0) rfl
                  have hlz := hz.1
                  have hub := Bx.upd3 hz (.slice d1 d2 d3) (.slice d4 d5 d6) (.int .i64 c')
                  have HQ := hidp (hq.keep (Q' := fun b => w.heap.size ≤ b ∧ b < w10.heap.size) hub.fr (fun b hb => ⟨fun (h : b = w.heap.size + 1) => by have h1 := hb.1; have h2 := (RS.at HB18.out (b := w.heap.size + 1) (vs := [.slice none 0 0, .slice none 0 0, .int .i64 0]) (by simp)).1; omega, by have h1 := hb.1; have h2 := HB18.out.below.size; omega, hb.2⟩))
                  have HSS := hidp hub.size
                  have HB10 := hidp (HB18.out.below.trans (hb10.mono HB18.out.below.size))
                  clear hq hz hub hb10 HWC k2 k3 k4
                  go_wp2
                  refine bodyPost_ret (v := .agg #[.slice d1 d2 d3, .slice d4 d5 d6, .int .i64 c']) (by simp [results, Try.results23, go_sem, q0, q1, q2, r0, r1, r2]) rfl ?_
                  refine ⟨_, _, c', rfl, ?_, ?_⟩
                  · have h := HQ.out
                    exact h.mono (fun b hb => ⟨hb.1, Nat.lt_of_lt_of_eq hb.2 HSS.out.symm⟩)
                  · exact ((HB10.out.setCell (by show w.heap.size ≤ w.heap.size + 1; omega) _).setCell (by show w.heap.size ≤ w.heap.size + 1; omega) _).setCell (by show w.heap.size ≤ w.heap.size + 1; omega) _
end Go.Proofs.Ytehnobbiiokcgaa.Bt.ND
