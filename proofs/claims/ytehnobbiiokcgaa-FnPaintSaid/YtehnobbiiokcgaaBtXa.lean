/- Items in memory, and what is asked everywhere: fit, found, pair; rows that grow in a region that draws its order. A region that draws its order, walked once in a class of worlds. -/
import Derived.Test.YtehnobbiiokcgaaBtRow
import Derived.Test.YtehnobbiiokcgaaBtTree
import Derived.Test.YtehnobbiiokcgaaBtLast
import Derived.Test.YtehnobbiiokcgaaProg
import Derived.WalkKit
import Derived.Deep.DeepMust
import Derived.Deep.QuietTactic
import Derived.BigQuiet
import Derived.IntWalk
namespace Go.Proofs.Ytehnobbiiokcgaa.Bt
set_option linter.unusedVariables false
set_option linter.unusedSimpArgs false
open Go

/-- A region whose operations each yield one value in every world of the class C and leave a world of C. -/
theorem region_class {P : Program} {C : World → Prop} {id : Nat} {Q : Exit → Act → World → Prop} {a : Act} {w : World} {l : List Oper} (hm : P.follows .mixedOrders = true) (hB : Region.lexB .any l.toArray = true) (hC : C w.drew)
    (h : wpQuiet P l.toArray C (fun a' => ∀ w', C w' → Q .normal a' w') l a) : (Code.region id l.toArray true).wp P Q a w :=
  wp_region_quiet (C := C) hm hB hC (by simpa using h)
end Go.Proofs.Ytehnobbiiokcgaa.Bt

namespace Go.Proofs.Ytehnobbiiokcgaa.Bt.ND
set_option linter.unusedVariables false
set_option linter.unusedSimpArgs false
open Go Go.RowKit Go.Proofs.Ytehnobbiiokcgaa.Bt

/-- An item: key and value. -/
abbrev Im := Int × Int

/-- v is a slice that reads as the items l. -/
def Its (w : World) (v : Value) (l : List Im) : Prop :=
  ∃ a cap, v = .slice a l.length cap ∧ l.length ≤ cap ∧ ∀ j x, l[j]? = some x → ∃ b off, a = some ⟨b, off, none⟩ ∧ w.cell? ⟨b, off + j * 2, none⟩ = some (.int .i64 x.1) ∧ w.cell? ⟨b, off + j * 2 + 1, none⟩ = some (.int .i64 x.2)

theorem Its.below {w w' : World} {v : Value} {l : List Im} (h : Its w v l) (hb : Below w.heap.size w w') : Its w' v l := by
  obtain ⟨a, cap, e, hlc, hc⟩ := h
  refine ⟨a, cap, e, hlc, fun j x hx => ?_⟩
  obtain ⟨b, off, ha, h1, h2⟩ := hc j x hx
  exact ⟨b, off, ha, (hb.cell (p := ⟨b, off + j * 2, none⟩) (World.block_lt_of_cell? w _ h1)).trans h1, (hb.cell (p := ⟨b, off + j * 2 + 1, none⟩) (World.block_lt_of_cell? w _ h2)).trans h2⟩

theorem hidp {p : Prop} (h : p) : Hid p := h

def EI : Enc Im where
  enc x := [.int .i64 x.1, .int .i64 x.2]
  sz := 2
  ty := 35
  mty := 0
  z := [.int .i64 0, .int .i64 0]
  len _ := rfl
  zlen := rfl
  pos := by decide
  one _ u hu := by
    simp at hu; rcases hu with rfl | rfl <;> rfl

theorem infoM : (Try.prog.info? 35).map (fun i => (i.zero, i.size, i.bytes)) = some (some (.agg #[.int .i64 0, .int .i64 0]), 2, 16) := by kernel_rfl

theorem Row.below {sz : Nat} {w w' : World} {v : Value} {n : Nat} {xs : List Value} {g : Option Nat} (h : Row sz w v n xs g) (hb : Below w.heap.size w w') : Row sz w' v n xs g := by
  obtain ⟨hl, h⟩ := h
  refine ⟨hl, ?_⟩
  rcases h with h | ⟨b, cap, e, ev, h1, h2, h3, hok⟩
  · exact .inl h
  · refine .inr ⟨b, cap, e, ev, h1, h2, Nat.lt_of_lt_of_le h3 hb.size, hok.len, fun j hj => ?_, fun j u hj => ?_⟩
    · rw [M_block (hb.block b h3)]; exact hok.some j hj
    · rw [M_block (hb.block b h3)]; exact hok.val j u hj

theorem Below.drewN {B : Nat} {a w : World} (h : Below B a w) (n : Nat) : Below B a (w.drewN n) := ⟨h.os, h.tape, h.output, h.size, h.block⟩

/-- 'fit' -/
theorem fit_is (w : World) (d : Int) : Calls Try.prog 19 #[.int .i64 d] w (fun e w' => e = .returned (.bool (decide (2 ≤ d ∧ d ≤ 128))) ∧ w' = w) := by
  by_cases h0 : 0 < d
  · have hf : ∀ w1 : World, Calls Try.prog 52 #[.int .i64 d] w1 (fun e w' => e = .returned (.bool (decide (2 ≤ d ∧ d ≤ 128))) ∧ w' = w1) := fun w1 => by
      have hd0 : decide (d = 0) = false := decide_eq_false (by omega)
      have hz : ¬ d = 0 := by omega
      by_cases h2 : 2 ≤ d
      · by_cases h3 : d ≤ 128
        · go_enter Try.func52, Try.ntmps52
          go_wp2
          go_ret
          exact ⟨by simp [h2, h3, hz], rfl⟩
        · have hd3 : decide (d ≤ 128) = false := decide_eq_false h3
          go_enter Try.func52, Try.ntmps52
          go_wp2
          go_ret
          exact ⟨by simp [h3, hz], rfl⟩
      · have hd2 : decide (2 ≤ d) = false := decide_eq_false h2
        go_enter Try.func52, Try.ntmps52
        go_wp2
        go_ret
        exact ⟨by simp [h2, hz], rfl⟩
    go_enter Try.func19, Try.ntmps19
    go_wp2_with fail
    refine (hf w).mono ?_
    rintro e w2 ⟨rfl, rfl⟩
    go_wp2
    go_ret
    exact ⟨by simp [h0], rfl⟩
  · have hd : decide (0 < d) = false := decide_eq_false h0
    go_enter Try.func19, Try.ntmps19
    go_wp2
    go_ret
    exact ⟨by simp; omega, rfl⟩

/-- What is found as data. -/
def fdv (k v : Int) : Bool → Value
  | true => .agg #[.int .i64 k, .int .i64 v, .bool true]
  | false => .agg #[.int .i64 0, .int .i64 0, .bool false]

set_option maxHeartbeats 1000000 in
set_option maxRecDepth 100000 in
/-- 'found' -/
theorem found_is (w : World) (k v : Int) (b : Bool) : Calls Try.prog 81 #[.agg #[.int .i64 k, .int .i64 v], .bool b] w (fun e w' => e = .returned (fdv k v b) ∧ Below w.heap.size w w') := by
  have hB : Below w.heap.size w ((w.alloc (.cells #[.int .i64 k, .int .i64 v] 35)).alloc (.cells #[.int .i64 0, .int .i64 0, .bool false] 37)) := ((Below.refl _ _).alloc (Nat.le_refl _) _).alloc (by rw [World.size_alloc]; omega) _
  have HB := hidp hB
  have hsz := World.size_alloc w (.cells #[.int .i64 k, .int .i64 v] 35)
  clear hB
  cases b with
  | true =>
    go_enter Try.func81, Try.ntmps81
    go_wp2
    refine bodyPost_ret (v := fdv k v true) (by simp [results, Try.results81, fdv, go_sem]) rfl ?_
    exact ⟨rfl, ((Below.refl _ _).alloc (Nat.le_refl _) _).alloc (by rw [World.size_alloc]; omega) _⟩
  | false =>
    go_enter Try.func81, Try.ntmps81
    go_wp2
    refine bodyPost_ret (v := fdv k v false) (by simp [results, Try.results81, fdv, go_sem]) rfl ?_
    exact ⟨rfl, ((Below.refl _ _).alloc (Nat.le_refl _) _).alloc (by rw [World.size_alloc]; omega) _⟩

theorem Bx.below {w w' : World} {b B : Nat} {vs : List Value} (h : Bx w b vs) (hb : Below B w w') (hlt : b < B) : Bx w' b vs :=
  ⟨by have h1 := hb.size; have h2 := h.1; omega, fun j v hv => M_of ((hb.cell (p := ⟨b, j, none⟩) hlt).trans (h.cell j hv)) ((hb.frozen (p := ⟨b, j, none⟩) hlt).trans (h.froz j hv))⟩

set_option maxHeartbeats 1000000 in
set_option maxRecDepth 100000 in
/-- 'pair' -/
theorem pair_is (w : World) (k v : Int) (b : Bool) : Calls Try.prog 51 #[.int .i64 k, .int .i64 v, .bool b] w (fun e w' => e = .returned (fdv k v b) ∧ Below w.heap.size w w') := by
  have hB : Below w.heap.size w (w.alloc (.cells #[.int .i64 0, .int .i64 0, .bool false] 37)) := (Below.refl _ _).alloc (Nat.le_refl _) _
  have HB := hidp hB
  have HX := hidp (Bx.new w [.int .i64 0, .int .i64 0, .bool false] 37)
  clear hB
  go_enter Try.func51, Try.ntmps51
  go_wp2_with fail
  refine (found_is _ k v b).mono ?_
  rintro e w2 ⟨rfl, hb2⟩
  have hx := Bx.below HX.out hb2 (by rw [World.size_alloc]; omega)
  have hs2 := hx.1
  have k0 := hx.cell 0 rfl
  have k1 := hx.cell 1 rfl
  have k2 := hx.cell 2 rfl
  have f0 := hx.froz 0 (v := .int .i64 0) rfl
  have f1 := hx.froz 1 (v := .int .i64 0) rfl
  have f2 := hx.froz 2 (v := .bool false) rfl
  have HB2 := hidp (HB.out.trans (hb2.mono (by rw [World.size_alloc]; omega)))
  clear hb2 HB hx HX
  cases b with
  | true =>
    simp only [fdv]
    go_wp2
    refine bodyPost_ret (v := fdv k v true) (by simp [results, Try.results51, fdv, go_sem, k0, k1, k2, f0, f1, f2]) rfl ?_
    exact ⟨rfl, ((HB2.out.setCell (Nat.le_refl _) _).setCell (Nat.le_refl _) _).setCell (Nat.le_refl _) _⟩
  | false =>
    simp only [fdv]
    go_wp2
    refine bodyPost_ret (v := fdv k v false) (by simp [results, Try.results51, fdv, go_sem, k0, k1, k2, f0, f1, f2]) rfl ?_
    exact ⟨rfl, ((HB2.out.setCell (Nat.le_refl _) _).setCell (Nat.le_refl _) _).setCell (Nat.le_refl _) _⟩

/-- A store keeps. -/
theorem RepS.below {I : Type} {E : Enc I} {S : Nat → Prop} {w w' : World} {s : Sto I} (R : RepS E S w s) (hb : Below w.heap.size w w') : RepS E S w' s :=
  R.keep (S1 := fun i => w.heap.size ≤ i) ⟨hb.os, hb.tape, hb.output, hb.size, fun k hk _ => hb.block k hk, fun k hk => bty_eq (hb.block k hk)⟩ (fun i hi h => by have := R.rep.lt i hi; omega)

section
variable {P : Program} {ops : Array Oper} {o : Oper} {a : Act} {w : World} {Q : Exit → Act → World → Prop}
/-- append of at least one element to a row of the call's own, as a step of a region that draws its order. -/
theorem step_row {K : Act → World → Prop} {F : Prop} (hg : o.guard = none) (s x : Operand) (t : TypeId) (hop : o.op = Op.call { callee := Callee.builtin Builtin.append, args := #[s, x], argTypes := #[t, t] })
    (e : TypeId) (i : TypeInfo) (z : Value) (size bytes : Nat) (h1 : P.underlying t = some (.slice e)) (h2 : P.info? e = some i) (h3 : i.zero = some z) (h4 : i.size = size) (h5 : i.bytes = bytes) (h6 : z.cells.size = size) (h7 : 0 < size)
    (v : Value) (n : Nat) (xs : List Value) (g : Option Nat) (hs : a.eval s = v) (hrow : Row size w v n xs g)
    (ad : Addr) (m c : Nat) (news : List Value) (hx : a.eval x = .slice (some ad) m c) (hm : 0 < m) (hn : news.length = m * size) (hc : ∀ j u, news[j]? = some u → w.cell? (ad.add j) = some u) (h1c : ∀ u ∈ news, u.oneCell' = true)
    (b1 : n + m ≤ maxLen) (b2 : (n + m) * bytes ≤ 140737488355328)
    (hK : ∀ v' w' g', Row size w' v' (n + m) (xs ++ news) (some g') → (g = some g' ∨ w.heap.size ≤ g') → Fr (fun k => g = some k) w w' → K (a.put o.dst v') w') :
    if Region.wanted o (yielded ops a.tmps) = true then Oper.wp P o a w K Q else F := by
  obtain ⟨hl, hr⟩ := hrow
  rcases hr with ⟨rfl, rfl, rfl⟩ | ⟨b, cap, rfl, rfl, hcn, hcm, hb, hok⟩
  · obtain rfl : xs = [] := List.eq_nil_of_length_eq_zero (by simpa using hl)
    refine step_app hg s x t hop e i z size bytes h1 h2 h3 h4 h5 h6 h7 none 0 0 [] hs (fun _ => ⟨rfl, rfl⟩) (by simp) (fun b o hb => by cases hb) ad m c news hx hm hn hc h1c b1 b2 (fun v' w' happ => ?_)
    obtain ⟨g, gc, rfl, hg1, hg2, hgc, hok, _, hF⟩ := happ.fresh hm
    refine hK _ _ g ?_ (.inr hg1) (hF.mono (fun _ h => h.elim))
    rcases happ with ⟨_, _, hh, _⟩ | ⟨g', c', e1, _, _, _, hcm', _⟩
    · cases hh
    · rw [Nat.zero_add] at e1
      obtain ⟨_, rfl⟩ := sv_inj (ib := some (g', 0)) e1
      exact ⟨by rw [List.nil_append, hn, Nat.zero_add], .inr ⟨g, gc, rfl, by rw [Nat.zero_add]; rfl, by omega, hcm', hg2, by rw [List.nil_append]; exact hok⟩⟩
  · refine step_app hg s x t hop e i z size bytes h1 h2 h3 h4 h5 h6 h7 (some (b, 0)) n cap xs hs (fun h => by cases h) hl (fun b' o' hb' => by cases hb'; exact hok) ad m c news hx hm hn hc h1c b1 b2 (fun v' w' happ => ?_)
    obtain ⟨g', hrow', hg', hF⟩ := Row.of_app hl hn hb hcm hok happ
    refine hK v' w' g' hrow' (hg'.imp (fun h => by rw [h]) id) (hF.mono fun k hk => by rw [hk])
end

/-- A list of items, cell by cell. -/
theorem Its.flat {w : World} {v : Value} {l : List Im} (h : Its w v l) : ∃ a cap, v = .slice a l.length cap ∧ l.length ≤ cap ∧ (0 < l.length → ∃ b off, a = some ⟨b, off, none⟩ ∧ b < w.heap.size ∧ ∀ j u, (itemCells EI l)[j]? = some u → w.cell? ⟨b, off + j, none⟩ = some u) := by
  obtain ⟨a, cap, rfl, hc, hi⟩ := h
  refine ⟨a, cap, rfl, hc, fun h0 => ?_⟩
  obtain ⟨x0, hx0⟩ : ∃ x, l[0]? = some x := ⟨l[0], List.getElem?_eq_getElem h0⟩
  obtain ⟨b, off, rfl, f1, _⟩ := hi 0 x0 hx0
  refine ⟨b, off, rfl, World.block_lt_of_cell? w _ f1, fun j u hu => ?_⟩
  obtain ⟨x, hx, hv⟩ := itemCells_at (E := EI) hu
  obtain ⟨b', off', e, g1, g2⟩ := hi _ x hx
  injection e with e
  injection e with e1 e2 _
  subst e1; subst e2
  have hj := Nat.div_add_mod j 2
  have hm : j % 2 = 0 ∨ j % 2 = 1 := by omega
  have hv' : [Value.int .i64 x.1, Value.int .i64 x.2][j % 2]? = some u := hv
  have hd : j / EI.sz = j / 2 := rfl
  rw [hd] at g1 g2
  rcases hm with hm | hm
  · rw [hm] at hv'
    obtain rfl := Option.some.inj hv'
    rw [show off + j = off + j / 2 * 2 by omega]; exact g1
  · rw [hm] at hv'
    obtain rfl := Option.some.inj hv'
    rw [show off + j = off + j / 2 * 2 + 1 by omega]; exact g2
end Go.Proofs.Ytehnobbiiokcgaa.Bt.ND
