/- A calendar of intervals: End, Overlaps; what a round of FnBookings keeps. -/
import Derived.Test.YtehnobbiiokcgaaBtBd
import Derived.Test.YtehnobbiiokcgaaBtNj
namespace Go.Proofs.Ytehnobbiiokcgaa.Bt.P
set_option linter.unusedVariables false
set_option linter.unusedSimpArgs false
open Go Go.RowKit Go.Proofs.Ytehnobbiiokcgaa.Bt
open Go.Proofs.Ytehnobbiiokcgaa.Bt.ND (Im Its EI hidp)

variable {w : World}

set_option maxRecDepth 100000 in
/-- 'End' -/
theorem end_is (w : World) (x : Iv) (h1 : x.1 < 256) (h2 : x.2 < 256) : Calls Try.prog 35 #[.agg #[.int .u8 x.1, .int .u8 x.2]] w (fun e w' => e = .returned (.int .i64 (x.end : Nat)) ∧ Below w.heap.size w w') := by
  have HB := hidp ((Below.refl w.heap.size w).alloc (Nat.le_refl _) (.cells #[.int .u8 x.1, .int .u8 x.2] 62))
  have w1 : IntKind.i64.wrap (x.1 : Int) = (x.1 : Int) := by rw [Last.i64_w, IntWalk.wrap64_in _ ⟨by omega, by omega⟩]
  have w2 : IntKind.i64.wrap (x.2 : Int) = (x.2 : Int) := by rw [Last.i64_w, IntWalk.wrap64_in _ ⟨by omega, by omega⟩]
  have w3 : IntKind.i64.wrap ((x.1 : Int) + (x.2 : Int)) = (x.1 : Int) + (x.2 : Int) := by rw [Last.i64_w, IntWalk.wrap64_in _ ⟨by omega, by omega⟩]
  have w4 : IntKind.i64.wrap ((x.1 : Int) + (x.2 : Int) + 1) = (x.1 : Int) + (x.2 : Int) + 1 := by rw [Last.i64_w, IntWalk.wrap64_in _ ⟨by omega, by omega⟩]
  go_enter Try.func35, Try.ntmps35
  go_wp2
  go_ret
  exact ⟨by simp [Iv.end], HB.out⟩

/-- Two cells of a block. -/
def Cells2 (w : World) (b : Nat) (x : Iv) : Prop := w.cell? ⟨b, 0, none⟩ = some (.int .u8 x.1) ∧ w.cell? ⟨b, 1, none⟩ = some (.int .u8 x.2)
theorem Cells2.below {w w' : World} {b B : Nat} {x : Iv} (h : Cells2 w b x) (hb : Below B w w') (hlt : b < B) : Cells2 w' b x :=
  ⟨(hb.cell (p := ⟨b, 0, none⟩) hlt).trans h.1, (hb.cell (p := ⟨b, 1, none⟩) hlt).trans h.2⟩

set_option maxHeartbeats 2000000 in
set_option maxRecDepth 100000 in
/-- 'Overlaps' -/
theorem overlaps_is (w : World) (x y : Iv) (hx1 : x.1 < 256) (hx2 : x.2 < 256) (hy1 : y.1 < 256) (hy2 : y.2 < 256) : Calls Try.prog 36 #[.agg #[.int .u8 x.1, .int .u8 x.2], .agg #[.int .u8 y.1, .int .u8 y.2]] w (fun e w' => e = .returned (.bool (over x y)) ∧ Below w.heap.size w w') := by
  have hb : Below w.heap.size w ((w.alloc (.cells #[.int .u8 x.1, .int .u8 x.2] 62)).alloc (.cells #[.int .u8 y.1, .int .u8 y.2] 62)) := ((Below.refl _ _).alloc (Nat.le_refl _) _).alloc (by rw [World.size_alloc]; omega) _
  have hc : Cells2 ((w.alloc (.cells #[.int .u8 x.1, .int .u8 x.2] 62)).alloc (.cells #[.int .u8 y.1, .int .u8 y.2] 62)) w.heap.size x ∧ Cells2 ((w.alloc (.cells #[.int .u8 x.1, .int .u8 x.2] 62)).alloc (.cells #[.int .u8 y.1, .int .u8 y.2] 62)) (w.heap.size + 1) y := by
    have h1 := (Bx.new w [.int .u8 x.1, .int .u8 x.2] 62).alloc (.cells #[.int .u8 y.1, .int .u8 y.2] 62)
    have h2 := Bx.new (w.alloc (.cells #[.int .u8 x.1, .int .u8 x.2] 62)) [.int .u8 y.1, .int .u8 y.2] 62
    rw [World.size_alloc] at h2
    exact ⟨⟨h1.cell 0 rfl, h1.cell 1 rfl⟩, h2.cell 0 rfl, h2.cell 1 rfl⟩
  have HB := hidp (And.intro hb hc)
  have hsz : ((w.alloc (.cells #[.int .u8 x.1, .int .u8 x.2] 62)).alloc (.cells #[.int .u8 y.1, .int .u8 y.2] 62)).heap.size = w.heap.size + 2 := by simp
  have HSZ := hidp hsz
  clear hb hc hsz
  have w1 : IntKind.i64.wrap (x.1 : Int) = (x.1 : Int) := by rw [Last.i64_w, IntWalk.wrap64_in _ ⟨by omega, by omega⟩]
  have w2 : IntKind.i64.wrap (y.1 : Int) = (y.1 : Int) := by rw [Last.i64_w, IntWalk.wrap64_in _ ⟨by omega, by omega⟩]
  have HKEY : Hid (∀ b1 : Bool, decide (x.1 < y.end) = b1 → over x y = (b1 && decide (y.1 < x.end))) := hidp fun b1 h1 => by rw [← h1]; rfl
  cases hd : decide (x.1 < y.end) with
  | false =>
    have HO := hidp (HKEY.out false hd)
    clear HKEY
    go_enter Try.func36, Try.ntmps36
    go_wp2
    generalize (w.alloc (.cells #[.int .u8 x.1, .int .u8 x.2] 62)).alloc (.cells #[.int .u8 y.1, .int .u8 y.2] 62) = wa at HB HSZ ⊢
    refine region_class (C := fun w' => Cells2 w' w.heap.size x ∧ Cells2 w' (w.heap.size + 1) y ∧ Below w.heap.size w w' ∧ w.heap.size + 2 ≤ w'.heap.size) (by kernel_rfl) (by kernel_rfl) ⟨HB.out.2.1, HB.out.2.2, HB.out.1.drew, Nat.le_of_eq HSZ.out.symm⟩ ?_
    repeat (first
      | simp only [hd]
      | go_big_quiet_skip
      | (go_big_quiet_want
         first
         | (go_big_quiet_op; go_big_quiet_on)
         | (apply Exists.intro
            refine ⟨fun wq hq => ?_, ?_⟩
            (obtain ⟨⟨f0, f1⟩, ⟨g0, g1⟩, f5, f6⟩ := hq
             unfold Oper.quietAt
             first
             | (go_simp; done)
             | (go_simp; with_reducible rfl)
             | (go_simp
                go_at_call 35
                refine (end_is _ y hy1 hy2).mono ?_
                rintro e w' ⟨rfl, hb3⟩
                have h7 := hb3.size
                exact ⟨rfl, Cells2.below ⟨f0, f1⟩ hb3 (by omega), Cells2.below ⟨g0, g1⟩ hb3 (by omega), f5.trans (hb3.mono (by omega)), by omega⟩))
            try simp only [Act.put, List.setIfInBounds_toArray, List.set_cons_zero, List.set_cons_succ]
            go_big_quiet_on)))
    refine wpQuiet_nil ?_
    intro w3 hq
    obtain ⟨_, _, h5, _⟩ := hq
    have H5 := hidp h5
    clear h5
    go_wp2
    go_ret
    exact ⟨by rw [HO.out]; try rfl, H5.out⟩
  | true =>
    have HO := hidp (HKEY.out true hd)
    clear HKEY
    go_enter Try.func36, Try.ntmps36
    go_wp2
    generalize (w.alloc (.cells #[.int .u8 x.1, .int .u8 x.2] 62)).alloc (.cells #[.int .u8 y.1, .int .u8 y.2] 62) = wa at HB HSZ ⊢
    refine region_class (C := fun w' => Cells2 w' w.heap.size x ∧ Cells2 w' (w.heap.size + 1) y ∧ Below w.heap.size w w' ∧ w.heap.size + 2 ≤ w'.heap.size) (by kernel_rfl) (by kernel_rfl) ⟨HB.out.2.1, HB.out.2.2, HB.out.1.drew, Nat.le_of_eq HSZ.out.symm⟩ ?_
    repeat (first
      | simp only [hd]
      | go_big_quiet_skip
      | (go_big_quiet_want
         first
         | (go_big_quiet_op; go_big_quiet_on)
         | (apply Exists.intro
            refine ⟨fun wq hq => ?_, ?_⟩
            (obtain ⟨⟨f0, f1⟩, ⟨g0, g1⟩, f5, f6⟩ := hq
             unfold Oper.quietAt
             first
             | (go_simp; done)
             | (go_simp; with_reducible rfl)
             | (go_simp
                go_at_call 35
                first | with_reducible refine (end_is _ y hy1 hy2).mono ?_ | with_reducible refine (end_is _ x hx1 hx2).mono ?_
                rintro e w' ⟨rfl, hb3⟩
                have h7 := hb3.size
                exact ⟨rfl, Cells2.below ⟨f0, f1⟩ hb3 (by omega), Cells2.below ⟨g0, g1⟩ hb3 (by omega), f5.trans (hb3.mono (by omega)), by omega⟩))
            try simp only [Act.put, List.setIfInBounds_toArray, List.set_cons_zero, List.set_cons_succ]
            go_big_quiet_on)))
    refine wpQuiet_nil ?_
    intro w3 hq
    obtain ⟨_, _, h5, _⟩ := hq
    have H5 := hidp h5
    clear h5
    go_wp2
    go_ret
    exact ⟨by rw [HO.out]; try rfl, H5.out⟩

/-! ### rows that are read -/
/-- An interval in cells. -/
def EV : Enc Iv where
  enc x := [.int .u8 x.1, .int .u8 x.2]
  sz := 2
  ty := 62
  mty := 0
  z := [.int .u8 0, .int .u8 0]
  len _ := rfl
  zlen := rfl
  pos := by decide
  one _ u hu := by
    simp at hu; rcases hu with rfl | rfl <;> rfl
theorem row_get {I : Type} {E : Enc I} {f g : I → Value} (hE : ∀ x, E.enc x = [f x, g x]) (hz : E.sz = 2) {u : Value} {l : List I} {k : Option Nat} (h : Row 2 w u l.length (itemCells E l) k) : ∃ a cap, u = .slice a l.length cap ∧ ∀ wr, Below w.heap.size w wr → ∀ j x, l[j]? = some x → ∃ b, a = some ⟨b, 0, none⟩ ∧ wr.cell? ⟨b, j * 2, none⟩ = some (f x) ∧ wr.cell? ⟨b, j * 2 + 1, none⟩ = some (g x) := by
  obtain ⟨a, cap, rfl, _, ha, hg, hc⟩ := h.cut
  refine ⟨a, cap, rfl, fun wr hb j x hx => ?_⟩
  have hj := (List.getElem?_eq_some_iff.1 hx).1
  have h0 : (itemCells E l)[j * 2]? = some (f x) := by
    have h := itemCells_get (E := E) l j x hx 0 (by rw [hz]; decide)
    rw [hz, hE] at h; simpa using h
  have h1 : (itemCells E l)[j * 2 + 1]? = some (g x) := by
    have h := itemCells_get (E := E) l j x hx 1 (by rw [hz]; decide)
    rw [hz, hE] at h; simpa using h
  have c0 := hc _ _ h0
  have c1 := hc _ _ h1
  exact ⟨_, ha (by omega), (hb.cell (p := ⟨_, j * 2, none⟩) (World.block_lt_of_cell? w _ c0)).trans c0, (hb.cell (p := ⟨_, j * 2 + 1, none⟩) (World.block_lt_of_cell? w _ c1)).trans c1⟩
theorem row_its {u : Value} {l : List Im} {k : Option Nat} (h : Row 2 w u l.length (itemCells EI l) k) : Its w u l := by
  obtain ⟨a, cap, rfl, h1, _, _, _⟩ := h.cut
  obtain ⟨a', cap', e, hg⟩ := row_get (E := EI) (f := fun x : Im => .int .i64 x.1) (g := fun x : Im => .int .i64 x.2) (fun _ => rfl) rfl h
  injection e with e1 _ e3
  subst e1; subst e3
  refine ⟨a, cap, rfl, h1, fun j x hx => ?_⟩
  obtain ⟨b, hb, c0, c1⟩ := hg w (Below.refl _ _) j x hx
  exact ⟨b, 0, hb, by rw [Nat.zero_add]; exact c0, by rw [Nat.zero_add]; exact c1⟩

/-- Intervals that came in. -/
def Ivs (w : World) (v : Value) (l : List Iv) : Prop :=
  ∃ a cap, v = .slice a l.length cap ∧ (∀ j x, l[j]? = some x → ∃ b off, a = some ⟨b, off, none⟩ ∧ w.cell? ⟨b, off + j * 2, none⟩ = some (.int .u8 x.1) ∧ w.cell? ⟨b, off + j * 2 + 1, none⟩ = some (.int .u8 x.2)) ∧ ∀ x ∈ l, x.1 < 256 ∧ x.2 < 256

/-- What a round keeps: the calendar, and the intervals that are due. -/
structure BK (w wr : World) (b u : Value) (B : List Im) (dl : List Iv) (gb gd : Option Nat) : Prop where
  rb : Row 2 wr b B.length (itemCells EI B) gb
  rd : Row 2 wr u dl.length (itemCells EV dl) gd
  ge : ∀ k, gb = some k ∨ gd = some k → w.heap.size ≤ k
  ne : ∀ k, gb = some k → gd = some k → False
  below : Below w.heap.size w wr
theorem BK.call {wr w2 : World} {b u : Value} {B : List Im} {dl : List Iv} {gb gd : Option Nat} (h : BK w wr b u B dl gb gd) (hb : Below wr.heap.size wr w2) : BK w w2 b u B dl gb gd :=
  ⟨ND.Row.below h.rb hb, ND.Row.below h.rd hb, h.ge, h.ne, h.below.trans (hb.mono h.below.size)⟩
theorem BK.start (w : World) : BK w w (.slice none 0 0) (.slice none 0 0) [] [] none none :=
  ⟨Row.nil _ _, Row.nil _ _, fun k h => (by rcases h with h | h <;> cases h), fun k h => (by cases h), Below.refl _ _⟩
end Go.Proofs.Ytehnobbiiokcgaa.Bt.P
