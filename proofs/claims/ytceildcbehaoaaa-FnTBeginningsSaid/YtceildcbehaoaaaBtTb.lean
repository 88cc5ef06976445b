/- The reference over words: the place of a key, and the words of a map. -/
import Derived.Test.YtceildcbehaoaaaBtTa
import Derived.Test.YtceildcbehaoaaaBtRow
import Derived.Deep.DeepMust
namespace Go.Proofs.Ytceildcbehaoaaa.Bt.W
set_option linter.unusedVariables false
set_option linter.unusedSimpArgs false
open Go Go.RowKit Go.Proofs.Ytceildcbehaoaaa.Bt
open Go.Proofs.Ytceildcbehaoaaa.Bt.SU (bless_lt bless_irr bless_tr bless_neg)

/-- A word: its key and its value. -/
abbrev Wd := ByteArray × Int
def EW : Enc Wd where
  enc x := [Value.string x.1, Value.int .i64 x.2]
  sz := 2
  ty := 64
  mty := 64
  z := [Value.string ByteArray.empty, Value.int .i64 0]
  len := fun _ => rfl
  zlen := rfl
  pos := by decide
  one := fun i v h => by
    have h' : v ∈ [Value.string i.1, Value.int .i64 i.2] := h
    simp only [List.mem_cons, List.not_mem_nil, or_false] at h'
    rcases h' with rfl | rfl <;> rfl
def wlt (a b : Wd) : Bool := Op.bytesLess a.1.toList b.1.toList
theorem hidp {p : Prop} (h : p) : Hid p := h
theorem word : Ord wlt where
  irr a := bless_irr _
  tr a b c h1 h2 := bless_tr h1 h2
  neg a b c h := bless_neg h
theorem bless_total {x y : List UInt8} (h : x ≠ y) (h1 : Op.bytesLess x y = false) : Op.bytesLess y x = true := by
  rw [bless_lt, decide_eq_false_iff_not] at h1
  rw [bless_lt, decide_eq_true_eq]
  refine Classical.byContradiction fun h2 => h (List.le_antisymm (List.not_lt.1 h2) (List.not_lt.1 h1))
theorem toList_inj {x y : ByteArray} (h : x.toList = y.toList) : x = y := by
  rw [ByteArray.toList_eq, ByteArray.toList_eq] at h
  exact ByteArray.ext (Array.toList_inj.1 h)

/-- v is a slice that reads as the words l. -/
def Wds (w : World) (v : Value) (l : List Wd) : Prop :=
  ∃ a cap, v = .slice a l.length cap ∧ ∀ j x, l[j]? = some x → ∃ b off, a = some ⟨b, off, none⟩ ∧ w.cell? ⟨b, off + j * 2, none⟩ = some (.string x.1) ∧ w.cell? ⟨b, off + j * 2 + 1, none⟩ = some (.int .i64 x.2)
theorem Wds.of_row {w : World} {v : Value} {l : List Wd} {g : Option Nat} (h : Row 2 w v l.length (itemCells EW l) g) : Wds w v l := by
  rcases Nat.eq_zero_or_pos l.length with h0 | h0
  · obtain ⟨a, cap, rfl⟩ := h.len
    exact ⟨a, cap, rfl, fun j x hx => by have := (List.getElem?_eq_some_iff.1 hx).1; omega⟩
  · obtain ⟨b, cap, _, rfl, _, hc⟩ := h.form h0
    refine ⟨_, cap, rfl, fun j x hx => ⟨b, 0, rfl, ?_, ?_⟩⟩
    · have := hc (j * 2 + 0) (.string x.1) (itemCells_get (E := EW) l j x hx 0 (by decide))
      rw [Nat.zero_add]; exact M_cell this
    · have := hc (j * 2 + 1) (.int .i64 x.2) (itemCells_get (E := EW) l j x hx 1 (by decide))
      rw [Nat.zero_add]; exact M_cell this

variable {w : World}

set_option maxHeartbeats 1000000 in
/-- 'spot' -/
theorem spot_is {v : Value} {l : List Wd} {key : ByteArray} (hv : Wds w v l) (hl : l.length ≤ 1000000000000) :
    Calls Try.prog 75 #[v, .string key] w (fun e w' => e = .returned (.tuple #[.int .i64 (pos wlt l (key, 0) : Nat), .bool (fnd wlt l (key, 0))]) ∧ ∃ a, w' = w.drewN a) := by
  obtain ⟨a, cap, rfl, hc⟩ := hv
  have HC := hidp hc
  clear hc
  go_enter Try.func75, Try.ntmps75
  go_wp2
  go_loop [6] (fun i => ∃ j : Nat, j ≤ l.length ∧ i = .int .i64 j ∧ Hid (∀ y ∈ l.take j, wlt y (key, 0) = true)) (fun i => l.length - (intOf i).toNat)
  case atStart => exact ⟨0, Nat.zero_le _, rfl, hidp (by simp)⟩
  case round =>
    obtain ⟨j, hj, rfl, HR⟩ := hrel
    by_cases hlt : j < l.length
    · obtain ⟨x, hx⟩ : ∃ x, l[j]? = some x := ⟨l[j], List.getElem?_eq_getElem hlt⟩
      obtain ⟨b, off, rfl, cx, _⟩ := HC.out j x hx
      have jlt : (j : Int) < (l.length : Int) := by omega
      have HX := hidp hx
      clear hx
      cases hk : Op.bytesLess x.1.toList key.toList with
      | true =>
        go_wp2
        go_round
        case rel => exact ⟨j + 1, by omega, by go_num, hidp (fun y hy => by
          rw [List.take_add_one, HX.out] at hy
          rcases List.mem_append.1 hy with h | h
          · exact HR.out y h
          · obtain rfl : y = x := by simpa using h
            exact hk)⟩
        case measure => simp [intOf]; omega
      | false =>
        have hp : pos wlt l (key, 0) = j := by
          unfold pos
          conv => lhs; rw [← List.take_append_drop j l]
          rw [List.takeWhile_append_of_pos HR.out, List.drop_eq_getElem_cons' HX.out, List.takeWhile_cons_of_neg (by show ¬ Op.bytesLess x.1.toList key.toList = true; rw [hk]; decide), List.append_nil, List.length_take]; omega
        have hf : fnd wlt l (key, 0) = !Op.bytesLess key.toList x.1.toList := by unfold fnd; rw [hp, HX.out]; rfl
        by_cases he : x.1 = key
        · have HP := hidp hp
          have HF := hidp hf
          have HE := hidp he
          rw [he] at cx hk
          clear hp hf he
          go_wp2
          go_quiet (fail)
          go_wp2
          go_ret2
          exact ⟨by rw [HP.out, HF.out, HE.out, bless_irr]; simp, _, rfl⟩
        · have HP := hidp hp
          have ht := bless_total (fun h => he (toList_inj h)) hk
          have HF : Hid (fnd wlt l (key, 0) = false) := hidp (by rw [hf, ht]; rfl)
          have hne : (x.1.toList == key.toList) = false := beq_eq_false_iff_ne.2 (fun h => he (toList_inj h))
          clear hp hf he ht
          go_wp2
          go_quiet (fail)
          go_wp2
          go_ret2
          exact ⟨by rw [HP.out, HF.out]; rfl, _, rfl⟩
    · obtain rfl : j = l.length := by omega
      have hp : pos wlt l (key, 0) = l.length := by
        unfold pos
        have := HR.out
        rw [List.take_length] at this
        have h2 := List.takeWhile_append_of_pos (l₂ := []) this
        rw [List.append_nil] at h2
        rw [h2]; simp
      have HP := hidp hp
      have HF : Hid (fnd wlt l (key, 0) = false) := hidp (by unfold fnd; rw [hp, List.getElem?_eq_none (Nat.le_refl _)])
      have hll : decide ((l.length : Int) < (l.length : Int)) = false := by simp
      clear hp
      go_wp2
      go_quiet (fail)
      go_wp2
      go_ret2
      exact ⟨by rw [HP.out, HF.out]; rfl, _, rfl⟩

theorem infoW : (Try.prog.info? 64).map (fun i => (i.zero, i.size, i.bytes)) = some (some (.agg #[.string ByteArray.empty, .int .i64 0]), 2, 24) := by kernel_rfl
theorem infoB : (Try.prog.info? 4).map (fun i => (i.zero, i.size, i.bytes)) = some (some (.bool false), 1, 1) := by kernel_rfl

/-- Words set one behind the other. -/
def insW (l : List Wd) : List Wd := l.foldl (fun acc x => put wlt acc x) []
theorem insW_take {l : List Wd} {j : Nat} {x : Wd} (h : l[j]? = some x) : insW (l.take (j + 1)) = put wlt (insW (l.take j)) x := by
  unfold insW
  rw [List.take_add_one, h, List.foldl_append]; rfl
theorem putW_length (l : List Wd) (x : Wd) : (put wlt l x).length ≤ l.length + 1 := by
  have hp := pos_le (lt := wlt) l x
  unfold put
  simp only [List.length_append, List.length_take, List.length_cons, List.length_drop]
  omega
theorem insW_length (l : List Wd) : (insW l).length ≤ l.length := by
  have key : ∀ (l acc : List Wd), (l.foldl (fun acc x => put wlt acc x) acc).length ≤ acc.length + l.length := by
    intro l
    induction l with
    | nil => intro acc; simp
    | cons x l ih =>
      intro acc
      have h := ih (put wlt acc x)
      have hp := putW_length acc x
      simp only [List.foldl_cons, List.length_cons]; omega
  simpa [insW] using key l []

theorem cells_pre {l : List Wd} {p q : Nat} {u : Value} (h : (itemCells EW (l.take p))[q]? = some u) : (itemCells EW l)[q]? = some u := by
  have hl := (List.getElem?_eq_some_iff.1 h).1
  rw [← itemCells_take] at h hl
  rw [List.length_take] at hl
  rwa [List.getElem?_take_of_lt (by omega)] at h
theorem cells_suf {l : List Wd} {p q : Nat} {u : Value} (h : (itemCells EW (l.drop p))[q]? = some u) : (itemCells EW l)[p * 2 + q]? = some u := by
  rw [← itemCells_drop, List.getElem?_drop] at h
  exact h
/-- The three lists of 'WSet' at the head of a round. -/
def WR (B : Nat) (w wr : World) (uo ui uk : Value) (j : Nat) (acc : List Wd) : Prop :=
  ∃ xo go gi gk xk, Row 2 wr uo j xo go ∧ Row 2 wr ui acc.length (itemCells EW acc) gi ∧ Row 1 wr uk j xk gk ∧ (∀ b, go = some b → B ≤ b) ∧ (∀ b, gk = some b → B ≤ b) ∧ (∀ b, go = some b → gk = some b → False) ∧ (∀ b, gi = some b → B ≤ b) ∧ (acc = [] → ui = .slice none 0 0) ∧ Below B w wr

theorem WR.next {B : Nat} {w wr w2 w5 w6 w7 : World} {v3 v4 v5 : Value} {j : Nat} {go gk gi : Option Nat} {g3 g4 g5 : Nat} {xs4 xs5 : List Value} {acc : List Wd} {ob1 ob2 : Obj}
    (hb : Below B w wr) (hBw : B ≤ wr.heap.size) (hB : (∀ b, go = some b → B ≤ b) ∧ (∀ b, gk = some b → B ≤ b) ∧ (∀ b, go = some b → gk = some b → False) ∧ (∀ b, gi = some b → B ≤ b)) (f2 : Fr (fun _ => False) wr w2) (hw2 : wr.heap.size < w2.heap.size)
    (lo : ∀ b, go = some b → b < wr.heap.size) (lk : ∀ b, gk = some b → b < wr.heap.size) (f5 : Fr (fun k => w2.heap.size ≤ k) w2 w5) (r3 : Row 2 w5 v3 acc.length (itemCells EW acc) (some g3)) (h3 : w2.heap.size < g3) (hne : acc ≠ [])
    (r4 : Row 2 w6 v4 (j + 1) xs4 (some g4)) (h4 : go = some g4 ∨ w5.heap.size + 1 ≤ g4) (f6 : Fr (fun k => go = some k) (w5.alloc ob1) w6)
    (r5 : Row 1 w7 v5 (j + 1) xs5 (some g5)) (h5 : gk = some g5 ∨ w6.heap.size + 1 ≤ g5) (f7 : Fr (fun k => gk = some k) (w6.alloc ob2) w7) :
    WR B w w7 v4 v3 v5 (j + 1) acc := by
  have s5 := f5.size
  have s6 := f6.size
  have s7 := f7.size
  rw [World.size_alloc] at s6 s7
  have l3 := r3.lt
  have l4 := r4.lt
  have n3 : ¬ go = some g3 := fun h => by have := lo _ h; omega
  have n3k : ¬ gk = some g3 := fun h => by have := lk _ h; omega
  have n4k : ¬ gk = some g4 := fun h => by
    rcases h4 with h4 | h4
    · exact hB.2.2.1 _ h4 h
    · have := lk _ h; omega
  refine ⟨xs4, some g4, some g3, some g5, xs5, (r4.alloc ob2).keep f7 (fun b hb h => by cases hb; exact n4k h), (((r3.alloc ob1).keep f6 (fun b hb h => by cases hb; exact n3 h)).alloc ob2).keep f7 (fun b hb h => by cases hb; exact n3k h), r5, ?_, ?_, ?_, ?_, fun h => absurd h hne, ?_⟩
  · intro b hb; cases hb
    rcases h4 with h4 | h4
    · exact hB.1 _ h4
    · omega
  · intro b hb; cases hb
    rcases h5 with h5 | h5
    · exact hB.2.1 _ h5
    · omega
  · intro b hb hb'; cases hb; cases hb'
    rcases h4 with h4 | h4 <;> rcases h5 with h5 | h5
    · exact hB.2.2.1 _ h4 h5
    · omega
    · have := lk _ h5; omega
    · omega
  · intro b hb; cases hb; omega
  · have b2 := f2.below hBw (fun _ h => h.elim)
    have b5 := f5.below (B := B) (by omega) (fun i h => by have h' : w2.heap.size ≤ i := h; omega)
    have b6 := ((Fr.refl (fun _ => False) w5).alloc ob1).below (B := B) (by omega) (fun _ h => h.elim)
    have b6' := f6.below (B := B) (by rw [World.size_alloc]; omega) (fun i h => hB.1 i h)
    have b7 := ((Fr.refl (fun _ => False) w6).alloc ob2).below (B := B) (by omega) (fun _ h => h.elim)
    have b7' := f7.below (B := B) (by rw [World.size_alloc]; omega) (fun i h => hB.2.1 i h)
    exact ((((hb.trans b2).trans b5).trans (b6.trans b6')).trans (b7.trans b7'))

set_option maxHeartbeats 2000000 in
set_option maxRecDepth 100000 in
/-- 'WSet' -/
theorem wset_is {v : Value} {l : List Wd} (hv : Wds w v l) (hl : l.length ≤ 4294967296) :
    Calls Try.prog 103 #[v] w (fun e w' => ∃ o u k g, e = .returned (.tuple #[o, k, u]) ∧ Row 2 w' u (insW l).length (itemCells EW (insW l)) g ∧ (∀ b, g = some b → w.heap.size ≤ b) ∧ Below w.heap.size w w') := by
  obtain ⟨a, cap, rfl, hc⟩ := hv
  have hc' : ∀ j x, l[j]? = some x → ∃ b off, a = some ⟨b, off, none⟩ ∧ b < w.heap.size ∧ w.cell? ⟨b, off + j * 2, none⟩ = some (.string x.1) ∧ w.cell? ⟨b, off + j * 2 + 1, none⟩ = some (.int .i64 x.2) := fun j x hx => by
    obtain ⟨b, off, e, h1, h2⟩ := hc j x hx
    exact ⟨b, off, e, World.block_lt_of_cell? w _ h1, h1, h2⟩
  have HC := hidp hc'
  obtain ⟨i0, hi0, hz0, hz1, hz2⟩ := info_parts infoW
  have HI0 := hidp hi0
  have HZ0 := hidp hz0
  have HZ1 := hidp hz1
  have HZ2 := hidp hz2
  obtain ⟨j0, hj0, hy0, hy1, hy2⟩ := info_parts infoB
  have HJ0 := hidp hj0
  have HY0 := hidp hy0
  have HY1 := hidp hy1
  have HY2 := hidp hy2
  clear hc hc' hi0 hz0 hz1 hz2 hj0 hy0 hy1 hy2
  go_enter Try.func103, Try.ntmps103
  go_wp2
  go_loopw [5, 6, 7, 16] (fun uo ui uk i wr => ∃ j : Nat, j ≤ l.length ∧ i = .int .i64 j ∧ Hid (WR w.heap.size w wr uo ui uk j (insW (l.take j)))) (fun _ _ _ i _ => l.length - (intOf i).toNat)
  case atStart => exact ⟨0, Nat.zero_le _, rfl, hidp ⟨[], none, none, none, [], Row.nil _ _, Row.nil _ _, Row.nil _ _, (fun b h => by cases h), (fun b h => by cases h), (fun b h => by cases h), (fun b h => by cases h), (fun _ => rfl), Below.refl _ _⟩⟩
  case round =>
    obtain ⟨j, hj, rfl, HR⟩ := hrel
    obtain ⟨xo, go, gi, gk, xk, r1, r2, r3, b1, b2, b3, b4, hnl, hb⟩ := HR.out
    clear HR
    by_cases hlt : j < l.length
    · obtain ⟨x, hx⟩ : ∃ x, l[j]? = some x := ⟨l[j], List.getElem?_eq_getElem hlt⟩
      obtain ⟨b, off, rfl, hbl, cx, cy⟩ := HC.out j x hx
      have cx' : wr.cell? ⟨b, off + j * 2, none⟩ = some (.string x.1) := (hb.cell (p := ⟨b, off + j * 2, none⟩) hbl).trans cx
      have cy' : wr.cell? ⟨b, off + j * 2 + 1, none⟩ = some (.int .i64 x.2) := (hb.cell (p := ⟨b, off + j * 2 + 1, none⟩) hbl).trans cy
      have jlt : (j : Int) < (l.length : Int) := by omega
      have hil : (insW (l.take j)).length ≤ 4294967296 := by
        have := insW_length (l.take j)
        rw [List.length_take] at this; omega
      have HT := hidp (insW_take hx)
      clear hx cx cy
      generalize hacc : insW (l.take j) = acc at *
      clear hacc
      have hbr : w.heap.size ≤ wr.heap.size := hb.size
      have HR1 := hidp r1
      have HR2 := hidp r2
      have HR3 := hidp r3
      have HB := hidp (And.intro b1 (And.intro b2 (And.intro b3 b4)))
      have HBL := hidp hb
      have hsp := spot_is (w := wr.alloc (.cells #[.string x.1, .int .i64 x.2] 64)) (key := x.1) (Wds.of_row (r2.alloc _)) (by omega)
      have HSP := hidp hsp
      have HNL := hidp hnl
      clear r1 r2 r3 b1 b2 b3 b4 hb hsp hnl
      go_wp2_with fail
      refine HSP.out.mono ?_
      rintro e w' ⟨rfl, sn, rfl⟩
      have F2 := ((Fr.refl (fun _ => False) wr).alloc (.cells #[.string x.1, .int .i64 x.2] 64)).drewN sn
      have B9 := (Bx.new wr [.string x.1, .int .i64 x.2] 64).drewN sn
      have hpe : pos wlt acc (x.1, 0) = pos wlt acc x := rfl
      have hfe : fnd wlt acc (x.1, 0) = fnd wlt acc x := rfl
      have hpu : put wlt acc x = acc.take (pos wlt acc x) ++ x :: acc.drop (pos wlt acc x + if fnd wlt acc x then 1 else 0) := rfl
      rw [hpe, hfe]
      rw [hpu] at HT
      have hp := pos_le (lt := wlt) acc x
      have hfl : fnd wlt acc x = true → pos wlt acc x < acc.length := fun h => by
        rw [fnd_look] at h
        obtain ⟨z, hz⟩ := Option.isSome_iff_exists.1 h
        exact (look_some hz).2.2
      have HFL := hidp hfl
      clear hpe hfe hpu HSP cx' cy' hfl
      generalize (wr.alloc (.cells #[.string x.1, .int .i64 x.2] 64)).drewN sn = w2 at F2 B9 ⊢
      generalize pos wlt acc x = p at *
      generalize hfg : fnd wlt acc x = f at *
      clear hfg
      obtain ⟨bi, hbi⟩ : ∃ bi, bi = gi.getD 0 := ⟨_, rfl⟩
      obtain ⟨a2, cap2, e2, hcap2, ha2, hg2, hcell2⟩ := (HR2.out.keep F2 (fun _ _ h => h)).cut
      rw [← hbi] at ha2 hg2 hcell2
      subst e2
      have HA2 := hidp ha2
      have HZZ : Hid (acc = [] → a2 = none ∧ cap2 = 0) := hidp fun h => by have h9 := HNL.out h; injection h9 with h9a h9b h9c; exact ⟨h9a, h9c⟩
      clear HNL
      have HG2 := hidp hg2
      have HCE := hidp hcell2
      have HBI : Hid (∀ q u, (itemCells EW acc)[q]? = some u → bi < w2.heap.size) := hidp fun q u hq => World.block_lt_of_cell? w2 _ (hcell2 q u hq)
      have HF2 := hidp F2
      have d0 := B9.cell 0 rfl
      have d1 := B9.cell 1 rfl
      have hb9 := B9.1
      have hw2 : wr.heap.size < w2.heap.size := B9.1
      clear F2 B9 ha2 hg2 hcell2 hbi
      have hpi : (p : Int) ≤ (cap2 : Int) := by omega
      cases f with
      | true =>
        have hpl := HFL.out (by trivial)
        have ea2 : a2 = some ⟨bi, 0, none⟩ := HA2.out (by omega)
        subst ea2

        go_wp2_with (at_builtin; go_must (refine wpList_rows rfl (.tmp 30) (.tmp 33) _ rfl 64 i0 _ 2 24 Try.underlying59 HI0.out HZ0.out HZ1.out HZ2.out rfl (by decide) (.slice (some ⟨w2.heap.size + 1, 0, none⟩) 0 0) 0 [] (w2.heap.size + 1) rfl (by have h := Row.empty 2 (w2.alloc (.cells #[.string x.1, .int .i64 0] 64)) #[] 64; rw [World.size_alloc] at h; exact h) ⟨bi, 0, none⟩ p cap2 (itemCells EW (acc.take p)) ⟨_, rfl, fun h => by first | rfl | (exfalso; omega) | simp⟩ (by rw [itemCells_length, List.length_take, Nat.min_eq_left hp]; rfl) (fun q u hq => by rw [Addr.add_lit, Nat.zero_add]; exact ((((Fr.refl (fun _ => False) w2).alloc _).alloc _).cell (x := ⟨bi, q, none⟩) (HBI.out q u (cells_pre hq)) (fun h => h)).trans (HCE.out q u (cells_pre hq))) (itemCells_one _) (by unfold maxLen; omega) (by omega) ?_))
        intro v1 w3 g1 hr1 hg1 hF3
        have hg1' : w2.heap.size < g1 := by omega
        have hs3 : w2.heap.size + 2 ≤ w3.heap.size := by have := hF3.size; simp at this; omega
        have F3 : Fr (fun k => w2.heap.size < k) w2 w3 := Fr.trans ((((Fr.refl (fun _ => False) w2).alloc _).alloc _).mono (fun _ h => h.elim)) hF3 (fun k hk => .inl (by show w2.heap.size < k; omega))
        have d0 := (F3.cell (x := ⟨wr.heap.size, 0, none⟩) hb9 (by show ¬ w2.heap.size < wr.heap.size; omega)).trans d0
        have d1 := (F3.cell (x := ⟨wr.heap.size, 1, none⟩) hb9 (by show ¬ w2.heap.size < wr.heap.size; omega)).trans d1
        have BF := (((Bx.new w2 [.string x.1, .int .i64 0] 64).alloc (.cells #[] 64))).keep hF3 (by show ¬ w2.heap.size = w2.heap.size + 1; omega)
        have HBF := hidp BF
        have HN1 := hidp (And.intro hr1 F3)
        have hb9' : wr.heap.size < w3.heap.size := by omega
        clear hr1 hg1 hF3 F3 BF
        go_wp2_with (at_builtin; go_must (refine wpList_row rfl (.tmp 35) (.tmp 37) _ rfl 64 i0 _ 2 24 Try.underlying59 HI0.out HZ0.out HZ1.out HZ2.out rfl (by decide) v1 p _ (some g1) rfl (HN1.out.1.alloc _) ⟨w3.heap.size, 0, none⟩ 1 1 [.string x.1, .int .i64 x.2] rfl (by decide) rfl (fun q u hq => by rw [Addr.add_lit, Nat.zero_add]; exact (Bx.new w3 [.string x.1, .int .i64 x.2] 64).cell q hq) (by simp [Value.oneCell']) (by unfold maxLen; omega) (by omega) ?_))
        intro v2 w4 g2 hr2 hg2 hF4
        have hg2' : w2.heap.size < g2 := by rcases hg2 with h | h; (subst h; omega); omega
        have hs4 : w3.heap.size + 1 ≤ w4.heap.size := by have := hF4.size; simp at this; omega
        have F34 : Fr (fun k => w2.heap.size < k) w3 w4 := Fr.trans ((((Fr.refl (fun _ => False) w3).alloc _)).mono (fun _ h => h.elim)) hF4 (fun k hk => .inl (by show w2.heap.size < k; have hk' : g1 = k := (by simpa using hk); omega))
        have F4 := Fr.trans HN1.out.2 F34 (fun k hk => .inl hk)
        have HBF4 := hidp (HBF.out.keep F34 (by show ¬ w2.heap.size < w2.heap.size; omega))
        have HN2 := hidp (And.intro hr2 F4)
        clear hr2 hg2 hF4 F34 F4 HN1 HBF d0 d1 hb9'
        obtain ⟨xb, hxb⟩ : ∃ xb, acc[p]? = some xb := ⟨acc[p], List.getElem?_eq_getElem hpl⟩
        have hcv := HCE.out (p * 2 + 1) (.int .i64 xb.2) (itemCells_get (E := EW) acc p xb hxb 1 (by decide))
        have cv : w4.cell? ⟨bi, p * 2 + 1, none⟩ = some (.int .i64 xb.2) := (HN2.out.2.cell (x := ⟨bi, p * 2 + 1, none⟩) (HBI.out _ _ (itemCells_get (E := EW) acc p xb hxb 1 (by decide))) (by show ¬ w2.heap.size < bi; have := HBI.out _ _ (itemCells_get (E := EW) acc p xb hxb 1 (by decide)); omega)).trans hcv
        have hpi2 : (p : Int) < (acc.length : Int) := by omega
        have hpi3 : (p : Int) + 1 ≤ (cap2 : Int) := by omega
        have t0 := HBF4.out.cell 0 rfl
        have t1 := HBF4.out.cell 1 rfl
        have t1f := HBF4.out.froz 1 rfl
        have hbw := HBF4.out.1
        have U5 := Upd.one w4 (b := w2.heap.size) (o := 1) (.int .i64 xb.2) (by rw [HBF4.out.2 1 _ rfl]; rfl)
        have BN : Bx (w4.setCell ⟨w2.heap.size, 1, none⟩ (.int .i64 xb.2)) w2.heap.size [.string x.1, .int .i64 xb.2] := ⟨by rw [U5.size]; exact hbw, fun q u hq => by
          match q, hq with
          | 0, hq => obtain rfl := Option.some.inj hq; rw [U5.M_ne (by simp)]; exact HBF4.out.2 0 _ rfl
          | 1, hq => obtain rfl := Option.some.inj hq; exact U5.M_at (j := 0) (by simp)
          | q + 2, hq => simp at hq⟩
        have HN2' := hidp (And.intro (HN2.out.1.keep U5.fr (fun b hb => by have h9 := Option.some.inj hb; show ¬ b = w2.heap.size; omega)) (Fr.trans (HN2.out.2.mono (S' := fun k => w2.heap.size ≤ k) (fun k hk => Nat.le_of_lt hk)) U5.fr (fun k hk => .inl (Nat.le_of_eq (by have hk' : k = w2.heap.size := hk; exact hk'.symm)))))
        have HBN := hidp BN
        have hs5' : (w4.setCell ⟨w2.heap.size, 1, none⟩ (.int .i64 xb.2)).heap.size = w4.heap.size := U5.size
        have HGEN : Hid (∃ w4', w4' = w4.setCell ⟨w2.heap.size, 1, none⟩ (.int .i64 xb.2)) := hidp ⟨_, rfl⟩
        clear hxb hcv U5 BN HBF4 HN2
        by_cases hcq : cap2 = p + 1
        · subst hcq
          go_wp2_with (at_builtin; go_must (refine wpList_rows rfl (.tmp 48) (.tmp 51) _ rfl 64 i0 _ 2 24 Try.underlying59 HI0.out HZ0.out HZ1.out HZ2.out rfl (by decide) v2 (p + 1) _ g2 rfl HN2'.out.1 ⟨bi, 0, none⟩ 0 _ [] ⟨_, rfl, fun h => absurd h (by decide)⟩ rfl (fun q u hq => by simp at hq) (fun u hu => by simp at hu) (by unfold maxLen; omega) (by omega) ?_))
          intro v3 w5 g3 hr3 hg3 hF5
          have hdr : acc.drop (p + 1) = [] := List.drop_eq_nil_of_le (by omega)
          have hr3' : Row 2 w5 v3 (acc.take p ++ x :: acc.drop (p + 1)).length (itemCells EW (acc.take p ++ x :: acc.drop (p + 1))) (some g3) := by
            have e1 : itemCells EW (acc.take p ++ x :: acc.drop (p + 1)) = [] ++ itemCells EW (acc.take p) ++ [.string x.1, .int .i64 x.2] ++ [] := by
              rw [itemCells_append]; rw [hdr]; simp [itemCells, EW]
            have e2 : (acc.take p ++ x :: acc.drop (p + 1)).length = p + 1 + 0 := by
              rw [hdr]; simp only [List.length_append, List.length_take, List.length_cons, List.length_drop, List.length_nil]; omega
            rw [e1, e2]; simpa using hr3
          have hg3' : w2.heap.size < g3 := by rcases hg3 with h | h; (subst h; omega); omega
          have hs5 : (w4.setCell ⟨w2.heap.size, 1, none⟩ (.int .i64 xb.2)).heap.size ≤ w5.heap.size := hF5.size
          have hs6 : w4.heap.size ≤ w5.heap.size := by first | exact hs5 | (rw [← hs5']; exact hs5)
          have F5 : Fr (fun k => w2.heap.size ≤ k) w2 w5 := Fr.trans HN2'.out.2 hF5 (fun k hk => .inl (by show w2.heap.size ≤ k; rw [hk]; omega))
          have B5 := HBN.out.keep hF5 (by show ¬ w2.heap.size = g2; omega)
          have e0 := B5.cell 0 rfl
          have e1 := B5.cell 1 rfl
          have hbw5 := B5.1
          have R5o := HR1.out.keep ((HF2.out.mono (fun _ h => h.elim)).trans F5 (S := fun k => wr.heap.size ≤ k) (fun k hk => .inl (by show wr.heap.size ≤ k; have hk' : w2.heap.size ≤ k := hk; omega))) (fun b hb => by subst hb; have := HR1.out.lt; show ¬ wr.heap.size ≤ b; omega)
          have R5k := HR3.out.keep ((HF2.out.mono (fun _ h => h.elim)).trans F5 (S := fun k => wr.heap.size ≤ k) (fun k hk => .inl (by show wr.heap.size ≤ k; have hk' : w2.heap.size ≤ k := hk; omega))) (fun b hb => by subst hb; have := HR3.out.lt; show ¬ wr.heap.size ≤ b; omega)
          have HN3 := hidp (And.intro hr3' (And.intro F5 (And.intro R5o R5k)))
          clear hr3 hr3' hg3 hF5 F5 B5 R5o R5k HN2' HBN
          go_wp2_with (at_builtin; go_must (refine wpList_row rfl (.tmp 53) (.tmp 55) _ rfl 64 i0 _ 2 24 Try.underlying59 HI0.out HZ0.out HZ1.out HZ2.out rfl (by decide) u5 j xo go rfl (HN3.out.2.2.1.alloc _) ⟨w5.heap.size, 0, none⟩ 1 1 [.string x.1, .int .i64 xb.2] rfl (by decide) rfl (fun q u hq => by rw [Addr.add_lit, Nat.zero_add]; exact (Bx.new w5 [.string x.1, .int .i64 xb.2] 64).cell q hq) (by simp [Value.oneCell']) (by unfold maxLen; omega) (by omega) ?_))
          intro v4 w6 g4 hr4 hg4 hF6
          have HN4 := hidp (And.intro hr4 (And.intro hg4 hF6))
          clear hr4 hg4 hF6
          go_wp2_with (at_builtin; go_must (refine wpList_row rfl (.tmp 57) (.tmp 59) _ rfl 4 j0 _ 1 1 Try.underlying56 HJ0.out HY0.out HY1.out HY2.out rfl (by decide) u7 j xk gk rfl (((HN3.out.2.2.2.alloc _).keep HN4.out.2.2 (fun b hb h => HB.out.2.2.1 b h hb)).alloc _) ⟨w6.heap.size, 0, none⟩ 1 1 [.bool true] rfl (by decide) rfl (fun q u hq => by rw [Addr.add_lit, Nat.zero_add]; exact (Bx.new w6 [.bool true] 4).cell q hq) (by simp [Value.oneCell']) (by unfold maxLen; omega) (by omega) ?_))
          intro v5 w7 g5 hr5 hg5 hF7
          have HN5 := hidp (And.intro hr5 (And.intro hg5 hF7))
          clear hr5 hg5 hF7
          go_wp2
          go_roundw
          case rel => exact ⟨j + 1, by omega, by go_num, hidp (by rw [HT.out]; simp only [if_true, if_false, Bool.false_eq_true, Nat.add_zero, ↓reduceIte]; exact WR.next HBL.out hbr HB.out HF2.out hw2 (fun b hb => by subst hb; exact HR1.out.lt) (fun b hb => by subst hb; exact HR3.out.lt) HN3.out.2.1 HN3.out.1 hg3' (by simp) HN4.out.1 HN4.out.2.1 HN4.out.2.2 HN5.out.1 HN5.out.2.1 HN5.out.2.2)⟩
          case measure => simp [intOf]; omega
        · skip
          go_wp2_with (at_builtin; go_must (refine wpList_rows rfl (.tmp 48) (.tmp 51) _ rfl 64 i0 _ 2 24 Try.underlying59 HI0.out HZ0.out HZ1.out HZ2.out rfl (by decide) v2 (p + 1) _ g2 rfl HN2'.out.1 ⟨bi, (p + 1) * 2, none⟩ (acc.length - (p + 1)) _ (itemCells EW (acc.drop (p + 1))) ⟨_, rfl, fun h => by first | (exfalso; omega) | rfl | simp⟩ (by rw [itemCells_length, List.length_drop]; rfl) (fun q u hq => by rw [Addr.add_lit]; exact (HN2'.out.2.cell (x := ⟨bi, (p + 1) * 2 + q, none⟩) (HBI.out _ u (cells_suf hq)) (by show ¬ w2.heap.size ≤ bi; have := HBI.out _ u (cells_suf hq); omega)).trans (HCE.out _ u (cells_suf hq))) (itemCells_one _) (by unfold maxLen; omega) (by omega) ?_))
          intro v3 w5 g3 hr3 hg3 hF5
          skip
          have hr3' : Row 2 w5 v3 (acc.take p ++ x :: acc.drop (p + 1)).length (itemCells EW (acc.take p ++ x :: acc.drop (p + 1))) (some g3) := by
            have e1 : itemCells EW (acc.take p ++ x :: acc.drop (p + 1)) = [] ++ itemCells EW (acc.take p) ++ [.string x.1, .int .i64 x.2] ++ itemCells EW (acc.drop (p + 1)) := by
              rw [itemCells_append]; simp [itemCells, EW]
            have e2 : (acc.take p ++ x :: acc.drop (p + 1)).length = p + 1 + (acc.length - (p + 1)) := by
              simp only [List.length_append, List.length_take, List.length_cons, List.length_drop, List.length_nil]; omega
            rw [e1, e2]; simpa using hr3
          have hg3' : w2.heap.size < g3 := by rcases hg3 with h | h; (subst h; omega); omega
          have hs5 : (w4.setCell ⟨w2.heap.size, 1, none⟩ (.int .i64 xb.2)).heap.size ≤ w5.heap.size := hF5.size
          have hs6 : w4.heap.size ≤ w5.heap.size := by first | exact hs5 | (rw [← hs5']; exact hs5)
          have F5 : Fr (fun k => w2.heap.size ≤ k) w2 w5 := Fr.trans HN2'.out.2 hF5 (fun k hk => .inl (by show w2.heap.size ≤ k; rw [hk]; omega))
          have B5 := HBN.out.keep hF5 (by show ¬ w2.heap.size = g2; omega)
          have e0 := B5.cell 0 rfl
          have e1 := B5.cell 1 rfl
          have hbw5 := B5.1
          have R5o := HR1.out.keep ((HF2.out.mono (fun _ h => h.elim)).trans F5 (S := fun k => wr.heap.size ≤ k) (fun k hk => .inl (by show wr.heap.size ≤ k; have hk' : w2.heap.size ≤ k := hk; omega))) (fun b hb => by subst hb; have := HR1.out.lt; show ¬ wr.heap.size ≤ b; omega)
          have R5k := HR3.out.keep ((HF2.out.mono (fun _ h => h.elim)).trans F5 (S := fun k => wr.heap.size ≤ k) (fun k hk => .inl (by show wr.heap.size ≤ k; have hk' : w2.heap.size ≤ k := hk; omega))) (fun b hb => by subst hb; have := HR3.out.lt; show ¬ wr.heap.size ≤ b; omega)
          have HN3 := hidp (And.intro hr3' (And.intro F5 (And.intro R5o R5k)))
          clear hr3 hr3' hg3 hF5 F5 B5 R5o R5k HN2' HBN
          go_wp2_with (at_builtin; go_must (refine wpList_row rfl (.tmp 53) (.tmp 55) _ rfl 64 i0 _ 2 24 Try.underlying59 HI0.out HZ0.out HZ1.out HZ2.out rfl (by decide) u5 j xo go rfl (HN3.out.2.2.1.alloc _) ⟨w5.heap.size, 0, none⟩ 1 1 [.string x.1, .int .i64 xb.2] rfl (by decide) rfl (fun q u hq => by rw [Addr.add_lit, Nat.zero_add]; exact (Bx.new w5 [.string x.1, .int .i64 xb.2] 64).cell q hq) (by simp [Value.oneCell']) (by unfold maxLen; omega) (by omega) ?_))
          intro v4 w6 g4 hr4 hg4 hF6
          have HN4 := hidp (And.intro hr4 (And.intro hg4 hF6))
          clear hr4 hg4 hF6
          go_wp2_with (at_builtin; go_must (refine wpList_row rfl (.tmp 57) (.tmp 59) _ rfl 4 j0 _ 1 1 Try.underlying56 HJ0.out HY0.out HY1.out HY2.out rfl (by decide) u7 j xk gk rfl (((HN3.out.2.2.2.alloc _).keep HN4.out.2.2 (fun b hb h => HB.out.2.2.1 b h hb)).alloc _) ⟨w6.heap.size, 0, none⟩ 1 1 [.bool true] rfl (by decide) rfl (fun q u hq => by rw [Addr.add_lit, Nat.zero_add]; exact (Bx.new w6 [.bool true] 4).cell q hq) (by simp [Value.oneCell']) (by unfold maxLen; omega) (by omega) ?_))
          intro v5 w7 g5 hr5 hg5 hF7
          have HN5 := hidp (And.intro hr5 (And.intro hg5 hF7))
          clear hr5 hg5 hF7
          go_wp2
          go_roundw
          case rel => exact ⟨j + 1, by omega, by go_num, hidp (by rw [HT.out]; simp only [if_true, if_false, Bool.false_eq_true, Nat.add_zero, ↓reduceIte]; exact WR.next HBL.out hbr HB.out HF2.out hw2 (fun b hb => by subst hb; exact HR1.out.lt) (fun b hb => by subst hb; exact HR3.out.lt) HN3.out.2.1 HN3.out.1 hg3' (by simp) HN4.out.1 HN4.out.2.1 HN4.out.2.2 HN5.out.1 HN5.out.2.1 HN5.out.2.2)⟩
          case measure => simp [intOf]; omega
      | false =>
        rcases Nat.eq_zero_or_pos acc.length with h0 | h0
        · obtain ⟨ea2, ec2⟩ := HZZ.out (List.eq_nil_of_length_eq_zero h0)
          subst ea2
          subst ec2
          have ecp : p = 0 := by omega
          subst ecp
          go_wp2_with (at_builtin; go_must (refine wpList_rows rfl (.tmp 30) (.tmp 33) _ rfl 64 i0 _ 2 24 Try.underlying59 HI0.out HZ0.out HZ1.out HZ2.out rfl (by decide) (.slice (some ⟨w2.heap.size + 1, 0, none⟩) 0 0) 0 [] (w2.heap.size + 1) rfl (by have h := Row.empty 2 (w2.alloc (.cells #[.string x.1, .int .i64 0] 64)) #[] 64; rw [World.size_alloc] at h; exact h) ⟨bi, 0, none⟩ 0 _ (itemCells EW (acc.take 0)) ⟨_, rfl, fun h => by first | rfl | (exfalso; omega) | simp⟩ (by rw [itemCells_length, List.length_take, Nat.zero_min]; rfl) (fun q u hq => by rw [Addr.add_lit, Nat.zero_add]; exact ((((Fr.refl (fun _ => False) w2).alloc _).alloc _).cell (x := ⟨bi, q, none⟩) (HBI.out q u (cells_pre hq)) (fun h => h)).trans (HCE.out q u (cells_pre hq))) (itemCells_one _) (by unfold maxLen; omega) (by omega) ?_))
          intro v1 w3 g1 hr1 hg1 hF3
          have hg1' : w2.heap.size < g1 := by omega
          have hs3 : w2.heap.size + 2 ≤ w3.heap.size := by have := hF3.size; simp at this; omega
          have F3 : Fr (fun k => w2.heap.size < k) w2 w3 := Fr.trans ((((Fr.refl (fun _ => False) w2).alloc _).alloc _).mono (fun _ h => h.elim)) hF3 (fun k hk => .inl (by show w2.heap.size < k; omega))
          have d0 := (F3.cell (x := ⟨wr.heap.size, 0, none⟩) hb9 (by show ¬ w2.heap.size < wr.heap.size; omega)).trans d0
          have d1 := (F3.cell (x := ⟨wr.heap.size, 1, none⟩) hb9 (by show ¬ w2.heap.size < wr.heap.size; omega)).trans d1
          have BF := (((Bx.new w2 [.string x.1, .int .i64 0] 64).alloc (.cells #[] 64))).keep hF3 (by show ¬ w2.heap.size = w2.heap.size + 1; omega)
          have HBF := hidp BF
          have HN1 := hidp (And.intro hr1 F3)
          have hb9' : wr.heap.size < w3.heap.size := by omega
          clear hr1 hg1 hF3 F3 BF
          go_wp2_with (at_builtin; go_must (refine wpList_row rfl (.tmp 35) (.tmp 37) _ rfl 64 i0 _ 2 24 Try.underlying59 HI0.out HZ0.out HZ1.out HZ2.out rfl (by decide) v1 0 _ (some g1) rfl (HN1.out.1.alloc _) ⟨w3.heap.size, 0, none⟩ 1 1 [.string x.1, .int .i64 x.2] rfl (by decide) rfl (fun q u hq => by rw [Addr.add_lit, Nat.zero_add]; exact (Bx.new w3 [.string x.1, .int .i64 x.2] 64).cell q hq) (by simp [Value.oneCell']) (by unfold maxLen; omega) (by omega) ?_))
          intro v2 w4 g2 hr2 hg2 hF4
          have hg2' : w2.heap.size < g2 := by rcases hg2 with h | h; (subst h; omega); omega
          have hs4 : w3.heap.size + 1 ≤ w4.heap.size := by have := hF4.size; simp at this; omega
          have F34 : Fr (fun k => w2.heap.size < k) w3 w4 := Fr.trans ((((Fr.refl (fun _ => False) w3).alloc _)).mono (fun _ h => h.elim)) hF4 (fun k hk => .inl (by show w2.heap.size < k; have hk' : g1 = k := (by simpa using hk); omega))
          have F4 := Fr.trans HN1.out.2 F34 (fun k hk => .inl hk)
          have HBF4 := hidp (HBF.out.keep F34 (by show ¬ w2.heap.size < w2.heap.size; omega))
          have HN2 := hidp (And.intro hr2 F4)
          clear hr2 hg2 hF4 F34 F4 HN1 HBF d0 d1 hb9'
          have HN2' := hidp (And.intro HN2.out.1 (HN2.out.2.mono (S' := fun k => w2.heap.size ≤ k) (fun k hk => Nat.le_of_lt hk)))
          have HBN := HBF4
          clear HN2
          go_wp2_with (at_builtin; go_must (refine wpList_rows rfl (.tmp 48) (.tmp 51) _ rfl 64 i0 _ 2 24 Try.underlying59 HI0.out HZ0.out HZ1.out HZ2.out rfl (by decide) v2 (0 + 1) _ g2 rfl HN2'.out.1 ⟨bi, 0, none⟩ 0 _ [] ⟨_, rfl, fun h => absurd h (by decide)⟩ rfl (fun q u hq => by simp at hq) (fun u hu => by simp at hu) (by unfold maxLen; omega) (by omega) ?_))
          intro v3 w5 g3 hr3 hg3 hF5
          have hdr : acc.drop 0 = [] := List.drop_eq_nil_of_le (by omega)
          have hr3' : Row 2 w5 v3 (acc.take 0 ++ x :: acc.drop 0).length (itemCells EW (acc.take 0 ++ x :: acc.drop 0)) (some g3) := by
            have e1 : itemCells EW (acc.take 0 ++ x :: acc.drop 0) = [] ++ itemCells EW (acc.take 0) ++ [.string x.1, .int .i64 x.2] ++ [] := by
              rw [itemCells_append]; rw [hdr]; simp [itemCells, EW]
            have e2 : (acc.take 0 ++ x :: acc.drop 0).length = 0 + 1 + 0 := by
              rw [hdr]; simp only [List.length_append, List.length_take, List.length_cons, List.length_drop, List.length_nil]; omega
            rw [e1, e2]; simpa using hr3
          have hg3' : w2.heap.size < g3 := by rcases hg3 with h | h; (subst h; omega); omega
          have hs5 : w4.heap.size ≤ w5.heap.size := hF5.size
          have hs6 : w4.heap.size ≤ w5.heap.size := by first | exact hs5 | (rw [← hs5']; exact hs5)
          have F5 : Fr (fun k => w2.heap.size ≤ k) w2 w5 := Fr.trans HN2'.out.2 hF5 (fun k hk => .inl (by show w2.heap.size ≤ k; rw [hk]; omega))
          have B5 := HBN.out.keep hF5 (by show ¬ w2.heap.size = g2; omega)
          have e0 := B5.cell 0 rfl
          have e1 := B5.cell 1 rfl
          have hbw5 := B5.1
          have R5o := HR1.out.keep ((HF2.out.mono (fun _ h => h.elim)).trans F5 (S := fun k => wr.heap.size ≤ k) (fun k hk => .inl (by show wr.heap.size ≤ k; have hk' : w2.heap.size ≤ k := hk; omega))) (fun b hb => by subst hb; have := HR1.out.lt; show ¬ wr.heap.size ≤ b; omega)
          have R5k := HR3.out.keep ((HF2.out.mono (fun _ h => h.elim)).trans F5 (S := fun k => wr.heap.size ≤ k) (fun k hk => .inl (by show wr.heap.size ≤ k; have hk' : w2.heap.size ≤ k := hk; omega))) (fun b hb => by subst hb; have := HR3.out.lt; show ¬ wr.heap.size ≤ b; omega)
          have HN3 := hidp (And.intro hr3' (And.intro F5 (And.intro R5o R5k)))
          clear hr3 hr3' hg3 hF5 F5 B5 R5o R5k HN2' HBN
          go_wp2_with (at_builtin; go_must (refine wpList_row rfl (.tmp 53) (.tmp 55) _ rfl 64 i0 _ 2 24 Try.underlying59 HI0.out HZ0.out HZ1.out HZ2.out rfl (by decide) u5 j xo go rfl (HN3.out.2.2.1.alloc _) ⟨w5.heap.size, 0, none⟩ 1 1 [.string x.1, .int .i64 0] rfl (by decide) rfl (fun q u hq => by rw [Addr.add_lit, Nat.zero_add]; exact (Bx.new w5 [.string x.1, .int .i64 0] 64).cell q hq) (by simp [Value.oneCell']) (by unfold maxLen; omega) (by omega) ?_))
          intro v4 w6 g4 hr4 hg4 hF6
          have HN4 := hidp (And.intro hr4 (And.intro hg4 hF6))
          clear hr4 hg4 hF6
          go_wp2_with (at_builtin; go_must (refine wpList_row rfl (.tmp 57) (.tmp 59) _ rfl 4 j0 _ 1 1 Try.underlying56 HJ0.out HY0.out HY1.out HY2.out rfl (by decide) u7 j xk gk rfl (((HN3.out.2.2.2.alloc _).keep HN4.out.2.2 (fun b hb h => HB.out.2.2.1 b h hb)).alloc _) ⟨w6.heap.size, 0, none⟩ 1 1 [.bool false] rfl (by decide) rfl (fun q u hq => by rw [Addr.add_lit, Nat.zero_add]; exact (Bx.new w6 [.bool false] 4).cell q hq) (by simp [Value.oneCell']) (by unfold maxLen; omega) (by omega) ?_))
          intro v5 w7 g5 hr5 hg5 hF7
          have HN5 := hidp (And.intro hr5 (And.intro hg5 hF7))
          clear hr5 hg5 hF7
          go_wp2
          go_roundw
          case rel => exact ⟨j + 1, by omega, by go_num, hidp (by rw [HT.out]; simp only [if_true, if_false, Bool.false_eq_true, Nat.add_zero, ↓reduceIte]; exact WR.next HBL.out hbr HB.out HF2.out hw2 (fun b hb => by subst hb; exact HR1.out.lt) (fun b hb => by subst hb; exact HR3.out.lt) HN3.out.2.1 HN3.out.1 hg3' (by simp) HN4.out.1 HN4.out.2.1 HN4.out.2.2 HN5.out.1 HN5.out.2.1 HN5.out.2.2)⟩
          case measure => simp [intOf]; omega
        · have ea2 : a2 = some ⟨bi, 0, none⟩ := HA2.out h0
          subst ea2
          go_wp2_with (at_builtin; go_must (refine wpList_rows rfl (.tmp 30) (.tmp 33) _ rfl 64 i0 _ 2 24 Try.underlying59 HI0.out HZ0.out HZ1.out HZ2.out rfl (by decide) (.slice (some ⟨w2.heap.size + 1, 0, none⟩) 0 0) 0 [] (w2.heap.size + 1) rfl (by have h := Row.empty 2 (w2.alloc (.cells #[.string x.1, .int .i64 0] 64)) #[] 64; rw [World.size_alloc] at h; exact h) ⟨bi, 0, none⟩ p cap2 (itemCells EW (acc.take p)) ⟨_, rfl, fun h => by first | rfl | (exfalso; omega) | simp⟩ (by rw [itemCells_length, List.length_take, Nat.min_eq_left hp]; rfl) (fun q u hq => by rw [Addr.add_lit, Nat.zero_add]; exact ((((Fr.refl (fun _ => False) w2).alloc _).alloc _).cell (x := ⟨bi, q, none⟩) (HBI.out q u (cells_pre hq)) (fun h => h)).trans (HCE.out q u (cells_pre hq))) (itemCells_one _) (by unfold maxLen; omega) (by omega) ?_))
          intro v1 w3 g1 hr1 hg1 hF3
          have hg1' : w2.heap.size < g1 := by omega
          have hs3 : w2.heap.size + 2 ≤ w3.heap.size := by have := hF3.size; simp at this; omega
          have F3 : Fr (fun k => w2.heap.size < k) w2 w3 := Fr.trans ((((Fr.refl (fun _ => False) w2).alloc _).alloc _).mono (fun _ h => h.elim)) hF3 (fun k hk => .inl (by show w2.heap.size < k; omega))
          have d0 := (F3.cell (x := ⟨wr.heap.size, 0, none⟩) hb9 (by show ¬ w2.heap.size < wr.heap.size; omega)).trans d0
          have d1 := (F3.cell (x := ⟨wr.heap.size, 1, none⟩) hb9 (by show ¬ w2.heap.size < wr.heap.size; omega)).trans d1
          have BF := (((Bx.new w2 [.string x.1, .int .i64 0] 64).alloc (.cells #[] 64))).keep hF3 (by show ¬ w2.heap.size = w2.heap.size + 1; omega)
          have HBF := hidp BF
          have HN1 := hidp (And.intro hr1 F3)
          have hb9' : wr.heap.size < w3.heap.size := by omega
          clear hr1 hg1 hF3 F3 BF
          go_wp2_with (at_builtin; go_must (refine wpList_row rfl (.tmp 35) (.tmp 37) _ rfl 64 i0 _ 2 24 Try.underlying59 HI0.out HZ0.out HZ1.out HZ2.out rfl (by decide) v1 p _ (some g1) rfl (HN1.out.1.alloc _) ⟨w3.heap.size, 0, none⟩ 1 1 [.string x.1, .int .i64 x.2] rfl (by decide) rfl (fun q u hq => by rw [Addr.add_lit, Nat.zero_add]; exact (Bx.new w3 [.string x.1, .int .i64 x.2] 64).cell q hq) (by simp [Value.oneCell']) (by unfold maxLen; omega) (by omega) ?_))
          intro v2 w4 g2 hr2 hg2 hF4
          have hg2' : w2.heap.size < g2 := by rcases hg2 with h | h; (subst h; omega); omega
          have hs4 : w3.heap.size + 1 ≤ w4.heap.size := by have := hF4.size; simp at this; omega
          have F34 : Fr (fun k => w2.heap.size < k) w3 w4 := Fr.trans ((((Fr.refl (fun _ => False) w3).alloc _)).mono (fun _ h => h.elim)) hF4 (fun k hk => .inl (by show w2.heap.size < k; have hk' : g1 = k := (by simpa using hk); omega))
          have F4 := Fr.trans HN1.out.2 F34 (fun k hk => .inl hk)
          have HBF4 := hidp (HBF.out.keep F34 (by show ¬ w2.heap.size < w2.heap.size; omega))
          have HN2 := hidp (And.intro hr2 F4)
          clear hr2 hg2 hF4 F34 F4 HN1 HBF d0 d1 hb9'
          have HN2' := hidp (And.intro HN2.out.1 (HN2.out.2.mono (S' := fun k => w2.heap.size ≤ k) (fun k hk => Nat.le_of_lt hk)))
          have HBN := HBF4
          clear HN2
          by_cases hcq : cap2 = p
          · subst hcq
            go_wp2_with (at_builtin; go_must (refine wpList_rows rfl (.tmp 48) (.tmp 51) _ rfl 64 i0 _ 2 24 Try.underlying59 HI0.out HZ0.out HZ1.out HZ2.out rfl (by decide) v2 (cap2 + 1) _ g2 rfl HN2'.out.1 ⟨bi, 0, none⟩ 0 _ [] ⟨_, rfl, fun h => absurd h (by decide)⟩ rfl (fun q u hq => by simp at hq) (fun u hu => by simp at hu) (by unfold maxLen; omega) (by omega) ?_))
            intro v3 w5 g3 hr3 hg3 hF5
            have hdr : acc.drop cap2 = [] := List.drop_eq_nil_of_le (by omega)
            have hr3' : Row 2 w5 v3 (acc.take cap2 ++ x :: acc.drop cap2).length (itemCells EW (acc.take cap2 ++ x :: acc.drop cap2)) (some g3) := by
              have e1 : itemCells EW (acc.take cap2 ++ x :: acc.drop cap2) = [] ++ itemCells EW (acc.take cap2) ++ [.string x.1, .int .i64 x.2] ++ [] := by
                rw [itemCells_append]; rw [hdr]; simp [itemCells, EW]
              have e2 : (acc.take cap2 ++ x :: acc.drop cap2).length = cap2 + 1 + 0 := by
                rw [hdr]; simp only [List.length_append, List.length_take, List.length_cons, List.length_drop, List.length_nil]; omega
              rw [e1, e2]; simpa using hr3
            have hg3' : w2.heap.size < g3 := by rcases hg3 with h | h; (subst h; omega); omega
            have hs5 : w4.heap.size ≤ w5.heap.size := hF5.size
            have hs6 : w4.heap.size ≤ w5.heap.size := by first | exact hs5 | (rw [← hs5']; exact hs5)
            have F5 : Fr (fun k => w2.heap.size ≤ k) w2 w5 := Fr.trans HN2'.out.2 hF5 (fun k hk => .inl (by show w2.heap.size ≤ k; rw [hk]; omega))
            have B5 := HBN.out.keep hF5 (by show ¬ w2.heap.size = g2; omega)
            have e0 := B5.cell 0 rfl
            have e1 := B5.cell 1 rfl
            have hbw5 := B5.1
            have R5o := HR1.out.keep ((HF2.out.mono (fun _ h => h.elim)).trans F5 (S := fun k => wr.heap.size ≤ k) (fun k hk => .inl (by show wr.heap.size ≤ k; have hk' : w2.heap.size ≤ k := hk; omega))) (fun b hb => by subst hb; have := HR1.out.lt; show ¬ wr.heap.size ≤ b; omega)
            have R5k := HR3.out.keep ((HF2.out.mono (fun _ h => h.elim)).trans F5 (S := fun k => wr.heap.size ≤ k) (fun k hk => .inl (by show wr.heap.size ≤ k; have hk' : w2.heap.size ≤ k := hk; omega))) (fun b hb => by subst hb; have := HR3.out.lt; show ¬ wr.heap.size ≤ b; omega)
            have HN3 := hidp (And.intro hr3' (And.intro F5 (And.intro R5o R5k)))
            clear hr3 hr3' hg3 hF5 F5 B5 R5o R5k HN2' HBN
            go_wp2_with (at_builtin; go_must (refine wpList_row rfl (.tmp 53) (.tmp 55) _ rfl 64 i0 _ 2 24 Try.underlying59 HI0.out HZ0.out HZ1.out HZ2.out rfl (by decide) u5 j xo go rfl (HN3.out.2.2.1.alloc _) ⟨w5.heap.size, 0, none⟩ 1 1 [.string x.1, .int .i64 0] rfl (by decide) rfl (fun q u hq => by rw [Addr.add_lit, Nat.zero_add]; exact (Bx.new w5 [.string x.1, .int .i64 0] 64).cell q hq) (by simp [Value.oneCell']) (by unfold maxLen; omega) (by omega) ?_))
            intro v4 w6 g4 hr4 hg4 hF6
            have HN4 := hidp (And.intro hr4 (And.intro hg4 hF6))
            clear hr4 hg4 hF6
            go_wp2_with (at_builtin; go_must (refine wpList_row rfl (.tmp 57) (.tmp 59) _ rfl 4 j0 _ 1 1 Try.underlying56 HJ0.out HY0.out HY1.out HY2.out rfl (by decide) u7 j xk gk rfl (((HN3.out.2.2.2.alloc _).keep HN4.out.2.2 (fun b hb h => HB.out.2.2.1 b h hb)).alloc _) ⟨w6.heap.size, 0, none⟩ 1 1 [.bool false] rfl (by decide) rfl (fun q u hq => by rw [Addr.add_lit, Nat.zero_add]; exact (Bx.new w6 [.bool false] 4).cell q hq) (by simp [Value.oneCell']) (by unfold maxLen; omega) (by omega) ?_))
            intro v5 w7 g5 hr5 hg5 hF7
            have HN5 := hidp (And.intro hr5 (And.intro hg5 hF7))
            clear hr5 hg5 hF7
            go_wp2
            go_roundw
            case rel => exact ⟨j + 1, by omega, by go_num, hidp (by rw [HT.out]; simp only [if_true, if_false, Bool.false_eq_true, Nat.add_zero, ↓reduceIte]; exact WR.next HBL.out hbr HB.out HF2.out hw2 (fun b hb => by subst hb; exact HR1.out.lt) (fun b hb => by subst hb; exact HR3.out.lt) HN3.out.2.1 HN3.out.1 hg3' (by simp) HN4.out.1 HN4.out.2.1 HN4.out.2.2 HN5.out.1 HN5.out.2.1 HN5.out.2.2)⟩
            case measure => simp [intOf]; omega
          · skip
            go_wp2_with (at_builtin; go_must (refine wpList_rows rfl (.tmp 48) (.tmp 51) _ rfl 64 i0 _ 2 24 Try.underlying59 HI0.out HZ0.out HZ1.out HZ2.out rfl (by decide) v2 (p + 1) _ g2 rfl HN2'.out.1 ⟨bi, p * 2, none⟩ (acc.length - p) _ (itemCells EW (acc.drop p)) ⟨_, rfl, fun h => by first | (exfalso; omega) | rfl | simp⟩ (by rw [itemCells_length, List.length_drop]; rfl) (fun q u hq => by rw [Addr.add_lit]; exact (HN2'.out.2.cell (x := ⟨bi, p * 2 + q, none⟩) (HBI.out _ u (cells_suf hq)) (by show ¬ w2.heap.size ≤ bi; have := HBI.out _ u (cells_suf hq); omega)).trans (HCE.out _ u (cells_suf hq))) (itemCells_one _) (by unfold maxLen; omega) (by omega) ?_))
            intro v3 w5 g3 hr3 hg3 hF5
            skip
            have hr3' : Row 2 w5 v3 (acc.take p ++ x :: acc.drop p).length (itemCells EW (acc.take p ++ x :: acc.drop p)) (some g3) := by
              have e1 : itemCells EW (acc.take p ++ x :: acc.drop p) = [] ++ itemCells EW (acc.take p) ++ [.string x.1, .int .i64 x.2] ++ itemCells EW (acc.drop p) := by
                rw [itemCells_append]; simp [itemCells, EW]
              have e2 : (acc.take p ++ x :: acc.drop p).length = p + 1 + (acc.length - p) := by
                simp only [List.length_append, List.length_take, List.length_cons, List.length_drop, List.length_nil]; omega
              rw [e1, e2]; simpa using hr3
            have hg3' : w2.heap.size < g3 := by rcases hg3 with h | h; (subst h; omega); omega
            have hs5 : w4.heap.size ≤ w5.heap.size := hF5.size
            have hs6 : w4.heap.size ≤ w5.heap.size := by first | exact hs5 | (rw [← hs5']; exact hs5)
            have F5 : Fr (fun k => w2.heap.size ≤ k) w2 w5 := Fr.trans HN2'.out.2 hF5 (fun k hk => .inl (by show w2.heap.size ≤ k; rw [hk]; omega))
            have B5 := HBN.out.keep hF5 (by show ¬ w2.heap.size = g2; omega)
            have e0 := B5.cell 0 rfl
            have e1 := B5.cell 1 rfl
            have hbw5 := B5.1
            have R5o := HR1.out.keep ((HF2.out.mono (fun _ h => h.elim)).trans F5 (S := fun k => wr.heap.size ≤ k) (fun k hk => .inl (by show wr.heap.size ≤ k; have hk' : w2.heap.size ≤ k := hk; omega))) (fun b hb => by subst hb; have := HR1.out.lt; show ¬ wr.heap.size ≤ b; omega)
            have R5k := HR3.out.keep ((HF2.out.mono (fun _ h => h.elim)).trans F5 (S := fun k => wr.heap.size ≤ k) (fun k hk => .inl (by show wr.heap.size ≤ k; have hk' : w2.heap.size ≤ k := hk; omega))) (fun b hb => by subst hb; have := HR3.out.lt; show ¬ wr.heap.size ≤ b; omega)
            have HN3 := hidp (And.intro hr3' (And.intro F5 (And.intro R5o R5k)))
            clear hr3 hr3' hg3 hF5 F5 B5 R5o R5k HN2' HBN
            go_wp2_with (at_builtin; go_must (refine wpList_row rfl (.tmp 53) (.tmp 55) _ rfl 64 i0 _ 2 24 Try.underlying59 HI0.out HZ0.out HZ1.out HZ2.out rfl (by decide) u5 j xo go rfl (HN3.out.2.2.1.alloc _) ⟨w5.heap.size, 0, none⟩ 1 1 [.string x.1, .int .i64 0] rfl (by decide) rfl (fun q u hq => by rw [Addr.add_lit, Nat.zero_add]; exact (Bx.new w5 [.string x.1, .int .i64 0] 64).cell q hq) (by simp [Value.oneCell']) (by unfold maxLen; omega) (by omega) ?_))
            intro v4 w6 g4 hr4 hg4 hF6
            have HN4 := hidp (And.intro hr4 (And.intro hg4 hF6))
            clear hr4 hg4 hF6
            go_wp2_with (at_builtin; go_must (refine wpList_row rfl (.tmp 57) (.tmp 59) _ rfl 4 j0 _ 1 1 Try.underlying56 HJ0.out HY0.out HY1.out HY2.out rfl (by decide) u7 j xk gk rfl (((HN3.out.2.2.2.alloc _).keep HN4.out.2.2 (fun b hb h => HB.out.2.2.1 b h hb)).alloc _) ⟨w6.heap.size, 0, none⟩ 1 1 [.bool false] rfl (by decide) rfl (fun q u hq => by rw [Addr.add_lit, Nat.zero_add]; exact (Bx.new w6 [.bool false] 4).cell q hq) (by simp [Value.oneCell']) (by unfold maxLen; omega) (by omega) ?_))
            intro v5 w7 g5 hr5 hg5 hF7
            have HN5 := hidp (And.intro hr5 (And.intro hg5 hF7))
            clear hr5 hg5 hF7
            go_wp2
            go_roundw
            case rel => exact ⟨j + 1, by omega, by go_num, hidp (by rw [HT.out]; simp only [if_true, if_false, Bool.false_eq_true, Nat.add_zero, ↓reduceIte]; exact WR.next HBL.out hbr HB.out HF2.out hw2 (fun b hb => by subst hb; exact HR1.out.lt) (fun b hb => by subst hb; exact HR3.out.lt) HN3.out.2.1 HN3.out.1 hg3' (by simp) HN4.out.1 HN4.out.2.1 HN4.out.2.2 HN5.out.1 HN5.out.2.1 HN5.out.2.2)⟩
            case measure => simp [intOf]; omega
    · obtain rfl : j = l.length := by omega
      rw [List.take_length] at r2
      have HF := hidp (And.intro r2 (And.intro b4 hb))
      clear r1 r2 r3 b1 b2 b3 b4 hb hnl
      go_wp2
      go_ret3
      exact ⟨_, _, _, gi, rfl, HF.out.1, HF.out.2.1, HF.out.2.2⟩
end Go.Proofs.Ytceildcbehaoaaa.Bt.W
