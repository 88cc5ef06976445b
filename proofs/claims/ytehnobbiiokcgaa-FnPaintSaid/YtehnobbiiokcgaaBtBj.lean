/- The law FnPaint. -/
import Derived.Test.YtehnobbiiokcgaaBtBi
namespace Go.Proofs.Ytehnobbiiokcgaa.Bt.P
set_option linter.unusedVariables false
set_option linter.unusedSimpArgs false
open Go Go.RowKit Go.Proofs.Ytehnobbiiokcgaa.Bt
open Go.Proofs.Ytehnobbiiokcgaa.Bt.ND (Im Its EI hidp step_row fit_is)
open Go.Proofs.Ytehnobbiiokcgaa.Bt.II (ins flr from_ lt ord)

variable {w : World}

/-- A stroke: from where on, how many cells behind the first, the color. -/
abbrev St := Nat × Nat × Nat
/-- Strokes that came in. -/
def Sts (w : World) (v : Value) (l : List St) : Prop :=
  ∃ a cap, v = .slice a l.length cap ∧ (∀ j x, l[j]? = some x → ∃ b off, a = some ⟨b, off, none⟩ ∧ w.cell? ⟨b, off + j * 3, none⟩ = some (.int .u8 x.1) ∧ w.cell? ⟨b, off + j * 3 + 1, none⟩ = some (.int .u8 x.2.1) ∧ w.cell? ⟨b, off + j * 3 + 2, none⟩ = some (.int .u8 x.2.2)) ∧ ∀ x ∈ l, x.1 < 256 ∧ x.2.1 < 256 ∧ x.2.2 < 256
/-- Three cells of a block. -/
def CellsS (w : World) (b : Nat) (x : St) : Prop := w.cell? ⟨b, 0, none⟩ = some (.int .u8 x.1) ∧ w.cell? ⟨b, 1, none⟩ = some (.int .u8 x.2.1) ∧ w.cell? ⟨b, 2, none⟩ = some (.int .u8 x.2.2)
theorem CellsS.below {w w' : World} {b B : Nat} {x : St} (h : CellsS w b x) (hb : Below B w w') (hlt : b < B) : CellsS w' b x :=
  ⟨(hb.cell (p := ⟨b, 0, none⟩) hlt).trans h.1, (hb.cell (p := ⟨b, 1, none⟩) hlt).trans h.2.1, (hb.cell (p := ⟨b, 2, none⟩) hlt).trans h.2.2⟩
theorem CellsS.fr {S : Nat → Prop} {w w' : World} {b : Nat} {x : St} (h : CellsS w b x) (hf : Fr S w w') (hlt : b < w.heap.size) (hn : ¬ S b) : CellsS w' b x :=
  ⟨(hf.cell (x := ⟨b, 0, none⟩) hlt hn).trans h.1, (hf.cell (x := ⟨b, 1, none⟩) hlt hn).trans h.2.1, (hf.cell (x := ⟨b, 2, none⟩) hlt hn).trans h.2.2⟩

def bcells (cs : List Nat) : List Value := cs.map fun n : Nat => Value.int .u8 n
/-- What a round keeps: the list of the places, the cells. -/
structure PK (w wr : World) (cb : Nat) (b : Value) (P : List Im) (cs : List Nat) (gb : Option Nat) : Prop where
  rb : Row 2 wr b P.length (itemCells EI P) gb
  bx : Bx wr cb (bcells cs)
  ne : ∀ k, gb = some k → k ≠ cb
  ge : w.heap.size ≤ cb
  below : Below w.heap.size w wr
theorem PK.call {wr w2 : World} {cb : Nat} {b : Value} {P : List Im} {cs : List Nat} {gb : Option Nat} (h : PK w wr cb b P cs gb) (hb : Below wr.heap.size wr w2) : PK w w2 cb b P cs gb :=
  ⟨ND.Row.below h.rb hb, ND.Bx.below h.bx hb h.bx.1, h.ne, h.ge, h.below.trans (hb.mono h.below.size)⟩
theorem PK.list {wr : World} {cb : Nat} {b b' : Value} {P P' : List Im} {cs : List Nat} {gb g' : Option Nat} (h : PK w wr cb b P cs gb) (hr : Row 2 wr b' P'.length (itemCells EI P') g') (hne : ∀ k, g' = some k → k ≠ cb) : PK w wr cb b' P' cs g' :=
  ⟨hr, h.bx, hne, h.ge, h.below⟩
theorem PK.paint {wr : World} {cb : Nat} {b : Value} {P : List Im} {cs : List Nat} {gb : Option Nat} (h : PK w wr cb b P cs gb) {i c : Nat} (hi : i < cs.length) : PK w (wr.setCell ⟨cb, i, none⟩ (.int .u8 c)) cb b P (cs.set i c) gb ∧ Fr (fun k => k = cb) wr (wr.setCell ⟨cb, i, none⟩ (.int .u8 c)) := by
  have hs := bx_set h.bx (j := i) (by unfold bcells; rw [List.length_map]; exact hi) (.int .u8 c)
  have e : (bcells cs).set i (.int .u8 c) = bcells (cs.set i c) := by unfold bcells; rw [List.map_set]
  rw [e] at hs
  exact ⟨⟨h.rb.keep hs.2 (fun k hk e => h.ne k hk e), hs.1, h.ne, h.ge, h.below.trans (hs.2.below h.below.size (fun k hk => by rw [hk]; exact h.ge))⟩, hs.2⟩

theorem bx_byts {w : World} {cb : Nat} {cs : List Nat} (h : Bx w cb (bcells cs)) (hl : cs.length = 256) : Byts w (.slice (some ⟨cb, 0, none⟩) 256 256) cs := by
  refine ⟨_, 256, by rw [hl], fun j n hn => ⟨cb, 0, rfl, ?_⟩⟩
  rw [Nat.zero_add]
  exact h.cell j (by unfold bcells; rw [List.getElem?_map, hn]; rfl)
theorem zero256 : Try.zeroCells72 = (bcells (List.replicate 256 0)).toArray := by kernel_rfl
theorem PK.start (w : World) : PK w ((w.alloc (.cells #[.int .i64 0, .int .i64 0] 35)).alloc (.cells Try.zeroCells72 72)) (w.heap.size + 1) (.slice (some ⟨w.heap.size, 0, none⟩) 1 1) [(0, 0)] (List.replicate 256 0) (some w.heap.size) := by
  have h1 := Bx.new (w.alloc (.cells #[.int .i64 0, .int .i64 0] 35)) (bcells (List.replicate 256 0)) 72
  rw [← zero256, World.size_alloc] at h1
  have h0 := (Bx.new w [.int .i64 0, .int .i64 0] 35)
  refine ⟨Row.alloc ⟨by simp [itemCells, EI], .inr ⟨w.heap.size, 1, rfl, rfl, Nat.le_refl _, by decide, by simp, ?_⟩⟩ _, h1, fun k hk => by have := Option.some.inj hk; omega, by omega, ((Below.refl _ _).alloc (Nat.le_refl _) _).alloc (by rw [World.size_alloc]; omega) _⟩
  refine ⟨by simp [itemCells, EI], fun j hj => ?_, fun j u hu => ?_⟩
  · have hj' : j < 2 := hj
    show (M _ w.heap.size (0 + j)).isSome = true
    rw [Nat.zero_add, h0.2 j ([Value.int .i64 0, .int .i64 0][j]'hj') (List.getElem?_eq_getElem _)]; rfl
  · show M _ w.heap.size (0 + j) = some u
    rw [Nat.zero_add]; exact h0.2 j u hu

/-! ### one item behind a clone, in either order -/
section
variable {w8 w9 w10 : World} {Q : List Im} {uc : Value} {gc : Option Nat} {g10 : Nat} {x : Im} {ty : TypeId}
/-- What the clone is. -/
def ClP (w8 w9 : World) (Q : List Im) (uc : Value) (gc : Option Nat) : Prop := Row 2 w9 uc Q.length (itemCells EI Q) gc ∧ (∀ k, gc = some k → w8.heap.size ≤ k) ∧ Below w8.heap.size w8 w9
theorem cl_a (hrc : Row 2 w9 uc Q.length (itemCells EI Q) gc) (hgc : ∀ b, gc = some b → w8.drew.heap.size ≤ b) (hb9 : Below w8.drew.heap.size w8.drew w9) : ClP w8 w9 Q uc gc := ⟨hrc, hgc, (Below.refl w8.heap.size w8).drew.trans hb9⟩
theorem cl_b (hrc : Row 2 w9 uc Q.length (itemCells EI Q) gc) (hgc : ∀ b, gc = some b → ((w8.alloc (.cells #[.int .i64 x.1, .int .i64 x.2] ty)).drew).heap.size ≤ b) (hb9 : Below ((w8.alloc (.cells #[.int .i64 x.1, .int .i64 x.2] ty)).drew).heap.size ((w8.alloc (.cells #[.int .i64 x.1, .int .i64 x.2] ty)).drew) w9) :
    ClP w8 w9 Q uc gc ∧ Bx w9 w8.heap.size [.int .i64 x.1, .int .i64 x.2] ∧ ∀ k, gc = some k → k ≠ w8.heap.size := by
  have hsA : ((w8.alloc (.cells #[.int .i64 x.1, .int .i64 x.2] ty)).drew).heap.size = w8.heap.size + 1 := World.size_alloc w8 _
  refine ⟨⟨hrc, fun k hk => ?_, ((Below.refl w8.heap.size w8).alloc (Nat.le_refl _) _).drew.trans (hb9.mono ?_)⟩, ND.Bx.below (Bx.new w8 [.int .i64 x.1, .int .i64 x.2] ty).drew hb9 ?_, fun k hk => ?_⟩
  · have h := hgc k hk; rw [hsA] at h; omega
  · rw [hsA]; omega
  · rw [hsA]; omega
  · have h := hgc k hk; rw [hsA] at h; omega
/-- What one item more makes of it. -/
def ApP (w8 w10 : World) (Q : List Im) (x : Im) (v10 : Value) (g10 : Nat) : Prop := Row 2 w10 v10 (Q ++ [x]).length (itemCells EI (Q ++ [x])) (some g10) ∧ w8.heap.size ≤ g10 ∧ Below w8.heap.size w8 w10
theorem ap_a {v10 : Value} (H9 : ClP w8 w9 Q uc gc) (hr : Row 2 w10 v10 (Q.length + 1) (itemCells EI Q ++ [.int .i64 x.1, .int .i64 x.2]) (some g10)) (hg : gc = some g10 ∨ (w9.alloc (.cells #[.int .i64 x.1, .int .i64 x.2] ty)).heap.size ≤ g10) (hF : Fr (fun k => gc = some k) (w9.alloc (.cells #[.int .i64 x.1, .int .i64 x.2] ty)) w10) : ApP w8 w10 Q x v10 g10 := by
  have h9 := H9.2.2.size
  refine ⟨by rw [List.length_append, itemCells_append]; exact hr, ?_, (H9.2.2.alloc H9.2.2.size _).trans (hF.below (by rw [World.size_alloc]; omega) (fun i hi => H9.2.1 i hi))⟩
  rcases hg with h | h
  · exact H9.2.1 _ h
  · rw [World.size_alloc] at h; omega
theorem ap_b {v10 : Value} (H9 : ClP w8 w9 Q uc gc) (hr : Row 2 w10 v10 (Q.length + 1) (itemCells EI Q ++ [.int .i64 x.1, .int .i64 x.2]) (some g10)) (hg : gc = some g10 ∨ w9.heap.size ≤ g10) (hF : Fr (fun k => gc = some k) w9 w10) : ApP w8 w10 Q x v10 g10 := by
  have h9 := H9.2.2.size
  refine ⟨by rw [List.length_append, itemCells_append]; exact hr, ?_, H9.2.2.trans (hF.below h9 (fun i hi => H9.2.1 i hi))⟩
  rcases hg with h | h
  · exact H9.2.1 _ h
  · omega
end

set_option maxHeartbeats 8000000 in
set_option maxRecDepth 100000 in
/-- The law. -/
theorem law_paint (d : Int) {v : Value} {l : List St} (hv : Sts w v l) (hl : l.length ≤ 9223372036854775807) :
    Calls Try.prog 10 #[.int .i64 d, v] w (fun e w' => e = .returned (.bool true) ∧ Below w.heap.size w w') := by
  obtain ⟨a, cap, rfl, hc, h256⟩ := hv
  have HC := hidp hc
  have H256 := hidp h256
  have HF := hidp (fit_is w d)
  clear hc h256
  by_cases hbig : 2147483647 < l.length
  · go_enter Try.func10, Try.ntmps10
    go_wp2
    go_ret
    exact ⟨rfl, Below.refl _ _⟩
  have HA := fun w' => hidp (alivem_is (w := w'))
  by_cases hd : 2 ≤ d ∧ d ≤ 128
  case neg =>
    rw [decide_eq_false hd] at HF
    have HA0 := HA w
    clear hd HA
    go_enter Try.func10, Try.ntmps10
    go_wp2_with fail
    refine HF.out.mono ?_
    rintro e w' ⟨rfl, rfl⟩
    go_wp2_with fail
    refine HA0.out.mono ?_
    rintro e w1 ⟨rfl, hb1⟩
    have HB1 := hidp hb1
    clear hb1 HA0 HF
    go_wp2
    go_ret
    exact ⟨rfl, HB1.out⟩
  obtain ⟨D, rfl⟩ : ∃ D : Nat, d = (D : Int) := ⟨d.toNat, by omega⟩
  have hD1 : 2 ≤ D := by omega
  have hD2 : D ≤ 400 := by omega
  rw [decide_eq_true hd] at HF
  clear hd
  by_cases h30 : 30 < l.length
  · have HA0 := HA w
    clear HA
    go_enter Try.func10, Try.ntmps10
    go_wp2_with fail
    refine HF.out.mono ?_
    rintro e w' ⟨rfl, rfl⟩
    go_wp2_with fail
    refine HA0.out.mono ?_
    rintro e w1 ⟨rfl, hb1⟩
    have HB1 := hidp hb1
    clear hb1 HA0 HF
    go_wp2
    go_ret
    exact ⟨rfl, HB1.out⟩
  obtain ⟨i0, hi0, hz0, hz1, hz2⟩ := info_parts II.infoKey
  have HI0 := hidp hi0
  have HZ0 := hidp hz0
  have HZ1 := hidp hz1
  have HZ2 := hidp hz2
  obtain ⟨j0, hj0, hy0, hy1, hy2⟩ := info_parts ND.infoM
  have HJ0 := hidp hj0
  have HY0 := hidp hy0
  have HY1 := hidp hy1
  have HY2 := hidp hy2
  clear hi0 hz0 hz1 hz2 hj0 hy0 hy1 hy2
  have HST := hidp (PK.start w)
  go_enter Try.func10, Try.ntmps10
  go_wp2_with fail
  refine HF.out.mono ?_
  rintro e w' ⟨rfl, hw'⟩
  subst w'
  clear HF
  obtain ⟨cb, hcb⟩ : ∃ cb, cb = w.heap.size + 1 := ⟨_, rfl⟩
  rw [← hcb] at HST
  go_wp2
  rw [← hcb]
  clear hcb
  go_loopw [34, 5] (fun i b wr => ∃ j : Nat, j ≤ l.length ∧ i = .int .i64 j ∧ Hid (∃ P cs gb, PK w wr cb b P cs gb ∧ Pic P cs ∧ P.length ≤ 1 + 2 * j)) (fun i _ _ => l.length - (intOf i).toNat)
  case atStart => exact ⟨0, Nat.zero_le _, rfl, hidp ⟨_, _, _, HST.out, Pic.start, Nat.le_refl _⟩⟩
  case round =>
    rename World => w0
    clear HST
    obtain ⟨j, hj, rfl, HR⟩ := hrel
    obtain ⟨P, cs, gb, K, hpic, hPl⟩ := HR.out
    obtain ⟨ba, bcap, rfl⟩ := K.rb.len
    have HK := hidp K
    have HP := hidp hpic
    clear HR K hpic
    by_cases hlt : j < l.length
    · obtain ⟨x, hx⟩ : ∃ x, l[j]? = some x := ⟨l[j], List.getElem?_eq_getElem hlt⟩
      obtain ⟨hx1, hx2, hx3⟩ := H256.out x (List.mem_of_getElem? hx)
      obtain ⟨xb, xo, rfl, cx0, cx1, cx2⟩ := HC.out j x hx
      have cx0' : w0.cell? ⟨xb, xo + j * 3, none⟩ = some (.int .u8 x.1) := (HK.out.below.cell (p := ⟨xb, xo + j * 3, none⟩) (World.block_lt_of_cell? w _ cx0)).trans cx0
      have cx1' : w0.cell? ⟨xb, xo + j * 3 + 1, none⟩ = some (.int .u8 x.2.1) := (HK.out.below.cell (p := ⟨xb, xo + j * 3 + 1, none⟩) (World.block_lt_of_cell? w _ cx1)).trans cx1
      have cx2' : w0.cell? ⟨xb, xo + j * 3 + 2, none⟩ = some (.int .u8 x.2.2) := (HK.out.below.cell (p := ⟨xb, xo + j * 3 + 2, none⟩) (World.block_lt_of_cell? w _ cx2)).trans cx2
      have jlt : (j : Int) < (l.length : Int) := by omega
      obtain ⟨W1, hW1⟩ : ∃ W1, W1 = w0.alloc (.cells #[.int .u8 x.1, .int .u8 x.2.1, .int .u8 x.2.2] 74) := ⟨_, rfl⟩
      have hbx : CellsS W1 w0.heap.size x := by
        rw [hW1]
        have h := Bx.new w0 [.int .u8 x.1, .int .u8 x.2.1, .int .u8 x.2.2] 74
        exact ⟨h.cell 0 rfl, h.cell 1 rfl, h.cell 2 rfl⟩
      have hbw : Below w0.heap.size w0 W1 := by rw [hW1]; exact (Below.refl _ _).alloc (Nat.le_refl _) _
      have hBX : w0.heap.size < W1.heap.size := by rw [hW1]; simp
      have hcbw : cb < w0.heap.size := HK.out.bx.1
      have HK1 := hidp (HK.out.call hbw)
      have HB1 := hidp hbx
      obtain ⟨m, hm⟩ : ∃ m, m = min (x.2.1 + 1) (256 - x.1) := ⟨_, rfl⟩
      have hm0 : 0 < m := by omega
      obtain ⟨T, hT⟩ : ∃ T, T = x.1 + m := ⟨_, rfl⟩
      have hT9 : T ≤ 256 := by omega
      have HMN : Hid ((if (x.1 : Int) + (x.2.1 : Int) + 1 < 256 then (x.1 : Int) + (x.2.1 : Int) + 1 else 256) = (T : Int)) := hidp (by
        by_cases h : (x.1 : Int) + (x.2.1 : Int) + 1 < 256
        · rw [if_pos h]; omega
        · rw [if_neg h]; omega)
      have HT := hidp hT
      have hTx : x.1 < T := by omega
      have wx1 : IntKind.i64.wrap (x.1 : Int) = (x.1 : Int) := by rw [Last.i64_w, IntWalk.wrap64_in _ ⟨by omega, by omega⟩]
      have wx2 : IntKind.i64.wrap (x.2.1 : Int) = (x.2.1 : Int) := by rw [Last.i64_w, IntWalk.wrap64_in _ ⟨by omega, by omega⟩]
      have wx3 : IntKind.i64.wrap ((x.1 : Int) + (x.2.1 : Int)) = (x.1 : Int) + (x.2.1 : Int) := by rw [Last.i64_w, IntWalk.wrap64_in _ ⟨by omega, by omega⟩]
      have wx4 : IntKind.i64.wrap ((x.1 : Int) + (x.2.1 : Int) + 1) = (x.1 : Int) + (x.2.1 : Int) + 1 := by rw [Last.i64_w, IntWalk.wrap64_in _ ⟨by omega, by omega⟩]
      clear cx0 cx1 cx2 hx hbw hbx hm hT
      go_wp2
      try rw [← hW1]
      clear hW1
      refine region_class (C := fun w' => CellsS w' w0.heap.size x ∧ ∃ n, w' = W1.drewN n) (by kernel_rfl) (by kernel_rfl) ⟨HB1.out, 1, rfl⟩ ?_
      repeat (first
        | go_big_quiet_skip
        | (go_big_quiet_want
           first
           | (go_big_quiet_op; go_big_quiet_on)
           | (apply Exists.intro
              refine ⟨fun wq hq => ?_, ?_⟩
              (obtain ⟨⟨f0, f1, f2⟩, f5⟩ := hq
               unfold Oper.quietAt
               first
               | (go_simp; done)
               | (go_simp; with_reducible rfl))
              try simp only [Act.put, List.setIfInBounds_toArray, List.set_cons_zero, List.set_cons_succ]
              go_big_quiet_on)))
      refine wpQuiet_nil ?_
      intro w3 hq
      rw [HMN.out]
      have h3 : Below W1.heap.size W1 w3 := by
        obtain ⟨_, n, rfl⟩ := hq
        exact ND.Below.drewN (Below.refl _ _) n
      have hs3 := h3.size
      have HK3 := hidp (HK1.out.call h3)
      have HB3 := hidp hq.1
      clear hq h3 HK1 HB1 HMN wx1 wx2 wx3 wx4 cx0' cx1' cx2'
      go_wp2
      go_loopw [11] (fun i wr => ∃ p q : Nat, x.1 + p = q ∧ q ≤ T ∧ i = .int .i64 q ∧ Hid (PK w wr cb (.slice ba P.length bcap) P (paintN cs x.1 x.2.2 p) gb ∧ CellsS wr w0.heap.size x ∧ w0.heap.size < wr.heap.size)) (fun i _ => T - (intOf i).toNat)
      case atStart => exact ⟨0, x.1, rfl, by omega, rfl, hidp ⟨HK3.out, HB3.out, by omega⟩⟩
      case round =>
        rename World => wq
        obtain ⟨p, q, hpq, hqT, rfl, HQ⟩ := hrel
        by_cases hlt2 : q < T
        · have qlt : (q : Int) < (T : Int) := by omega
          have q256 : (q : Int) < 256 := by omega
          have q0 : (0 : Int) ≤ (q : Int) := by omega
          obtain ⟨k0, k1, k2⟩ := HQ.out.2.1
          have hbs := HQ.out.2.2
          have hlen : (paintN cs x.1 x.2.2 p).length = 256 := by rw [paintN_length]; exact HP.out.len
          obtain ⟨z, hz⟩ : ∃ z, (paintN cs x.1 x.2.2 p)[q]? = some z := ⟨_, List.getElem?_eq_getElem (by omega)⟩
          have hcv : (bcells (paintN cs x.1 x.2.2 p))[q]? = some (.int .u8 z) := by unfold bcells; rw [List.getElem?_map, hz]; rfl
          have cq := HQ.out.1.bx.cell q hcv
          have cqf := HQ.out.1.bx.froz q hcv
          have cql := HQ.out.1.bx.1
          have hpt := HQ.out.1.paint (i := q) (c := x.2.2) (by omega)
          have e1 : (paintN cs x.1 x.2.2 p).set q x.2.2 = paintN cs x.1 x.2.2 (p + 1) := by rw [paintN, hpq]
          rw [e1] at hpt
          have HN := hidp (And.intro hpt.1 (And.intro (HQ.out.2.1.fr hpt.2 hbs (by omega)) (Nat.lt_of_lt_of_le hbs hpt.2.size)))
          clear hpt e1 hcv hz hlen hbs
          go_wp2
          go_roundw
          case rel => exact ⟨p + 1, q + 1, by omega, by omega, by go_num, HN⟩
          case measure => simp [intOf]; omega
        · obtain rfl : q = T := by omega
          have hpm : p = m := by have := HT.out; omega
          subst hpm
          have hs4 := HQ.out.2.2
          obtain ⟨yb, hyb⟩ := HP.out.floor hT9
          have HYB := hidp hyb
          have hdesc := mdescend_is (w := wq) hD1 hD2 (row_its HQ.out.1.rb) (by omega) (q : Int)
          rw [ins_self HP.out.srt, hyb, Option.toList_some] at hdesc
          have HDE := hidp hdesc
          clear HK3 HB3 hs3 hBX hdesc hyb hlt2 hqT
          go_wp2_with fail
          refine HDE.out.mono ?_
          rintro e w5 ⟨u12, g12, rfl, hr12, hg12, hb5⟩
          obtain ⟨ya, yc, hy12, hyg⟩ := row_get (E := EI) (f := fun x : Im => .int .i64 x.1) (g := fun x : Im => .int .i64 x.2) (fun _ => rfl) rfl hr12
          subst hy12
          have hs5 := hb5.size
          have HYG : Hid (∀ wr, Below w5.heap.size w5 wr → ∃ b, ya = some ⟨b, 0, none⟩ ∧ wr.cell? ⟨b, 1, none⟩ = some (.int .i64 yb.2)) := hidp fun wr hb => by
            obtain ⟨b, h1, _, h3⟩ := hyg wr hb 0 yb rfl
            exact ⟨b, h1, h3⟩
          have HQ5 := hidp (And.intro (HQ.out.1.call hb5) (HQ.out.2.1.below hb5 hs4))
          have hasc := mascend_is (w := w5) false hD1 hD2 (row_its HQ5.out.1.rb) (by omega) (x.1 : Int)
          rw [ins_self HP.out.srt] at hasc
          simp only [nOne, Bool.false_eq_true, if_false] at hasc
          have e1 : asc false P (x.1 : Int) = from_ P ((x.1 : Int), 0) := rfl
          rw [e1] at hasc
          have HAS := hidp hasc
          clear hr12 hg12 hb5 hyg hasc e1 HDE HQ
          obtain ⟨AA, hAA⟩ : ∃ AA, AA = from_ P ((x.1 : Int), 0) := ⟨_, rfl⟩
          rw [← hAA] at HAS
          have hAl : AA.length ≤ P.length := by rw [hAA]; unfold from_; rw [List.length_drop]; omega
          have HAA := hidp hAA
          clear hAA
          go_wp2_with fail
          refine HAS.out.mono ?_
          rintro e w6 ⟨u67, g67, rfl, hr67, hg67, hb6⟩
          obtain ⟨aa, ac, ha67, hag⟩ := row_get (E := EI) (f := fun x : Im => .int .i64 x.1) (g := fun x : Im => .int .i64 x.2) (fun _ => rfl) rfl hr67
          subst ha67
          have HAG := hidp hag
          have hs6 := hb6.size
          have HQ6 := hidp (And.intro (HQ5.out.1.call hb6) (HQ5.out.2.below hb6 (by omega)))
          have HYG6 : Hid (∀ wr, Below w6.heap.size w6 wr → ∃ b, ya = some ⟨b, 0, none⟩ ∧ wr.cell? ⟨b, 1, none⟩ = some (.int .i64 yb.2)) := hidp fun wr hb => HYG.out wr (hb6.trans (hb.mono hs6))
          clear hr67 hg67 hb6 hag HAS HYG HQ5
          go_wp2
          go_loopw [69, 13] (fun i o wr => ∃ p : Nat, p ≤ AA.length ∧ i = .int .i64 p ∧ Hid (∃ g, Row 1 wr o (((AA.take p).filter (fun y => decide (y.1 < (q : Int)))).map (·.1)).length ((((AA.take p).filter (fun y => decide (y.1 < (q : Int)))).map (·.1)).map (Value.int .i64)) g ∧ (∀ k, g = some k → w6.heap.size ≤ k) ∧ Below w6.heap.size w6 wr)) (fun i _ _ => AA.length - (intOf i).toNat)
          case atStart => exact ⟨0, Nat.zero_le _, rfl, hidp ⟨none, Row.nil _ _, (fun k h => by cases h), Below.refl _ _⟩⟩
          case round =>
            rename World => wz
            obtain ⟨r, hr, rfl, HR⟩ := hrel
            obtain ⟨g, hrow, hg, hbz⟩ := HR.out
            obtain ⟨oa, oc, ho⟩ := hrow.len
            subst ho
            have HRW := hidp (And.intro hrow (And.intro hg hbz))
            have hsz := hbz.size
            clear HR hrow hg
            by_cases hrlt : r < AA.length
            · obtain ⟨y, hy⟩ : ∃ y, AA[r]? = some y := ⟨AA[r], List.getElem?_eq_getElem hrlt⟩
              obtain ⟨yb2, rfl, cy0, cy1⟩ := HAG.out wz hbz r y hy
              have rlt : (r : Int) < (AA.length : Int) := by omega
              have etk : AA.take (r + 1) = AA.take r ++ [y] := by rw [List.take_add_one, hy]; rfl
              clear hbz hy
              by_cases hyq : y.1 < (q : Int)
              · have efl : ((AA.take (r + 1)).filter (fun y => decide (y.1 < (q : Int)))).map (·.1) = ((AA.take r).filter (fun y => decide (y.1 < (q : Int)))).map (·.1) ++ [y.1] := by
                  rw [etk, List.filter_append, List.filter_cons_of_pos (by simpa using hyq), List.filter_nil, List.map_append]; rfl
                have HEF := hidp efl
                have hfl : (((AA.take r).filter (fun y => decide (y.1 < (q : Int)))).map (·.1)).length ≤ 1000 := by
                  rw [List.length_map]
                  have h1 := (List.filter_sublist (l := AA.take r) (p := fun y => decide (y.1 < (q : Int)))).length_le
                  rw [List.length_take] at h1; omega
                clear etk efl
                generalize hL : ((AA.take r).filter (fun y => decide (y.1 < (q : Int)))).map (·.1) = L at HRW HEF hfl
                clear hL
                go_wp2_with (at_builtin; go_must (refine wpList_row rfl (.tmp 77) (.tmp 80) _ rfl 3 i0 _ 1 8 Try.underlying30 HI0.out HZ0.out HZ1.out HZ2.out rfl (by decide) (.slice oa L.length oc) L.length (L.map (Value.int .i64)) g rfl ((HRW.out.1.alloc _).alloc _) ⟨wz.heap.size + 1, 0, none⟩ 1 1 [.int .i64 y.1] rfl (by decide) rfl (fun q u hq => by rw [Addr.add_lit, Nat.zero_add]; have h := (Bx.new (wz.alloc (.cells #[.int .i64 y.1, .int .i64 y.2] 35)) [.int .i64 y.1] 3).cell q hq; rw [World.size_alloc] at h; exact h) (by simp [Value.oneCell']) (by unfold maxLen; omega) (by omega) ?_))
                intro v7 w7 g7 hr7 hg7 hF7
                have hs2 : ((wz.alloc (.cells #[.int .i64 y.1, .int .i64 y.2] 35)).alloc (.cells #[.int .i64 y.1] 3)).heap.size = wz.heap.size + 1 + 1 := by simp
                have hN : Hid (Row 1 w7 v7 (L ++ [y.1]).length ((L ++ [y.1]).map (Value.int .i64)) (some g7) ∧ (∀ k, some g7 = some k → w6.heap.size ≤ k) ∧ Below w6.heap.size w6 w7) := hidp (by
                  refine ⟨by rw [List.length_append, List.map_append]; exact hr7, fun k hk => ?_, ?_⟩
                  · obtain rfl := Option.some.inj hk
                    rcases hg7 with h | h
                    · exact HRW.out.2.1 _ h
                    · have h' : wz.heap.size + 1 + 1 ≤ g7 := by first | exact h | (rw [hs2] at h; exact h)
                      omega
                  · have hb : Below w6.heap.size w6 ((wz.alloc (.cells #[.int .i64 y.1, .int .i64 y.2] 35)).alloc (.cells #[.int .i64 y.1] 3)) := (HRW.out.2.2.alloc hsz _).alloc (by rw [World.size_alloc]; omega) _
                    exact hb.trans (hF7.below (by rw [hs2]; omega) (fun i hi => HRW.out.2.1 i hi)))
                clear hr7 hg7 hF7 hs2
                go_wp2
                go_roundw
                case rel => exact ⟨r + 1, by omega, by go_num, hidp ⟨some g7, by rw [HEF.out]; exact hN.out.1, hN.out.2.1, hN.out.2.2⟩⟩
                case measure => simp [intOf]; omega
              · have efl : ((AA.take (r + 1)).filter (fun y => decide (y.1 < (q : Int)))).map (·.1) = ((AA.take r).filter (fun y => decide (y.1 < (q : Int)))).map (·.1) := by
                  rw [etk, List.filter_append, List.filter_cons_of_neg (by simpa using hyq), List.filter_nil, List.append_nil]
                have HEF := hidp efl
                have HRN := hidp (And.intro (HRW.out.1.alloc (.cells #[.int .i64 y.1, .int .i64 y.2] 35)) (HRW.out.2.2.alloc hsz (.cells #[.int .i64 y.1, .int .i64 y.2] 35)))
                clear etk efl
                go_wp2
                go_roundw
                case rel => exact ⟨r + 1, by omega, by go_num, hidp ⟨g, by rw [HEF.out]; exact HRN.out.1, HRW.out.2.1, HRN.out.2⟩⟩
                case measure => simp [intOf]; omega
            · obtain rfl : r = AA.length := by omega
              rw [List.take_length]
              have hin : (AA.filter (fun y => decide (y.1 < (q : Int)))).map (·.1) = inside P x.1 q := by rw [HAA.out]; rfl
              rw [List.take_length, hin] at HRW
              rw [hin]
              have HQ7 := hidp (And.intro (HQ6.out.1.call hbz) (HQ6.out.2.below hbz (by omega)))
              have HYG7 : Hid (∀ wr, Below wz.heap.size wz wr → ∃ b, ya = some ⟨b, 0, none⟩ ∧ wr.cell? ⟨b, 1, none⟩ = some (.int .i64 yb.2)) := hidp fun wr hb => HYG6.out wr (hbz.trans (hb.mono hsz))
              have hil : (inside P x.1 q).length ≤ 1000 := by
                unfold inside
                rw [List.length_map]
                have h1 := (List.filter_sublist (l := from_ P ((x.1 : Int), 0)) (p := fun y => decide (y.1 < (q : Int)))).length_le
                have h2 : (from_ P ((x.1 : Int), 0)).length ≤ P.length := by unfold from_; rw [List.length_drop]; omega
                omega
              have hdel := mdelete_is (w := wz) hD1 hD2 (row_its HQ7.out.1.rb) (by omega) (Row.sls HRW.out.1) (by omega)
              rw [ins_self HP.out.srt] at hdel
              have HDL := hidp hdel
              clear hin hdel HRW HQ6 HYG6 HAG HAA hrlt hr hbz
              obtain ⟨Q, hQ⟩ : ∃ Q, Q = dels P (inside P x.1 q) := ⟨_, rfl⟩
              rw [← hQ] at HDL
              have HQQ := hidp hQ
              have hQl : Q.length ≤ P.length := by rw [hQ]; exact dels_length _ _
              clear hQ
              go_wp2_with fail
              refine HDL.out.mono ?_
              rintro e w8 ⟨uf, uq, g8, rfl, hr8, hg8, hb8⟩
              have hs8 := hb8.size
              have HQ8 := hidp (And.intro (HQ7.out.1.call hb8) (HQ7.out.2.below hb8 (by omega)))
              have HYG8 : Hid (∀ wr, Below w8.heap.size w8 wr → ∃ b, ya = some ⟨b, 0, none⟩ ∧ wr.cell? ⟨b, 1, none⟩ = some (.int .i64 yb.2)) := hidp fun wr hb => HYG7.out wr (hb8.trans (hb.mono hs8))
              have HR8 := hidp (And.intro hr8 hg8)
              obtain ⟨qa, qc, hqv⟩ := hr8.len
              subst hqv
              clear hr8 hg8 hb8 HDL HQ7 HYG7
              have hcb8 : cb < w8.heap.size := HQ8.out.1.bx.1
              have h08 : w0.heap.size < w8.heap.size := by omega
              have HQ1 : Hid ((Q ++ [((x.1 : Int), (x.2.2 : Int))]).length = Q.length + 1) := hidp (by rw [List.length_append]; rfl)
              obtain ⟨_, _, k2⟩ := HQ8.out.2
              have wx5 : IntKind.i64.wrap (x.2.2 : Int) = (x.2.2 : Int) := by rw [Last.i64_w, IntWalk.wrap64_in _ ⟨by omega, by omega⟩]
              have HCL := hidp (clone_is (w := w8.drew) (row_its (ND.Row.below HR8.out.1 (Below.refl w8.heap.size w8).drew)) (show Q.length ≤ 4294967296 by omega))
              have HCLB := hidp (clone_is (w := (w8.alloc (.cells #[.int .i64 (x.1 : Int), .int .i64 (x.2.2 : Int)] 35)).drew) (row_its (ND.Row.below HR8.out.1 ((Below.refl w8.heap.size w8).alloc (Nat.le_refl _) _).drew)) (show Q.length ≤ 4294967296 by omega))
              go_wp2
              go_cut [5] from 90 to 98 (fun u wx => ∃ g ua uc, u = .slice ua (Q.length + 1) uc ∧ Hid (Row 2 wx (.slice ua (Q.length + 1) uc) (Q ++ [((x.1 : Int), (x.2.2 : Int))]).length (itemCells EI (Q ++ [((x.1 : Int), (x.2.2 : Int))])) (some g) ∧ w8.heap.size ≤ g ∧ Below w8.heap.size w8 wx))
              case first =>
                have HPQ := hidp (And.intro hpq (And.intro hTx (And.intro hT9 hm0)))
                clear hpq hTx hT9 hm0
                go_region_held3 (fun w' => w'.cell? ⟨w0.heap.size, 2, none⟩ = some (.int .u8 x.2.2)) (go_keep)
                  ((first
                    | ((first
                        | (refine step_row (by rfl) _ _ _ (by rfl) 35 j0 _ 2 16 Try.underlying22 HJ0.out HY0.out HY1.out HY2.out (by rfl) (by decide) (.slice ca Q.length ccap) Q.length (itemCells EI Q) gc (by rfl) (H9.out.1.alloc _) ⟨w9.heap.size, 0, none⟩ 1 1 [.int .i64 (x.1 : Int), .int .i64 (x.2.2 : Int)] (by simp [Act.eval]) (by decide) (by rfl) (fun q u hq => by rw [Addr.add_lit, Nat.zero_add]; exact (Bx.new w9 [.int .i64 (x.1 : Int), .int .i64 (x.2.2 : Int)] 35).cell q hq) (by simp [Value.oneCell']) (by unfold maxLen; omega) (by omega) ?_
                           intro v10 w10 g10 hr10 hg10 hF10
                           have H10a := hidp (ap_a (x := ((x.1 : Int), (x.2.2 : Int))) H9.out hr10 hg10 hF10))
                        | (refine step_row (by rfl) _ _ _ (by rfl) 35 j0 _ 2 16 Try.underlying22 HJ0.out HY0.out HY1.out HY2.out (by rfl) (by decide) (.slice ca Q.length ccap) Q.length (itemCells EI Q) gc (by rfl) H9.out.1 ⟨w8.heap.size, 0, none⟩ 1 1 [.int .i64 (x.1 : Int), .int .i64 (x.2.2 : Int)] (by simp [Act.eval]) (by decide) (by rfl) (fun q u hq => by rw [Addr.add_lit, Nat.zero_add]; exact HZ9.out.1.cell q hq) (by simp [Value.oneCell']) (by unfold maxLen; omega) (by omega) ?_
                           intro v10 w10 g10 hr10 hg10 hF10
                           have H10a := hidp (ap_b (x := ((x.1 : Int), (x.2.2 : Int))) H9.out hr10 hg10 hF10)))
                       have o2 := (H10a.out.2.2.cell (p := ⟨w0.heap.size, 2, none⟩) h08).trans k2
                       obtain ⟨ua10, uc10, hv10⟩ := hr10.len
                       subst hv10
                       have H10 := H10a
                       clear hr10 hg10 hF10)
                    | (go_at_call 38
                       (first
                        | (with_reducible refine HCL.out.mono ?_
                           rintro e w9 ⟨uc, gc, rfl, hrc, hgc, hb9⟩
                           have H9 := hidp (cl_a hrc hgc hb9)
                           have HZ9 := hidp True.intro)
                        | (with_reducible refine HCLB.out.mono ?_
                           rintro e w9 ⟨uc, gc, rfl, hrc, hgc, hb9⟩
                           have H9 := hidp (cl_b (x := ((x.1 : Int), (x.2.2 : Int))) hrc hgc hb9).1
                           have HZ9 := hidp (cl_b (x := ((x.1 : Int), (x.2.2 : Int))) hrc hgc hb9).2))
                       have m2 := (H9.out.2.2.cell (p := ⟨w0.heap.size, 2, none⟩) h08).trans k2
                       obtain ⟨ca, ccap, hca⟩ := hrc.len
                       subst hca
                       clear hrc hgc hb9)))
                all_goals
                  go_wp2
                  go_meet
                  exact ⟨g10, ua10, uc10, rfl, H10⟩
              case rest =>
                obtain ⟨g9, va, vc, rfl, HN⟩ := hcut
                clear k2 HCL HCLB wx5
                by_cases hq256 : q < 256
                · have hqi : (q : Int) < 256 := by omega
                  obtain ⟨yb0, rfl, cyb⟩ := HYG8.out wc HN.out.2.2
                  go_wp2_with (at_builtin; go_must (refine wpList_row rfl (.tmp 104) (.tmp 111) _ rfl 35 j0 _ 2 16 Try.underlying22 HJ0.out HY0.out HY1.out HY2.out rfl (by decide) (.slice va (Q.length + 1) vc) (Q ++ [((x.1 : Int), (x.2.2 : Int))]).length (itemCells EI (Q ++ [((x.1 : Int), (x.2.2 : Int))])) (some g9) rfl (HN.out.1.alloc _) ⟨wc.heap.size, 0, none⟩ 1 1 [.int .i64 (q : Int), .int .i64 yb.2] rfl (by decide) rfl (fun q' u hq => by rw [Addr.add_lit, Nat.zero_add]; exact (Bx.new wc [.int .i64 (q : Int), .int .i64 yb.2] 35).cell q' hq) (by simp [Value.oneCell']) (by unfold maxLen; have := HQ1.out; omega) (by have := HQ1.out; omega) ?_))
                  intro v12 w12 g12' hr12 hg12' hF12
                  have hB12 : Below w8.heap.size w8 w12 := (HN.out.2.2.alloc HN.out.2.2.size _).trans (hF12.below (by rw [World.size_alloc]; have := HN.out.2.2.size; omega) (fun i hi => by
                    have h : some g9 = some i := by first | exact hi | (rw [show g9 = i from hi])
                    have h1 := Option.some.inj h
                    have h2 := HN.out.2.1
                    omega))
                  have hr12' : Row 2 w12 v12 (Q ++ [((x.1 : Int), (x.2.2 : Int))] ++ [((q : Int), yb.2)]).length (itemCells EI (Q ++ [((x.1 : Int), (x.2.2 : Int))] ++ [((q : Int), yb.2)])) (some g12') := by
                    rw [itemCells_append, List.length_append, HQ1.out]
                    first | exact hr12 | (rw [HQ1.out] at hr12; exact hr12)
                  have hset := mset_is (w := w12) hD1 hD2 (l := Q ++ [((x.1 : Int), (x.2.2 : Int))] ++ [((q : Int), yb.2)]) (row_its hr12') (by rw [List.length_append, HQ1.out]; simp; omega)
                  clear hr12'
                  have e1 : ins (Q ++ [((x.1 : Int), (x.2.2 : Int))] ++ [((q : Int), yb.2)]) = stroke P x.1 q x.2.2 yb.2 := by have h := stroke_ins HP.out.srt x.1 q x.2.2 yb.2; rw [if_pos hq256, ← HQQ.out] at h; exact h
                  rw [e1] at hset
                  have HSE := hidp hset
                  have HB12 := hidp hB12
                  clear hset e1 hB12
                  obtain ⟨a12, c12, hv12⟩ := hr12.len
                  subst hv12
                  clear hr12 hg12' hF12
                  go_wp2_with fail
                  refine HSE.out.mono ?_
                  rintro e w13 ⟨uf2, u13, g13, rfl, hr13, hg13, hb13⟩
                  have hst := HP.out.step (f := x.1) (n := p) (c := x.2.2) hx1 (by omega) hm0 hx3 (yb := yb) (by rw [hpq]; exact HYB.out)
                  rw [hpq] at hst
                  have hbA : Below w8.heap.size w8 w13 := HB12.out.trans (hb13.mono HB12.out.size)
                  have hlen := stroke_length P x.1 q x.2.2 yb.2
                  have HFIN := hidp (And.intro ((HQ8.out.1.call hbA).list hr13 (fun k hk => by have h1 := hg13 k hk; have h2 := HQ8.out.1.bx.1; have h3 := HB12.out.size; omega)) (And.intro hst hlen))
                  clear hr13 hg13 hb13 hst hbA hlen
                  go_wp2
                  go_roundw
                  case rel => exact ⟨j + 1, by omega, by go_num, hidp ⟨_, _, g13, HFIN.out.1, HFIN.out.2.1, by have := HFIN.out.2.2; omega⟩⟩
                  case measure => simp [intOf]; omega
                · have hqi : ¬ (q : Int) < 256 := by omega
                  have hset := mset_is (w := wc) hD1 hD2 (l := Q ++ [((x.1 : Int), (x.2.2 : Int))]) (row_its HN.out.1) (by rw [HQ1.out]; omega)
                  have e1 : ins (Q ++ [((x.1 : Int), (x.2.2 : Int))]) = stroke P x.1 q x.2.2 yb.2 := by have h := stroke_ins HP.out.srt x.1 q x.2.2 yb.2; rw [if_neg hq256, ← HQQ.out, List.append_nil] at h; exact h
                  rw [e1] at hset
                  have HSE := hidp hset
                  clear hset e1
                  go_wp2_with fail
                  refine HSE.out.mono ?_
                  rintro e w13 ⟨uf2, u13, g13, rfl, hr13, hg13, hb13⟩
                  have hst := HP.out.step (f := x.1) (n := p) (c := x.2.2) hx1 (by omega) hm0 hx3 (yb := yb) (by rw [hpq]; exact HYB.out)
                  rw [hpq] at hst
                  have hbA : Below w8.heap.size w8 w13 := HN.out.2.2.trans (hb13.mono HN.out.2.2.size)
                  have hlen := stroke_length P x.1 q x.2.2 yb.2
                  have HFIN := hidp (And.intro ((HQ8.out.1.call hbA).list hr13 (fun k hk => by have h1 := hg13 k hk; have h2 := HQ8.out.1.bx.1; have h3 := HN.out.2.2.size; omega)) (And.intro hst hlen))
                  clear hr13 hg13 hb13 hst hbA hlen
                  go_wp2
                  go_roundw
                  case rel => exact ⟨j + 1, by omega, by go_num, hidp ⟨_, _, g13, HFIN.out.1, HFIN.out.2.1, by have := HFIN.out.2.2; omega⟩⟩
                  case measure => simp [intOf]; omega
    · obtain rfl : j = l.length := by omega
      clear HC H256 hlt hj
      have hP61 : P.length ≤ 61 := by omega
      go_wp2
      go_loopw [16] (fun i wr => ∃ A : Nat, A ≤ 260 ∧ i = .int .i64 A ∧ Hid (PK w wr cb (.slice ba P.length bcap) P cs gb)) (fun i _ => 260 - (intOf i).toNat)
      case atStart => exact ⟨0, by decide, rfl, HK⟩
      case round =>
        rename World => wq
        obtain ⟨A, hA, rfl, HQ⟩ := hrel
        by_cases hlt3 : A < 256
        · have alt : (A : Int) < 256 := by omega
          have a0 : (0 : Int) ≤ (A : Int) := by omega
          obtain ⟨y, c, hc1, hfl, hyc, hc2⟩ := HP.out.get hlt3
          have hdesc := mdescend_is (w := wq) hD1 hD2 (row_its HQ.out.rb) (by omega) (A : Int)
          rw [ins_self HP.out.srt, hfl, Option.toList_some] at hdesc
          have HDE := hidp hdesc
          have HC1 := hidp hc1
          have HYC := hidp hyc
          clear hdesc hfl hc1 hyc
          go_wp2_with fail
          refine HDE.out.mono ?_
          rintro e w5 ⟨u17, g17, rfl, hr17, hg17, hb5⟩
          obtain ⟨ya, yc, hy17, hyg⟩ := row_get (E := EI) (f := fun x : Im => .int .i64 x.1) (g := fun x : Im => .int .i64 x.2) (fun _ => rfl) rfl hr17
          subst hy17
          obtain ⟨yb, rfl, _, cy⟩ := hyg w5 (Below.refl _ _) 0 y rfl
          rw [HYC.out] at cy
          have cy1 : w5.cell? ⟨yb, 1, none⟩ = some (.int .i64 (c : Int)) := cy
          have HQ5 := hidp (HQ.out.call hb5)
          have hcv : (bcells cs)[A]? = some (.int .u8 (c : Int)) := by unfold bcells; rw [List.getElem?_map, HC1.out]; rfl
          have cc := HQ5.out.bx.cell A hcv
          have hwcc : IntKind.i64.wrap (c : Int) = (c : Int) := by rw [Last.i64_w, IntWalk.wrap64_in _ ⟨by omega, by omega⟩]
          clear hr17 hg17 hb5 hyg cy hcv HDE HC1 HYC
          go_wp2
          refine region_class (C := fun w' => w'.cell? ⟨yb, 1, none⟩ = some (.int .i64 (c : Int)) ∧ w'.cell? ⟨cb, A, none⟩ = some (.int .u8 (c : Int)) ∧ ∃ n, w' = w5.drewN n) (by kernel_rfl) (by kernel_rfl) ⟨cy1, cc, 1, rfl⟩ ?_
          repeat (first
            | go_big_quiet_skip
            | (go_big_quiet_want
               first
               | (go_big_quiet_op; go_big_quiet_on)
               | (apply Exists.intro
                  refine ⟨fun wq hq => ?_, ?_⟩
                  (obtain ⟨f0, f1, f5⟩ := hq
                   unfold Oper.quietAt
                   first
                   | (go_simp; done)
                   | (go_simp; with_reducible rfl))
                  try simp only [Act.put, List.setIfInBounds_toArray, List.set_cons_zero, List.set_cons_succ]
                  go_big_quiet_on)))
          refine wpQuiet_nil ?_
          intro w6 hq
          have h6 : Below w5.heap.size w5 w6 := by
            obtain ⟨_, _, n, rfl⟩ := hq
            exact ND.Below.drewN (Below.refl _ _) n
          have HQ6 := hidp (HQ5.out.call h6)
          clear hq h6 cy1 cc
          go_wp2
          go_roundw
          case rel => exact ⟨A + 5, by omega, by go_num, HQ6⟩
          case measure => simp [intOf]; omega
        · have alt : ¬ (A : Int) < 256 := by omega
          obtain ⟨y0, c0, hc0, _⟩ := HP.out.get (a := 0) (by decide)
          have hcv : (bcells cs)[0]? = some (.int .u8 (c0 : Int)) := by unfold bcells; rw [List.getElem?_map, hc0]; rfl
          have HCV := hidp hcv
          have k0 := HQ.out.bx.cell 0 hcv
          have hcbl : cb < wq.heap.size := HQ.out.bx.1
          have HCO : Hid (∀ wr, Below wq.heap.size wq wr → Calls Try.prog 41 #[.slice ba P.length bcap] wr (fun e w' => ∃ u, e = .returned u ∧ Byts w' u cs ∧ Below wr.heap.size wr w')) := hidp fun wr hb => colors_is HP.out (row_its (ND.Row.below HQ.out.rb hb)) (by omega)
          have HLC := hidp HP.out.len
          clear hc0 hcv hA hlt3
          go_wp2
          go_region_held3 (fun w' => w'.cell? ⟨cb, 0, none⟩ = some (.int .u8 (c0 : Int))) (go_keep)
            ((first
              | (go_at_call 41
                 refine (HCO.out wq.drew (Below.refl wq.heap.size wq).drew).mono ?_
                 rintro e w5 ⟨u5, rfl, hu5, hb5⟩
                 have HU5 := hidp hu5
                 have HQ5 := hidp (HQ.out.call ((Below.refl wq.heap.size wq).drew.trans hb5))
                 have m0 := HQ5.out.bx.cell 0 HCV.out
                 obtain ⟨ua5, uc5, hv5, _⟩ := hu5
                 subst hv5
                 clear hb5)
              | (go_at_call 40
                 refine (equalb_is HU5.out (bx_byts HQ5.out.bx HLC.out) (by rw [HLC.out]; decide)).mono ?_
                 rintro e w6 ⟨rfl, n6, rfl⟩
                 have HQ6 := hidp (HQ5.out.call (ND.Below.drewN (Below.refl _ _) n6))
                 have n0 := HQ6.out.bx.cell 0 HCV.out)
              | (go_at_call 32
                 refine (alivem_is).mono ?_
                 rintro e w7 ⟨rfl, hb7⟩
                 have HQ7 := hidp (HQ6.out.call hb7)
                 have o0 := HQ7.out.bx.cell 0 HCV.out
                 clear hb7)))
          go_wp2
          go_ret
          exact ⟨rfl, HQ7.out.below⟩
end Go.Proofs.Ytehnobbiiokcgaa.Bt.P
