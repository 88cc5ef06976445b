/- Grow, Concat of two lists, and the law of orders. -/
import Derived.Test.YtceildcbehaoaaaBtTe
namespace Go.Proofs.Ytceildcbehaoaaa.Bt.T
set_option linter.unusedVariables false
set_option linter.unusedSimpArgs false
open Go Go.RowKit Go.Proofs.Ytceildcbehaoaaa.Bt
open Go.Proofs.Ytceildcbehaoaaa.Bt.W (hidp infoT)

variable {w : World}

theorem Row.room (w : World) (c : Array Value) (t : TypeId) (cap : Nat) (hc : cap ≤ c.size) (hm : cap ≤ maxLen) : Row 1 (w.alloc (.cells c t)) (.slice (some ⟨w.heap.size, 0, none⟩) 0 cap) 0 [] (some w.heap.size) := by
  have hB := Bx.new w c.toList t
  rw [Array.toArray_toList] at hB
  refine ⟨by simp, .inr ⟨_, cap, rfl, rfl, Nat.zero_le _, hm, by simp, by simp, fun j hj => ?_, fun j u hu => by simp at hu⟩⟩
  have hj' : j < c.size := by have h : j < cap * 1 := hj; omega
  have := hB.2 j c[j] (by rw [Array.getElem?_toList]; exact Array.getElem?_eq_getElem hj')
  show (M _ _ (0 + j)).isSome = true
  rw [Nat.zero_add, this]; rfl

set_option maxRecDepth 100000 in
/-- 'slices.Grow' of nil. -/
theorem grow_room {n : Nat} {z : Int} (hz : z = (n : Int)) (h0 : 0 < n) (hl : n ≤ 8589934592) :
    Calls Try.prog 53 #[.slice none 0 0, .int .i64 z] w (fun e w' => ∃ v g, e = .returned v ∧ Row 1 w' v 0 [] (some g) ∧ w.heap.size ≤ g ∧ Below w.heap.size w w') := by
  subst hz
  obtain ⟨i0, hi0, hz0, hz1, hz2⟩ := info_parts infoT
  have hrun := Lib.run_append_nil_zeros (P := Try.prog) w 23 3 23 9 i0 _ .i64 .i64 Try.underlying23 Try.underlying3 hi0 hz0 n h0 (by rw [hz1]; decide) (by omega) (by rw [hz2]; omega)
  have hsz : (Builtin.zeroCells (Value.string ByteArray.empty).cells n ++ Builtin.zeroCells (Value.string ByteArray.empty).cells (grownCap w n 0 9 - n)).size = grownCap w n 0 9 := by
    have := grownCap_ge w n 0 9
    simp [Builtin.zeroCells, Value.cells]
    omega
  have hcm := grownCap_le_maxLen w n 0 9 (by unfold maxLen; omega)
  have hcn := grownCap_ge w n 0 9
  generalize grownCap w n 0 9 = gc at *
  generalize Builtin.zeroCells (Value.string ByteArray.empty).cells n ++ Builtin.zeroCells (Value.string ByteArray.empty).cells (gc - n) = cs at *
  have HRUN := hidp hrun
  have HR := hidp (Row.room w.drew cs 9 gc (Nat.le_of_eq hsz.symm) hcm)
  have HB := hidp (((Below.refl w.heap.size w).drew).alloc (by simp) (.cells cs 9))
  have hn0 : (0 : Int) < (n : Int) := by omega
  have hn1 : ¬ (n : Int) < 0 := by omega
  have hg0 : (0 : Int) ≤ (gc : Int) := by omega
  clear hrun hi0 hz0 hz1 hz2 hsz
  go_enter Try.func53, Try.ntmps53
  go_wp2_with (at_builtin; go_must (refine Lib.wpList_append_run w rfl (.tmp 20) (.tmp 21) _ _ rfl _ _ rfl rfl _ _ HRUN.out ?_))
  clear HRUN
  go_wp2
  go_ret
  exact ⟨_, rfl, w.heap.size, HR.out, Nat.le_refl _, HB.out⟩

/-- The list so far of Concat. -/
def CR (B : Nat) (w wr : World) (u : Value) (l : List ByteArray) : Prop := ∃ g, Row 1 wr u l.length (l.map Value.string) (some g) ∧ B ≤ g ∧ Below B w wr
theorem CR.next {B : Nat} {w wr w2 : World} {u2 : Value} {l l2 : List ByteArray} {g g2 : Nat} (h : B ≤ g ∧ Below B w wr) (hB : B ≤ wr.heap.size) (hr : Row 1 w2 u2 (l.length + l2.length) (l.map Value.string ++ l2.map Value.string) (some g2)) (hg : g = g2 ∨ wr.heap.size ≤ g2) (hF : Fr (fun k => g = k) wr w2) : CR B w w2 u2 (l ++ l2) :=
  ⟨g2, by rw [List.length_append, List.map_append]; exact hr, by rcases hg with e | e <;> omega, h.2.trans (hF.below hB (fun i hi => by cases hi; exact h.1))⟩
theorem flat_cells {wr : World} {b o : Nat} {l : List ByteArray} (h : ∀ j, j < l.length → wr.cell? ⟨b, o + j, none⟩ = some (.string (l.getD j ByteArray.empty))) : ∀ q u, (l.map Value.string)[q]? = some u → wr.cell? (Addr.add ⟨b, o, none⟩ q) = some u := by
  intro q u hq
  rw [List.getElem?_map] at hq
  obtain ⟨x, hx, rfl⟩ := Option.map_eq_some_iff.1 hq
  have hj := (List.getElem?_eq_some_iff.1 hx).1
  rw [Addr.add_lit, h q hj, List.getD_eq_getElem?_getD, hx]; rfl

set_option maxHeartbeats 1000000 in
set_option maxRecDepth 100000 in
/-- 'slices.Concat' of two lists. -/
theorem concat_is {va vb : Value} {l1 l2 : List ByteArray} {b : Nat} (hA : Strs w va l1) (hB : Strs w vb l2) (h1 : 0 < l1.length) (h2 : 0 < l2.length) (hl1 : l1.length ≤ 4294967296) (hl2 : l2.length ≤ 4294967296) (hb : Bx w b [va, vb]) :
    Calls Try.prog 19 #[.slice (some ⟨b, 0, none⟩) 2 2] w (fun e w' => ∃ v, e = .returned v ∧ CR w.heap.size w w' v (l1 ++ l2)) := by
  obtain ⟨b1, o1, c1, rfl, hc1⟩ := Strs.flat hA h1
  obtain ⟨b2, o2, c2, rfl, hc2⟩ := Strs.flat hB h2
  have g1 : b1 < w.heap.size := World.block_lt_of_cell? w _ (hc1 0 h1)
  have g2 : b2 < w.heap.size := World.block_lt_of_cell? w _ (hc2 0 h2)
  have k0 := hb.cell 0 rfl
  have k1 := hb.cell 1 rfl
  have hbw := hb.1
  have HC1 := hidp hc1
  have HC2 := hidp hc2
  clear hA hB hc1 hc2 hb
  obtain ⟨i0, hi0, hz0, hz1, hz2⟩ := info_parts infoT
  have HI0 := hidp hi0
  have HZ0 := hidp hz0
  have HZ1 := hidp hz1
  have HZ2 := hidp hz2
  clear hi0 hz0 hz1 hz2
  have HG := hidp (grow_room (w := w) (n := l1.length + l2.length) (z := (l1.length : Int) + (l2.length : Int)) (by omega) (by omega) (by omega))
  go_enter Try.func19, Try.ntmps19
  go_wp2
  go_loop [3, 11] (fun s i => (i = .int .i64 0 ∧ s = .int .i64 0) ∨ (i = .int .i64 1 ∧ s = .int .i64 (l1.length : Int)) ∨ (i = .int .i64 2 ∧ s = .int .i64 ((l1.length : Int) + (l2.length : Int)))) (fun _ i => 2 - (intOf i).toNat)
  case atStart => exact .inl ⟨rfl, rfl⟩
  case round =>
    rcases hrel with ⟨rfl, rfl⟩ | ⟨rfl, rfl⟩ | ⟨rfl, rfl⟩
    · have hx : ¬ (l1.length : Int) < 0 := by omega
      go_wp2
      go_round
      case rel => exact .inr (.inl ⟨by go_num, by go_num⟩)
      case measure => simp [intOf]
    · have hx : ¬ (l1.length : Int) + (l2.length : Int) < 0 := by omega
      go_wp2
      go_round
      case rel => exact .inr (.inr ⟨by go_num, by go_num⟩)
      case measure => simp [intOf]
    · go_wp2_with fail
      refine HG.out.mono ?_
      rintro e w1 ⟨v1, g, rfl, hr, hg, hbl⟩
      have hbl2 := hbl.size
      have H0 : Hid (CR w.heap.size w w1 v1 []) := hidp ⟨g, hr, hg, hbl⟩
      clear hr hg hbl HG
      go_wp2
      go_loopw [6, 27] (fun u i wr => (i = .int .i64 0 ∧ Hid (CR w.heap.size w wr u [])) ∨ (i = .int .i64 1 ∧ Hid (CR w.heap.size w wr u l1)) ∨ (i = .int .i64 2 ∧ Hid (CR w.heap.size w wr u (l1 ++ l2)))) (fun _ i _ => 2 - (intOf i).toNat)
      case atStart => exact .inl ⟨rfl, H0⟩
      case round =>
        rcases hrel with ⟨rfl, HR⟩ | ⟨rfl, HR⟩ | ⟨rfl, HR⟩
        · obtain ⟨g, r, hg, hbl⟩ := HR.out
          have hsz := hbl.size
          have q0 := (hbl.cell (p := ⟨b, 0, none⟩) hbw).trans k0
          have HN := hidp (And.intro r (And.intro hg hbl))
          have HCW := hidp (flat_cells fun j hj => (hbl.cell (p := ⟨b1, o1 + j, none⟩) g1).trans (HC1.out j hj))
          clear r hg hbl HR
          go_wp2_with (at_builtin; go_must (refine wpList_row rfl (.tmp 31) (.tmp 32) _ rfl 9 i0 _ 1 16 Try.underlying23 HI0.out HZ0.out HZ1.out HZ2.out rfl (by decide) u6 0 [] (some g) rfl HN.out.1 ⟨b1, o1, none⟩ l1.length c1 (l1.map Value.string) rfl h1 (by simp) HCW.out (fun u hu => by obtain ⟨x, _, rfl⟩ := List.mem_map.1 hu; rfl) (by unfold maxLen; omega) (by omega) ?_))
          intro v2 w2 g2 hr2 hg2 hF2
          have HX := hidp (CR.next (l := []) (l2 := l1) HN.out.2 hsz (by simpa using hr2) (by simpa using hg2) (hF2.mono fun k hk => by simpa using hk))
          clear hr2 hg2 hF2 HN HCW
          go_wp2
          go_roundw
          case rel => exact .inr (.inl ⟨by go_num, HX⟩)
          case measure => simp [intOf]
        · obtain ⟨g, r, hg, hbl⟩ := HR.out
          have hsz := hbl.size
          have q0 := (hbl.cell (p := ⟨b, 1, none⟩) hbw).trans k1
          have HN := hidp (And.intro r (And.intro hg hbl))
          have HCW := hidp (flat_cells fun j hj => (hbl.cell (p := ⟨b2, o2 + j, none⟩) g2).trans (HC2.out j hj))
          clear r hg hbl HR
          go_wp2_with (at_builtin; go_must (refine wpList_row rfl (.tmp 31) (.tmp 32) _ rfl 9 i0 _ 1 16 Try.underlying23 HI0.out HZ0.out HZ1.out HZ2.out rfl (by decide) u6 l1.length (l1.map Value.string) (some g) rfl HN.out.1 ⟨b2, o2, none⟩ l2.length c2 (l2.map Value.string) rfl h2 (by simp) HCW.out (fun u hu => by obtain ⟨x, _, rfl⟩ := List.mem_map.1 hu; rfl) (by unfold maxLen; omega) (by omega) ?_))
          intro v2 w2 g2 hr2 hg2 hF2
          have HX := hidp (CR.next (l := l1) (l2 := l2) HN.out.2 hsz (by simpa using hr2) (by simpa using hg2) (hF2.mono fun k hk => by simpa using hk))
          clear hr2 hg2 hF2 HN HCW
          go_wp2
          go_roundw
          case rel => exact .inr (.inr ⟨by go_num, HX⟩)
          case measure => simp [intOf]
        · go_wp2
          go_ret
          exact ⟨_, rfl, HR.out⟩
theorem CR.strs {B : Nat} {w wr : World} {u : Value} {l : List ByteArray} (h : CR B w wr u l) : Strs wr u l := by
  obtain ⟨g, r, _, _⟩ := h
  exact Row.sls r

open Go.Proofs.Ytceildcbehaoaaa.Bt.W (alive_is)
/-- What lies between: the input and the keys of it, as they were. -/
def Mid (w0 wr : World) (v v1 : Value) (l : List ByteArray) : Prop := Strs wr v l ∧ Strs wr v1 (set l) ∧ Below w0.heap.size w0 wr
theorem Mid.next {w0 wr w2 : World} {v v1 : Value} {l : List ByteArray} (h : Mid w0 wr v v1 l) (hb : Below wr.heap.size wr w2) : Mid w0 w2 v v1 l :=
  ⟨Sls.below h.1 hb, Sls.below h.2.1 hb, h.2.2.trans (hb.mono h.2.2.size)⟩
theorem Mid.drewN {w0 wr : World} {v v1 : Value} {l : List ByteArray} (h : Mid w0 wr v v1 l) (n : Nat) : Mid w0 (wr.drewN n) v v1 l :=
  h.next (((Fr.refl (fun _ => False) wr).drewN n).below (Nat.le_refl _) (fun _ h => h.elim))
theorem Strs.tail {b off n cap i c2 : Nat} {l : List ByteArray} (h : Strs w (.slice (some ⟨b, off, none⟩) n cap) l) : Strs w (.slice (some ⟨b, off + i, none⟩) (l.length - i) c2) (l.drop i) := by
  obtain ⟨a, cap', e, hc⟩ := h
  injection e with e1 _ _
  refine ⟨_, c2, by rw [List.length_drop], fun j x hx => ⟨b, off + i, rfl, ?_⟩⟩
  rw [List.getElem?_drop] at hx
  obtain ⟨b', off', e', h⟩ := hc (i + j) x hx
  rw [← e1] at e'
  injection e' with e'; injection e' with e2 e3
  subst e2; subst e3
  rw [Nat.add_assoc]; exact h
theorem Made.strs {w' : World} {l : List ByteArray} {v : Value} {B : Nat} (h : w'.ownsRow B 9 1 v l.length (l.map Value.string)) : Strs w' v l := Sls.own h

set_option maxHeartbeats 1000000 in
set_option maxRecDepth 100000 in
/-- 'FnTOrders' -/
theorem law_orders {a : Option Addr} {cap : Nat} {l : List ByteArray} (hv : Strs w (.slice a l.length cap) l) (hcap : l.length ≤ cap) (hc63 : cap ≤ 9223372036854775807) (hx9 : ∀ x ∈ l, x.size ≤ 9223372036854775807) (k : Nat) (hk : k ≤ 255) :
    Calls Try.prog 5 #[.slice a l.length cap, .int .u8 k] w (fun e w' => e = .returned (.bool true) ∧ Below w.heap.size w w') := by
  have HF := hidp (fits_is hv (Nat.le_trans hcap hc63) hx9)
  cases hf : fits l with
  | false =>
    rw [hf] at HF
    clear hv
    go_enter Try.func5, Try.ntmps5
    go_wp2_with fail
    refine HF.out.mono ?_
    rintro e w1 ⟨rfl, rfl⟩
    clear HF
    go_wp2
    go_ret
    exact ⟨rfl, Below.refl _ _⟩
  | true =>
    rw [hf] at HF
    have hl2 : l.length ≤ 2147483647 := by
      unfold fits at hf
      rw [Bool.and_eq_true] at hf
      have := of_decide_eq_true hf.1; omega
    rcases Nat.eq_zero_or_pos l.length with h0 | h0
    · have HA := hidp (alive_is (w := w))
      rw [h0] at HF ⊢
      clear hv hf
      go_enter Try.func5, Try.ntmps5
      go_wp2_with fail
      refine HF.out.mono ?_
      rintro e w1 ⟨rfl, rfl⟩
      clear HF
      go_wp2_with fail
      refine HA.out.mono ?_
      rintro e w1 ⟨rfl, hb⟩
      have HB := hidp hb
      clear hb HA
      go_wp2
      go_ret
      exact ⟨rfl, HB.out⟩
    · have HI := hidp (insert_is hv (Nat.le_trans hl2 (by decide)))
      have HV := hidp hv
      obtain ⟨i, hi⟩ : ∃ i, i = k % l.length := ⟨_, rfl⟩
      have hil : i < l.length := by rw [hi]; exact Nat.mod_lt _ h0
      have hmod : ((k : Int).tmod (l.length : Int)) = (i : Int) := by
        rw [Int.tmod_eq_emod_of_nonneg (by omega), hi]; exact (Int.natCast_emod _ _).symm
      have hne : ¬ (l.length : Int) = 0 := by omega
      have hic : (i : Int) ≤ (cap : Int) := by omega
      have hic2 : (i : Int) ≤ (l.length : Int) := by omega
      have hne2 : ¬ cap = i := by omega
      obtain ⟨b, off, cap', he, hc⟩ := Strs.flat hv h0
      injection he with e1 e2 e3
      subst e1; subst e3
      clear hv hf hc hi
      go_enter Try.func5, Try.ntmps5
      go_wp2_with fail
      refine HF.out.mono ?_
      rintro e w1 ⟨rfl, rfl⟩
      clear HF
      go_wp2_with fail
      refine HI.out.mono ?_
      rintro e w1 ⟨v1, B, rfl, hB, ho, hb1⟩
      have HM : Hid (Mid w w1 (.slice (some ⟨b, off, none⟩) l.length cap) v1 l) := hidp ⟨Sls.below HV.out hb1, Sls.own ho, hb1⟩
      clear ho hB hb1 HI
      have hsl : (set l).length ≤ 9223372036854775807 := Nat.le_trans (set_length l) (by omega)
      have hS := (HM.out.next ((Below.refl _ _).alloc (Nat.le_refl _) (.cells #[.slice (some ⟨b, off + i, none⟩) (l.length - i) (cap - i), .slice (some ⟨b, off, none⟩) l.length cap] 23)))
      have HC := hidp (concat_is (Strs.tail (i := i) (c2 := cap - i) hS.1) hS.1 (by rw [List.length_drop]; omega) h0 (by rw [List.length_drop]; omega) (by omega) (Bx.new w1 [.slice (some ⟨b, off + i, none⟩) (l.length - i) (cap - i), .slice (some ⟨b, off, none⟩) l.length cap] 23))
      have HM1 := hidp hS
      clear hS HM
      go_wp2_with fail
      refine HC.out.mono ?_
      rintro e w2 ⟨u2, rfl, hcr⟩
      have HM2 := hidp (HM1.out.next (by obtain ⟨_, _, _, h⟩ := hcr; exact h))
      have HI2 := hidp (insert_is hcr.strs (by rw [List.length_append, List.length_drop]; omega))
      clear hcr HC HM1
      go_wp2_with fail
      refine HI2.out.mono ?_
      rintro e w3 ⟨v3, B3, rfl, hB3, ho3, hb3⟩
      rw [set_tail] at ho3
      have HM3 := hidp (HM2.out.next hb3)
      have HS3 := hidp (Made.strs ho3)
      clear ho3 hb3 hB3 HI2 HM2
      have HQ := hidp (equal_is HS3.out HM3.out.2.1 hsl)
      clear HS3
      go_wp2_with fail
      refine HQ.out.mono ?_
      rintro e _ ⟨rfl, n, rfl⟩
      have HM4 := hidp (Mid.drewN HM3.out n)
      clear HQ HM3
      generalize w3.drewN n = w4 at HM4 ⊢
      have HT := hidp (turned_is HM4.out.1 h0 (by omega))
      go_wp2_with fail
      refine HT.out.mono ?_
      rintro e w5 ⟨u5, rfl, hs5, hb5⟩
      have HM5 := hidp (HM4.out.next hb5)
      have HI5 := hidp (insert_is hs5 (by rw [List.length_reverse]; omega))
      clear hs5 hb5 HT HM4
      go_wp2_with fail
      refine HI5.out.mono ?_
      rintro e w6 ⟨v6, B6, rfl, hB6, ho6, hb6⟩
      rw [set_rev] at ho6
      have HM6 := hidp (HM5.out.next hb6)
      have HS6 := hidp (Made.strs ho6)
      clear ho6 hb6 hB6 HI5 HM5
      have HQ := hidp (equal_is HS6.out HM6.out.2.1 hsl)
      clear HS6
      go_wp2_with fail
      refine HQ.out.mono ?_
      rintro e _ ⟨rfl, n, rfl⟩
      have HM7 := hidp (Mid.drewN HM6.out n)
      clear HQ HM6
      generalize w6.drewN n = w7 at HM7 ⊢
      have HI7 := hidp (insert_is HM7.out.2.1 (Nat.le_trans (set_length l) (by omega)))
      go_wp2_with fail
      refine HI7.out.mono ?_
      rintro e w8 ⟨v8, B8, rfl, hB8, ho8, hb8⟩
      rw [set_set] at ho8
      have HM8 := hidp (HM7.out.next hb8)
      have HS8 := hidp (Made.strs ho8)
      clear ho8 hb8 hB8 HI7 HM7
      have HQ := hidp (equal_is HS8.out HM8.out.2.1 hsl)
      clear HS8
      go_wp2_with fail
      refine HQ.out.mono ?_
      rintro e _ ⟨rfl, n, rfl⟩
      have HM9 := hidp (Mid.drewN HM8.out n)
      clear HQ HM8
      generalize w8.drewN n = w9 at HM9 ⊢
      have HA := hidp (alive_is (w := w9))
      go_wp2_with fail
      refine HA.out.mono ?_
      rintro e w10 ⟨rfl, hb10⟩
      have HB10 := hidp (HM9.out.2.2.trans (hb10.mono HM9.out.2.2.size))
      clear hb10 HA HM9
      go_wp2
      go_ret
      exact ⟨rfl, HB10.out⟩
end Go.Proofs.Ytceildcbehaoaaa.Bt.T
