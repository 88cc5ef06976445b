/- The law of the keys that begin with a string, walked. -/
import Derived.Test.YtceildcbehaoaaaBtTp
import Derived.Test.YtceildcbehaoaaaBtTd
namespace Go.Proofs.Ytceildcbehaoaaa.Bt.W
set_option linter.unusedVariables false
set_option linter.unusedSimpArgs false
open Go Go.RowKit Go.Proofs.Ytceildcbehaoaaa.Bt
open Go.Proofs.Ytceildcbehaoaaa.Bt.T (its fits fits_is equal_is beg up beginnings begins_is tascend_is deleteFunc_gen containsFunc_gen not_begins_is do_begins_is not_begins_enters do_begins_enters set_srt)
open Go.Proofs.Ytceildcbehaoaaa.Bt.SU (ins)

variable {w : World}

theorem fitsLen {l : List ByteArray} (hf : fits l = true) : l.length ≤ 2147483647 := by
  unfold fits at hf
  rw [Bool.and_eq_true] at hf
  exact of_decide_eq_true hf.1

theorem up_len (l : List ByteArray) (p : ByteArray) : (up l p).length ≤ l.length := by
  have h1 : (up l p).length ≤ (ins (its l)).length := by
    unfold T.up SU.from_
    rw [List.length_map, List.length_drop]; omega
  have h2 := SU.ins_length (its l)
  simp only [its, List.length_map] at h2; 
  simp only [its] at h1
  omega
theorem take_front {p : ByteArray} : ∀ (l : List ByteArray) (j : Nat), (∀ k ∈ l.take j, beg p k = true) → (l[j]? = none ∨ ∃ k, l[j]? = some k ∧ beg p k = false) → l.take j = l.takeWhile (beg p) ∧ l.drop j = l.dropWhile (beg p)
  | [], j, _, _ => by simp
  | a :: l, 0, _, h => by
    rcases h with h | ⟨k, h1, h2⟩
    · simp at h
    · obtain rfl : a = k := by simpa using h1
      rw [List.takeWhile_cons, List.dropWhile_cons, h2]; simp
  | a :: l, j + 1, h1, h2 => by
    have ha := h1 a (by simp)
    obtain ⟨i1, i2⟩ := take_front l j (fun k hk => h1 k (by simp [hk])) (by simpa using h2)
    rw [List.takeWhile_cons, List.dropWhile_cons, ha]
    simp [i1, i2]

set_option maxHeartbeats 4000000 in
set_option maxRecDepth 100000 in
/-- 'FnTBeginnings' -/
theorem law_beginnings {v : Value} {l : List ByteArray} {p : ByteArray} (hv : Strs w v l) (hl : l.length ≤ 9223372036854775807) (hx9 : ∀ x ∈ l, x.size ≤ 9223372036854775807) (hp9 : p.size ≤ 9223372036854775807) :
    Calls Try.prog 6 #[v, .string p] w (fun e w' => e = .returned (.bool true) ∧ Below w.heap.size w w') := by
  have hB1 : Below w.heap.size w (w.alloc (.cells #[.string p] 9)) := (Below.refl w.heap.size w).alloc (Nat.le_refl _) _
  have hbx := (Bx.new w [.string p] 9).cell 0 rfl
  have hsz : (w.alloc (.cells #[.string p] 9)).heap.size = w.heap.size + 1 := by simp
  have hv1 := hv.below hB1
  have HF := hidp (fits_is hv1 hl hx9)
  cases hf : fits l with
  | false =>
    rw [hf] at HF
    have HB1 := hidp hB1
    clear hv hv1 hB1
    go_enter Try.func6, Try.ntmps6
    go_wp2_with fail
    refine HF.out.mono ?_
    rintro e w1 ⟨rfl, rfl⟩
    clear HF
    go_wp2
    go_ret
    exact ⟨rfl, HB1.out⟩
  | true =>
    rw [hf] at HF
    have hl2 := fitsLen hf
    have HB1 := hidp hB1
    have HV1 := hidp hv1
    clear hv hv1 hB1 hf
    by_cases hpz : 2147483647 < p.size
    · have hpz' : (2147483647 : Int) < (p.size : Int) := by omega
      go_enter Try.func6, Try.ntmps6
      go_wp2_with fail
      refine HF.out.mono ?_
      rintro e w1 ⟨rfl, rfl⟩
      clear HF
      go_wp2
      go_ret
      exact ⟨rfl, HB1.out⟩
    · have hpz' : ¬ (2147483647 : Int) < (p.size : Int) := by omega
      go_enter Try.func6, Try.ntmps6
      go_wp2_with fail
      refine HF.out.mono ?_
      rintro e w1 ⟨rfl, rfl⟩
      clear HF
      go_wp2_with fail
      generalize (w.alloc (.cells #[.string p] 9)) = w0 at HB1 HV1 hbx hsz ⊢
      have HI := hidp (tascend_is HV1.out (show l.length ≤ 4294967296 by omega) p)
      refine HI.out.mono ?_
      rintro e w2 ⟨u, g, rfl, hr, hg, hb2⟩
      have hr : Row 1 w2 u (up l p).length ((up l p).map Value.string) g := hr
      have hul := up_len l p
      obtain ⟨ua, ucap, rfl⟩ := hr.len
      have HUP : Hid (∀ j x, (up l p)[j]? = some x → ∃ b, ua = some ⟨b, 0, none⟩ ∧ w2.cell? ⟨b, j, none⟩ = some (.string x)) := hidp (by
        intro j x hx
        obtain ⟨b, cap, _, e, _, hM⟩ := hr.form (by have := (List.getElem?_eq_some_iff.1 hx).1; omega)
        injection e with e1 _ _
        exact ⟨b, e1, M_cell (hM j (.string x) (by rw [List.getElem?_map, hx]; rfl))⟩)
      have HUC : Hid ((ua = none ∧ ucap = 0 ∧ (up l p).length = 0) ∨ ∃ b, ua = some ⟨b, 0, none⟩ ∧ (up l p).length ≤ ucap) := hidp (by
        rcases hr.2 with ⟨e, h0, _⟩ | ⟨b, cap, _, e, hc, _⟩
        · injection e with e1 e2 e3
          exact .inl ⟨e1, e3, h0⟩
        · injection e with e1 _ e3
          exact .inr ⟨b, e1, by rw [e3]; exact hc⟩)
      have cb : w2.cell? ⟨w.heap.size, 0, none⟩ = some (.string p) := (hb2.cell (p := ⟨w.heap.size, 0, none⟩) (show w.heap.size < w0.heap.size by omega)).trans hbx
      have HB2 := hidp hb2
      have HV2 := hidp (HV1.out.below hb2)
      clear hr hg hb2 HI
      go_wp2
      go_loopw [6] (fun i wr => ∃ j n : Nat, j ≤ (up l p).length ∧ i = .int .i64 j ∧ wr = w2.drewN n ∧ Hid (∀ k ∈ (up l p).take j, beg p k = true)) (fun i _ => (up l p).length - (intOf i).toNat)
      case atStart => exact ⟨0, 0, Nat.zero_le _, rfl, rfl, hidp (by simp)⟩
      case round =>
        obtain ⟨j, n, hj, rfl, rfl, HJ⟩ := hrel
        have cb' : (w2.drewN n).cell? ⟨w.heap.size, 0, none⟩ = some (.string p) := cb
        by_cases hlt : j < (up l p).length
        · obtain ⟨x, hx⟩ : ∃ x, (up l p)[j]? = some x := ⟨(up l p)[j], List.getElem?_eq_getElem hlt⟩
          obtain ⟨b, rfl, cx⟩ := HUP.out j x hx
          have cx' : (w2.drewN n).cell? ⟨b, j, none⟩ = some (.string x) := cx
          have jlt : (j : Int) < ((up l p).length : Int) := by omega
          have hc := begins_is (w := (w2.drewN n).drew) x p
          have HX := hidp hx
          clear hx
          cases hb : beg p x with
          | true =>
            rw [hb] at hc
            have HC := hidp hc
            have HB := hidp hb
            clear hc hb
            go_wp2_with fail
            go_region_held3 (fun w' => w'.cell? ⟨b, j, none⟩ = some (.string x) ∧ w'.cell? ⟨w.heap.size, 0, none⟩ = some (.string p)) (go_keep)
              ((go_at_call 22
                refine HC.out.mono ?_
                rintro e w3 ⟨rfl, rfl⟩))
            go_wp2
            go_roundw
            case rel => exact ⟨j + 1, n + 1, by omega, by go_num, by simp [World.drewN], hidp (fun k hk => by
              rw [List.take_add_one, HX.out] at hk
              rcases List.mem_append.1 hk with hk | hk
              · exact HJ.out k hk
              · obtain rfl : k = x := by simpa using hk
                exact HB.out)⟩
            case measure => simp [intOf]; omega
          | false =>
            rw [hb] at hc
            have HC := hidp hc
            have HTF := hidp (take_front (up l p) j HJ.out (.inr ⟨x, HX.out, hb⟩))
            clear hc hb
            go_wp2_with fail
            go_region_held3 (fun w' => w'.cell? ⟨b, j, none⟩ = some (.string x) ∧ w'.cell? ⟨w.heap.size, 0, none⟩ = some (.string p)) (go_keep)
              ((go_at_call 22
                refine HC.out.mono ?_
                rintro e w3 ⟨rfl, rfl⟩))
            go_wp2_with fail
            have hcj : j ≤ ucap := by
              rcases HUC.out with ⟨e, _⟩ | ⟨b', _, e⟩
              · cases e
              · omega
            have hcne : ¬ ucap = j := by
              rcases HUC.out with ⟨e, _⟩ | ⟨b', _, e⟩
              · cases e
              · omega
            obtain ⟨wq, hwq⟩ : ∃ wq, wq = w2.drewN (n + 1) := ⟨_, rfl⟩
            rw [← hwq]
            have hs2 : w0.heap.size ≤ w2.heap.size := HB2.out.size
            have hq2 : wq.heap.size = w2.heap.size := by rw [hwq]; simp
            have HBQ : Hid (Below w0.heap.size w0 wq) := hidp (by rw [hwq]; exact HB2.out.trans (((Fr.refl (fun _ => False) w2).drewN (n + 1)).below hs2 (fun _ h => h.elim)))
            have HUQ : Hid (∀ i y, (up l p)[i]? = some y → ∃ b' : Nat, (some ⟨b, 0, none⟩ : Option Addr) = some (⟨b', 0, none⟩ : Addr) ∧ wq.cell? ⟨b', i, none⟩ = some (.string y)) := hidp (fun i y hy => by rw [hwq]; exact HUP.out i y hy)
            have HCB : Hid (wq.cell? ⟨w.heap.size, 0, none⟩ = some (.string p)) := hidp (by rw [hwq]; exact cb)
            have HVQ : Hid (Strs wq v l) := hidp (HV1.out.below HBQ.out)
            have HT := hidp (tkeys_is HVQ.out (show l.length ≤ 4294967296 by omega))
            clear hwq cb cb' HUP HJ HX cx cx' HC
            refine HT.out.mono ?_
            rintro e w4 ⟨u4, g4, rfl, hr4, hg4, hb4⟩
            have hslen : (T.set l).length ≤ 9223372036854775807 := by
              have := SU.ins_length (its l)
              simp only [T.set, its, List.length_map] at this ⊢; omega
            have hbq : w.heap.size < wq.heap.size := by omega
            have HD := hidp (deleteFunc_gen (w0 := wq) (lb := #[.pointer (some ⟨w.heap.size, 0, none⟩)]) (t := fun k => !(beg p k)) not_begins_enters (fun W k hW => not_begins_is ((hW.cell (p := ⟨w.heap.size, 0, none⟩) hbq).trans HCB.out) k) hb4 hr4 hg4 hslen)
            clear hr4 hg4 hb4 HT
            go_wp2_with fail
            refine HD.out.mono ?_
            rintro e w5 ⟨v5, rfl, hs5, hb5⟩
            have e5 : ((T.set l).filter fun k => !(!(beg p k))) = (up l p).take j := by
              rw [HTF.out.1, (beginnings l p).1]
              exact List.filter_congr fun k _ => by simp
            rw [e5] at hs5
            have hcell5 : ∀ i y, (up l p)[i]? = some y → ∃ b' : Nat, (some ⟨b, 0, none⟩ : Option Addr) = some (⟨b', 0, none⟩ : Addr) ∧ w5.cell? ⟨b', i, none⟩ = some (.string y) := fun i y hy => by
              obtain ⟨b', h1, h2⟩ := HUQ.out i y hy
              exact ⟨b', h1, (hb5.cell (p := ⟨b', i, none⟩) (World.block_lt_of_cell? wq _ h2)).trans h2⟩
            have hs1 : Strs w5 (.slice (some ⟨b, 0, none⟩) j ucap) ((up l p).take j) := ⟨_, _, by rw [List.length_take, Nat.min_eq_left (by omega)], fun i y hy => by
              have hi := (List.getElem?_eq_some_iff.1 hy).1
              rw [List.length_take] at hi
              rw [List.getElem?_take_of_lt (by omega)] at hy
              obtain ⟨b', h1, h2⟩ := hcell5 i y hy
              exact ⟨b', 0, h1, by rw [Nat.zero_add]; exact h2⟩⟩
            have hs2' : Strs w5 (.slice (some ⟨b, j, none⟩) ((up l p).length - j) (ucap - j)) ((up l p).drop j) := ⟨_, _, by rw [List.length_drop], fun i y hy => by
              rw [List.getElem?_drop] at hy
              obtain ⟨b', h1, h2⟩ := hcell5 (j + i) y hy
              injection h1 with h1
              injection h1 with h1 _ _
              subst h1
              exact ⟨b, j, rfl, h2⟩⟩
            have HE := hidp (equal_is hs1 hs5 (by rw [List.length_take]; omega))
            have HS2 := hidp hs2'
            have HB5 := hidp hb5
            clear hs1 hs2' hs5 hb5 hcell5 e5 HD HUQ
            go_wp2_with fail
            refine HE.out.mono ?_
            rintro e w6 ⟨rfl, n6, rfl⟩
            have hb6 : Below wq.heap.size wq (w5.drewN n6) := HB5.out.trans (((Fr.refl (fun _ => False) w5).drewN n6).below HB5.out.size (fun _ h => h.elim))
            have hd0 : ((up l p).drop j).any (beg p) = false := by
              rw [HTF.out.2, List.any_eq_false]
              intro k hk
              rw [(beginnings l p).2 k hk]; simp
            have hcf := containsFunc_gen (w0 := wq) (lb := #[.pointer (some ⟨w.heap.size, 0, none⟩)]) (t := beg p) do_begins_enters (fun W k hW => do_begins_is ((hW.cell (p := ⟨w.heap.size, 0, none⟩) hbq).trans HCB.out) k) hb6 (HS2.out.below (((Fr.refl (fun _ => False) w5).drewN n6).below (Nat.le_refl _) (fun _ h => h.elim))) (by rw [List.length_drop]; omega)
            rw [hd0] at hcf
            have HCF := hidp hcf
            have HB6 := hidp hb6
            clear hcf hb6 hd0 HE HS2 HB5
            go_wp2_with fail
            refine HCF.out.mono ?_
            rintro e w7 ⟨rfl, n7, rfl⟩
            have HA := hidp (alive_is (w := w5.drewN (n6 + n7)))
            clear HCF
            go_wp2_with fail
            refine HA.out.mono ?_
            rintro e w8 ⟨rfl, hb8⟩
            have hs5q : wq.heap.size ≤ w5.heap.size := by have := HB6.out.size; simpa using this
            have HB8 := hidp (HBQ.out.trans ((HB6.out.trans (((Fr.refl (fun _ => False) (w5.drewN n6)).drewN n7).below (by simpa using hs5q) (fun _ h => h.elim))).mono (by omega)))
            have HB9 : Hid (Below w0.heap.size w0 w8) := hidp (HB8.out.trans (by
              have h : Below (w5.drewN (n6 + n7)).heap.size ((w5.drewN n6).drewN n7) w8 := by first | exact hb8 | (rw [show (w5.drewN n6).drewN n7 = w5.drewN (n6 + n7) by simp]; exact hb8)
              exact h.mono (by have : (w5.drewN (n6 + n7)).heap.size = w5.heap.size := (by simp); omega)))
            clear hb8 HA
            go_wp2
            go_ret
            exact ⟨rfl, HB1.out.trans (HB9.out.mono (by omega))⟩
        · obtain rfl : j = (up l p).length := by omega
          have HTF := hidp (take_front (up l p) (up l p).length HJ.out (.inl (List.getElem?_eq_none (Nat.le_refl _))))
          rcases HUC.out with ⟨rfl, rfl, h0⟩ | ⟨b, rfl, hlc⟩
          · rw [h0]
            go_wp2_with fail
            go_quiet (fail)
            go_wp2_with fail
            obtain ⟨wq, hwq⟩ : ∃ wq, wq = w2.drewN (n + nq) := ⟨_, rfl⟩
            rw [← hwq]
            have hs2 : w0.heap.size ≤ w2.heap.size := HB2.out.size
            have hq2 : wq.heap.size = w2.heap.size := by rw [hwq]; simp
            have HBQ : Hid (Below w0.heap.size w0 wq) := hidp (by rw [hwq]; exact HB2.out.trans (((Fr.refl (fun _ => False) w2).drewN (n + nq)).below hs2 (fun _ h => h.elim)))
            have HUQ : Hid (∀ i y, (up l p)[i]? = some y → ∃ b' : Nat, (none : Option Addr) = some (⟨b', 0, none⟩ : Addr) ∧ wq.cell? ⟨b', i, none⟩ = some (.string y)) := hidp (fun i y hy => by rw [hwq]; exact HUP.out i y hy)
            have HCB : Hid (wq.cell? ⟨w.heap.size, 0, none⟩ = some (.string p)) := hidp (by rw [hwq]; exact cb)
            have HVQ : Hid (Strs wq v l) := hidp (HV1.out.below HBQ.out)
            have HT := hidp (tkeys_is HVQ.out (show l.length ≤ 4294967296 by omega))
            clear hwq cb cb' HUP HJ 
            refine HT.out.mono ?_
            rintro e w4 ⟨u4, g4, rfl, hr4, hg4, hb4⟩
            have hslen : (T.set l).length ≤ 9223372036854775807 := by
              have := SU.ins_length (its l)
              simp only [T.set, its, List.length_map] at this ⊢; omega
            have hbq : w.heap.size < wq.heap.size := by omega
            have HD := hidp (deleteFunc_gen (w0 := wq) (lb := #[.pointer (some ⟨w.heap.size, 0, none⟩)]) (t := fun k => !(beg p k)) not_begins_enters (fun W k hW => not_begins_is ((hW.cell (p := ⟨w.heap.size, 0, none⟩) hbq).trans HCB.out) k) hb4 hr4 hg4 hslen)
            clear hr4 hg4 hb4 HT
            go_wp2_with fail
            refine HD.out.mono ?_
            rintro e w5 ⟨v5, rfl, hs5, hb5⟩
            have e5 : ((T.set l).filter fun k => !(!(beg p k))) = (up l p).take (up l p).length := by
              rw [HTF.out.1, (beginnings l p).1]
              exact List.filter_congr fun k _ => by simp
            rw [e5] at hs5
            have hcell5 : ∀ i y, (up l p)[i]? = some y → ∃ b' : Nat, (none : Option Addr) = some (⟨b', 0, none⟩ : Addr) ∧ w5.cell? ⟨b', i, none⟩ = some (.string y) := fun i y hy => by
              obtain ⟨b', h1, h2⟩ := HUQ.out i y hy
              exact ⟨b', h1, (hb5.cell (p := ⟨b', i, none⟩) (World.block_lt_of_cell? wq _ h2)).trans h2⟩
            have hs1 : Strs w5 (.slice none 0 0) ((up l p).take (up l p).length) := ⟨none, 0, by rw [List.length_take, h0]; rfl, fun i y hy => by have := (List.getElem?_eq_some_iff.1 hy).1; rw [List.length_take, h0] at this; omega⟩
            have hs2' : Strs w5 (.slice none 0 0) ((up l p).drop (up l p).length) := ⟨none, 0, by rw [List.length_drop, Nat.sub_self], fun i y hy => by rw [List.getElem?_drop] at hy; have := (List.getElem?_eq_some_iff.1 hy).1; omega⟩
            have HE := hidp (equal_is hs1 hs5 (by rw [List.length_take]; omega))
            have HS2 := hidp hs2'
            have HB5 := hidp hb5
            clear hs1 hs2' hs5 hb5 hcell5 e5 HD HUQ
            go_wp2_with fail
            refine HE.out.mono ?_
            rintro e w6 ⟨rfl, n6, rfl⟩
            have hb6 : Below wq.heap.size wq (w5.drewN n6) := HB5.out.trans (((Fr.refl (fun _ => False) w5).drewN n6).below HB5.out.size (fun _ h => h.elim))
            have hd0 : ((up l p).drop (up l p).length).any (beg p) = false := by
              rw [HTF.out.2, List.any_eq_false]
              intro k hk
              rw [(beginnings l p).2 k hk]; simp
            have hcf := containsFunc_gen (w0 := wq) (lb := #[.pointer (some ⟨w.heap.size, 0, none⟩)]) (t := beg p) do_begins_enters (fun W k hW => do_begins_is ((hW.cell (p := ⟨w.heap.size, 0, none⟩) hbq).trans HCB.out) k) hb6 (HS2.out.below (((Fr.refl (fun _ => False) w5).drewN n6).below (Nat.le_refl _) (fun _ h => h.elim))) (by rw [List.length_drop]; omega)
            rw [hd0] at hcf
            have HCF := hidp hcf
            have HB6 := hidp hb6
            clear hcf hb6 hd0 HE HS2 HB5
            go_wp2_with fail
            refine HCF.out.mono ?_
            rintro e w7 ⟨rfl, n7, rfl⟩
            have HA := hidp (alive_is (w := w5.drewN (n6 + n7)))
            clear HCF
            go_wp2_with fail
            refine HA.out.mono ?_
            rintro e w8 ⟨rfl, hb8⟩
            have hs5q : wq.heap.size ≤ w5.heap.size := by have := HB6.out.size; simpa using this
            have HB8 := hidp (HBQ.out.trans ((HB6.out.trans (((Fr.refl (fun _ => False) (w5.drewN n6)).drewN n7).below (by simpa using hs5q) (fun _ h => h.elim))).mono (by omega)))
            have HB9 : Hid (Below w0.heap.size w0 w8) := hidp (HB8.out.trans (by
              have h : Below (w5.drewN (n6 + n7)).heap.size ((w5.drewN n6).drewN n7) w8 := by first | exact hb8 | (rw [show (w5.drewN n6).drewN n7 = w5.drewN (n6 + n7) by simp]; exact hb8)
              exact h.mono (by have : (w5.drewN (n6 + n7)).heap.size = w5.heap.size := (by simp); omega)))
            clear hb8 HA
            go_wp2
            go_ret
            exact ⟨rfl, HB1.out.trans (HB9.out.mono (by omega))⟩
          · by_cases hce : ucap = (up l p).length
            · subst hce
              go_wp2_with fail
              go_quiet (fail)
              go_wp2_with fail
              obtain ⟨wq, hwq⟩ : ∃ wq, wq = w2.drewN (n + nq) := ⟨_, rfl⟩
              rw [← hwq]
              have hs2 : w0.heap.size ≤ w2.heap.size := HB2.out.size
              have hq2 : wq.heap.size = w2.heap.size := by rw [hwq]; simp
              have HBQ : Hid (Below w0.heap.size w0 wq) := hidp (by rw [hwq]; exact HB2.out.trans (((Fr.refl (fun _ => False) w2).drewN (n + nq)).below hs2 (fun _ h => h.elim)))
              have HUQ : Hid (∀ i y, (up l p)[i]? = some y → ∃ b' : Nat, (some ⟨b, 0, none⟩ : Option Addr) = some (⟨b', 0, none⟩ : Addr) ∧ wq.cell? ⟨b', i, none⟩ = some (.string y)) := hidp (fun i y hy => by rw [hwq]; exact HUP.out i y hy)
              have HCB : Hid (wq.cell? ⟨w.heap.size, 0, none⟩ = some (.string p)) := hidp (by rw [hwq]; exact cb)
              have HVQ : Hid (Strs wq v l) := hidp (HV1.out.below HBQ.out)
              have HT := hidp (tkeys_is HVQ.out (show l.length ≤ 4294967296 by omega))
              clear hwq cb cb' HUP HJ 
              refine HT.out.mono ?_
              rintro e w4 ⟨u4, g4, rfl, hr4, hg4, hb4⟩
              have hslen : (T.set l).length ≤ 9223372036854775807 := by
                have := SU.ins_length (its l)
                simp only [T.set, its, List.length_map] at this ⊢; omega
              have hbq : w.heap.size < wq.heap.size := by omega
              have HD := hidp (deleteFunc_gen (w0 := wq) (lb := #[.pointer (some ⟨w.heap.size, 0, none⟩)]) (t := fun k => !(beg p k)) not_begins_enters (fun W k hW => not_begins_is ((hW.cell (p := ⟨w.heap.size, 0, none⟩) hbq).trans HCB.out) k) hb4 hr4 hg4 hslen)
              clear hr4 hg4 hb4 HT
              go_wp2_with fail
              refine HD.out.mono ?_
              rintro e w5 ⟨v5, rfl, hs5, hb5⟩
              have e5 : ((T.set l).filter fun k => !(!(beg p k))) = (up l p).take (up l p).length := by
                rw [HTF.out.1, (beginnings l p).1]
                exact List.filter_congr fun k _ => by simp
              rw [e5] at hs5
              have hcell5 : ∀ i y, (up l p)[i]? = some y → ∃ b' : Nat, (some ⟨b, 0, none⟩ : Option Addr) = some (⟨b', 0, none⟩ : Addr) ∧ w5.cell? ⟨b', i, none⟩ = some (.string y) := fun i y hy => by
                obtain ⟨b', h1, h2⟩ := HUQ.out i y hy
                exact ⟨b', h1, (hb5.cell (p := ⟨b', i, none⟩) (World.block_lt_of_cell? wq _ h2)).trans h2⟩
              have hs1 : Strs w5 (.slice (some ⟨b, 0, none⟩) (up l p).length (up l p).length) ((up l p).take (up l p).length) := ⟨_, _, by rw [List.length_take, Nat.min_eq_left (by omega)], fun i y hy => by
                have hi := (List.getElem?_eq_some_iff.1 hy).1
                rw [List.length_take] at hi
                rw [List.getElem?_take_of_lt (by omega)] at hy
                obtain ⟨b', h1, h2⟩ := hcell5 i y hy
                exact ⟨b', 0, h1, by rw [Nat.zero_add]; exact h2⟩⟩
              have hs2' : Strs w5 (.slice (some ⟨b, 0, none⟩) 0 0) ((up l p).drop (up l p).length) := ⟨_, _, by rw [List.length_drop, Nat.sub_self], fun i y hy => by rw [List.getElem?_drop] at hy; have := (List.getElem?_eq_some_iff.1 hy).1; omega⟩
              have HE := hidp (equal_is hs1 hs5 (by rw [List.length_take]; omega))
              have HS2 := hidp hs2'
              have HB5 := hidp hb5
              clear hs1 hs2' hs5 hb5 hcell5 e5 HD HUQ
              go_wp2_with fail
              refine HE.out.mono ?_
              rintro e w6 ⟨rfl, n6, rfl⟩
              have hb6 : Below wq.heap.size wq (w5.drewN n6) := HB5.out.trans (((Fr.refl (fun _ => False) w5).drewN n6).below HB5.out.size (fun _ h => h.elim))
              have hd0 : ((up l p).drop (up l p).length).any (beg p) = false := by
                rw [HTF.out.2, List.any_eq_false]
                intro k hk
                rw [(beginnings l p).2 k hk]; simp
              have hcf := containsFunc_gen (w0 := wq) (lb := #[.pointer (some ⟨w.heap.size, 0, none⟩)]) (t := beg p) do_begins_enters (fun W k hW => do_begins_is ((hW.cell (p := ⟨w.heap.size, 0, none⟩) hbq).trans HCB.out) k) hb6 (HS2.out.below (((Fr.refl (fun _ => False) w5).drewN n6).below (Nat.le_refl _) (fun _ h => h.elim))) (by rw [List.length_drop]; omega)
              rw [hd0] at hcf
              have HCF := hidp hcf
              have HB6 := hidp hb6
              clear hcf hb6 hd0 HE HS2 HB5
              go_wp2_with fail
              refine HCF.out.mono ?_
              rintro e w7 ⟨rfl, n7, rfl⟩
              have HA := hidp (alive_is (w := w5.drewN (n6 + n7)))
              clear HCF
              go_wp2_with fail
              refine HA.out.mono ?_
              rintro e w8 ⟨rfl, hb8⟩
              have hs5q : wq.heap.size ≤ w5.heap.size := by have := HB6.out.size; simpa using this
              have HB8 := hidp (HBQ.out.trans ((HB6.out.trans (((Fr.refl (fun _ => False) (w5.drewN n6)).drewN n7).below (by simpa using hs5q) (fun _ h => h.elim))).mono (by omega)))
              have HB9 : Hid (Below w0.heap.size w0 w8) := hidp (HB8.out.trans (by
                have h : Below (w5.drewN (n6 + n7)).heap.size ((w5.drewN n6).drewN n7) w8 := by first | exact hb8 | (rw [show (w5.drewN n6).drewN n7 = w5.drewN (n6 + n7) by simp]; exact hb8)
                exact h.mono (by have : (w5.drewN (n6 + n7)).heap.size = w5.heap.size := (by simp); omega)))
              clear hb8 HA
              go_wp2
              go_ret
              exact ⟨rfl, HB1.out.trans (HB9.out.mono (by omega))⟩
            · have hcj : (up l p).length ≤ ucap := hlc
              go_wp2_with fail
              go_quiet (fail)
              go_wp2_with fail
              obtain ⟨wq, hwq⟩ : ∃ wq, wq = w2.drewN (n + nq) := ⟨_, rfl⟩
              rw [← hwq]
              have hs2 : w0.heap.size ≤ w2.heap.size := HB2.out.size
              have hq2 : wq.heap.size = w2.heap.size := by rw [hwq]; simp
              have HBQ : Hid (Below w0.heap.size w0 wq) := hidp (by rw [hwq]; exact HB2.out.trans (((Fr.refl (fun _ => False) w2).drewN (n + nq)).below hs2 (fun _ h => h.elim)))
              have HUQ : Hid (∀ i y, (up l p)[i]? = some y → ∃ b' : Nat, (some ⟨b, 0, none⟩ : Option Addr) = some (⟨b', 0, none⟩ : Addr) ∧ wq.cell? ⟨b', i, none⟩ = some (.string y)) := hidp (fun i y hy => by rw [hwq]; exact HUP.out i y hy)
              have HCB : Hid (wq.cell? ⟨w.heap.size, 0, none⟩ = some (.string p)) := hidp (by rw [hwq]; exact cb)
              have HVQ : Hid (Strs wq v l) := hidp (HV1.out.below HBQ.out)
              have HT := hidp (tkeys_is HVQ.out (show l.length ≤ 4294967296 by omega))
              clear hwq cb cb' HUP HJ 
              refine HT.out.mono ?_
              rintro e w4 ⟨u4, g4, rfl, hr4, hg4, hb4⟩
              have hslen : (T.set l).length ≤ 9223372036854775807 := by
                have := SU.ins_length (its l)
                simp only [T.set, its, List.length_map] at this ⊢; omega
              have hbq : w.heap.size < wq.heap.size := by omega
              have HD := hidp (deleteFunc_gen (w0 := wq) (lb := #[.pointer (some ⟨w.heap.size, 0, none⟩)]) (t := fun k => !(beg p k)) not_begins_enters (fun W k hW => not_begins_is ((hW.cell (p := ⟨w.heap.size, 0, none⟩) hbq).trans HCB.out) k) hb4 hr4 hg4 hslen)
              clear hr4 hg4 hb4 HT
              go_wp2_with fail
              refine HD.out.mono ?_
              rintro e w5 ⟨v5, rfl, hs5, hb5⟩
              have e5 : ((T.set l).filter fun k => !(!(beg p k))) = (up l p).take (up l p).length := by
                rw [HTF.out.1, (beginnings l p).1]
                exact List.filter_congr fun k _ => by simp
              rw [e5] at hs5
              have hcell5 : ∀ i y, (up l p)[i]? = some y → ∃ b' : Nat, (some ⟨b, 0, none⟩ : Option Addr) = some (⟨b', 0, none⟩ : Addr) ∧ w5.cell? ⟨b', i, none⟩ = some (.string y) := fun i y hy => by
                obtain ⟨b', h1, h2⟩ := HUQ.out i y hy
                exact ⟨b', h1, (hb5.cell (p := ⟨b', i, none⟩) (World.block_lt_of_cell? wq _ h2)).trans h2⟩
              have hs1 : Strs w5 (.slice (some ⟨b, 0, none⟩) (up l p).length ucap) ((up l p).take (up l p).length) := ⟨_, _, by rw [List.length_take, Nat.min_eq_left (by omega)], fun i y hy => by
                have hi := (List.getElem?_eq_some_iff.1 hy).1
                rw [List.length_take] at hi
                rw [List.getElem?_take_of_lt (by omega)] at hy
                obtain ⟨b', h1, h2⟩ := hcell5 i y hy
                exact ⟨b', 0, h1, by rw [Nat.zero_add]; exact h2⟩⟩
              have hs2' : Strs w5 (.slice (some ⟨b, (up l p).length, none⟩) 0 (ucap - (up l p).length)) ((up l p).drop (up l p).length) := ⟨_, _, by rw [List.length_drop, Nat.sub_self], fun i y hy => by rw [List.getElem?_drop] at hy; have := (List.getElem?_eq_some_iff.1 hy).1; omega⟩
              have HE := hidp (equal_is hs1 hs5 (by rw [List.length_take]; omega))
              have HS2 := hidp hs2'
              have HB5 := hidp hb5
              clear hs1 hs2' hs5 hb5 hcell5 e5 HD HUQ
              go_wp2_with fail
              refine HE.out.mono ?_
              rintro e w6 ⟨rfl, n6, rfl⟩
              have hb6 : Below wq.heap.size wq (w5.drewN n6) := HB5.out.trans (((Fr.refl (fun _ => False) w5).drewN n6).below HB5.out.size (fun _ h => h.elim))
              have hd0 : ((up l p).drop (up l p).length).any (beg p) = false := by
                rw [HTF.out.2, List.any_eq_false]
                intro k hk
                rw [(beginnings l p).2 k hk]; simp
              have hcf := containsFunc_gen (w0 := wq) (lb := #[.pointer (some ⟨w.heap.size, 0, none⟩)]) (t := beg p) do_begins_enters (fun W k hW => do_begins_is ((hW.cell (p := ⟨w.heap.size, 0, none⟩) hbq).trans HCB.out) k) hb6 (HS2.out.below (((Fr.refl (fun _ => False) w5).drewN n6).below (Nat.le_refl _) (fun _ h => h.elim))) (by rw [List.length_drop]; omega)
              rw [hd0] at hcf
              have HCF := hidp hcf
              have HB6 := hidp hb6
              clear hcf hb6 hd0 HE HS2 HB5
              go_wp2_with fail
              refine HCF.out.mono ?_
              rintro e w7 ⟨rfl, n7, rfl⟩
              have HA := hidp (alive_is (w := w5.drewN (n6 + n7)))
              clear HCF
              go_wp2_with fail
              refine HA.out.mono ?_
              rintro e w8 ⟨rfl, hb8⟩
              have hs5q : wq.heap.size ≤ w5.heap.size := by have := HB6.out.size; simpa using this
              have HB8 := hidp (HBQ.out.trans ((HB6.out.trans (((Fr.refl (fun _ => False) (w5.drewN n6)).drewN n7).below (by simpa using hs5q) (fun _ h => h.elim))).mono (by omega)))
              have HB9 : Hid (Below w0.heap.size w0 w8) := hidp (HB8.out.trans (by
                have h : Below (w5.drewN (n6 + n7)).heap.size ((w5.drewN n6).drewN n7) w8 := by first | exact hb8 | (rw [show (w5.drewN n6).drewN n7 = w5.drewN (n6 + n7) by simp]; exact hb8)
                exact h.mono (by have : (w5.drewN (n6 + n7)).heap.size = w5.heap.size := (by simp); omega)))
              clear hb8 HA
              go_wp2
              go_ret
              exact ⟨rfl, HB1.out.trans (HB9.out.mono (by omega))⟩
end Go.Proofs.Ytceildcbehaoaaa.Bt.W
