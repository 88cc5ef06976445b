/- Sets of strings: the keys that begin with a string stand together (the plain law); slices.DeleteFunc and ContainsFunc with any function that tells of a key. -/
import Derived.Test.YtceildcbehaoaaaBtTm
import Derived.Test.YtceildcbehaoaaaBtTc
import Derived.Test.YtceildcbehaoaaaBtShD
import Derived.Lib.OwnBridge
import Derived.Lib.Strings
namespace Go.Proofs.Ytceildcbehaoaaa.Bt.T
set_option linter.unusedVariables false
set_option linter.unusedSimpArgs false
open Go Go.RowKit Go.Shelf Go.Proofs.Ytceildcbehaoaaa.Bt
open Go.Proofs.Ytceildcbehaoaaa.Bt.SU (It lt ins ord ins_srt from_ bless_lt)
open Go.Proofs.Ytceildcbehaoaaa.Bt.W (hidp PostS)

/-- Does k begin with p? -/
def beg (p k : ByteArray) : Bool := decide (p.size ≤ k.size) && ((k.extract 0 p.size).toList == p.toList)
theorem beg_iff {p k : ByteArray} : beg p k = true ↔ p.toList <+: k.toList := by
  have e1 : p.size = p.toList.length := by rw [Lib.toList_data]; exact Lib.size_eq p
  have e2 : k.size = k.toList.length := by rw [Lib.toList_data]; exact Lib.size_eq k
  unfold beg
  rw [Bool.and_eq_true, decide_eq_true_eq, beq_iff_eq, Lib.extract_toList, ← Lib.toList_data, List.drop_zero, Nat.sub_zero, e1, e2]
  constructor
  · rintro ⟨_, h⟩
    exact ⟨k.toList.drop p.toList.length, by
      have h2 := List.take_append_drop p.toList.length k.toList
      rw [h] at h2; exact h2⟩
  · rintro ⟨s, h⟩
    rw [← h]
    exact ⟨by simp, by simp⟩
/-- Between a list and one that it begins, all begin with it. -/
theorem pre_mid : ∀ (p a s : List UInt8), ¬ a < p → a < p ++ s → p <+: a
  | [], a, _, _, _ => List.nil_prefix
  | c :: p, [], s, h1, _ => absurd (List.nil_lt_cons c p) h1
  | c :: p, d :: a, s, h1, h2 => by
    rw [List.cons_append, List.cons_lt_cons_iff] at h2
    rw [List.cons_lt_cons_iff] at h1
    rcases h2 with h2 | ⟨rfl, h2⟩
    · exact absurd (.inl h2) h1
    · obtain ⟨t, ht⟩ := pre_mid p a s (fun h => h1 (.inr ⟨rfl, h⟩)) h2
      exact ⟨t, by rw [← ht]; rfl⟩
theorem pre_ge : ∀ (p s : List UInt8), ¬ p ++ s < p
  | [], s => by simp
  | c :: p, s => by
    rw [List.cons_append, List.cons_lt_cons_iff]
    rintro (h | ⟨_, h⟩)
    · exact absurd h (by simp)
    · exact pre_ge p s h

/-- Keys in order. -/
abbrev KSrt (l : List ByteArray) : Prop := l.Pairwise (fun a b => Op.bytesLess a.toList b.toList = true)
theorem set_srt (l : List ByteArray) : KSrt (set l) := by
  unfold set
  exact List.pairwise_map.2 (ins_srt (its l))
/-- Those that begin with p stand first among those that are not less. -/
theorem beg_first {p : ByteArray} : ∀ {l : List ByteArray}, KSrt l → (∀ k ∈ l, Op.bytesLess k.toList p.toList = false) → l.filter (beg p) = l.takeWhile (beg p) ∧ ∀ k ∈ l.dropWhile (beg p), beg p k = false
  | [], _, _ => ⟨rfl, fun k h => by cases h⟩
  | a :: l, hs, hg => by
    obtain ⟨h1, h2⟩ := List.pairwise_cons.1 hs
    cases ha : beg p a with
    | true =>
      obtain ⟨i1, i2⟩ := beg_first h2 (fun k hk => hg k (List.mem_cons_of_mem _ hk))
      rw [List.filter_cons, List.takeWhile_cons, List.dropWhile_cons, ha]
      exact ⟨by simp [i1], by simpa using i2⟩
    | false =>
      have hn : ∀ k ∈ l, beg p k = false := fun k hk => by
        cases hb : beg p k with
        | false => rfl
        | true =>
          obtain ⟨s, hs'⟩ := beg_iff.1 hb
          have h3 := h1 k hk
          have h4 := hg a (List.mem_cons_self ..)
          rw [bless_lt, decide_eq_true_eq, ← hs'] at h3
          rw [bless_lt, decide_eq_false_iff_not] at h4
          have := beg_iff.2 (pre_mid _ _ _ h4 h3)
          rw [ha] at this; cases this
      rw [List.filter_cons, List.takeWhile_cons, List.dropWhile_cons, ha]
      refine ⟨by simpa [List.filter_eq_nil_iff] using hn, fun k hk => ?_⟩
      simp only [Bool.false_eq_true, if_false] at hk
      rcases List.mem_cons.1 hk with rfl | hk
      · exact ha
      · exact hn k hk
/-- The keys from p on. -/
def up (l : List ByteArray) (p : ByteArray) : List ByteArray := (from_ (ins (its l)) (p, ())).map (·.1)
theorem up_drop (l : List ByteArray) (p : ByteArray) : ∃ A, set l = A ++ up l p ∧ (∀ k ∈ A, Op.bytesLess k.toList p.toList = true) ∧ ∀ k ∈ up l p, Op.bytesLess k.toList p.toList = false := by
  have hs := ins_srt (its l)
  have e1 : ins (its l) = (ins (its l)).takeWhile (fun y => lt y (p, ())) ++ from_ (ins (its l)) (p, ()) := by
    unfold from_ pos
    have h := List.takeWhile_append_dropWhile (p := fun y => lt y (p, ())) (l := ins (its l))
    conv => lhs; rw [← h]
    congr 1
    conv => rhs; arg 2; rw [← h]
    rw [List.drop_left]
  refine ⟨((ins (its l)).takeWhile (fun y => lt y (p, ()))).map (·.1), ?_, fun k hk => ?_, fun k hk => ?_⟩
  · unfold set up
    rw [← List.map_append, ← e1]
  · obtain ⟨y, hy, rfl⟩ := List.mem_map.1 hk
    have := List.all_eq_true.1 (List.all_takeWhile (p := fun y => lt y (p, ())) (l := ins (its l))) y hy
    exact this
  · obtain ⟨y, hy, rfl⟩ := List.mem_map.1 hk
    have h0 : from_ (ins (its l)) (p, ()) = (ins (its l)).dropWhile (fun y => lt y (p, ())) := by
      have h := List.takeWhile_append_dropWhile (p := fun y => lt y (p, ())) (l := ins (its l))
      exact (List.append_cancel_left (e1.symm.trans h.symm))
    have hsd : Srt lt ((ins (its l)).dropWhile (fun y => lt y (p, ()))) := hs.sublist (List.dropWhile_sublist _)
    rw [h0] at hy
    cases hq : (ins (its l)).dropWhile (fun y => lt y (p, ())) with
    | nil => rw [hq] at hy; cases hy
    | cons a m =>
      have ha : lt a (p, ()) = false := by
        have := List.head?_dropWhile_not (fun y => lt y (p, ())) (ins (its l))
        rw [hq] at this
        simpa using this
      rw [hq] at hy hsd
      rcases List.mem_cons.1 hy with rfl | hy
      · exact ha
      · have h3 := (List.pairwise_cons.1 hsd).1 y hy
        cases hb : lt y (p, ()) with
        | false => exact hb
        | true =>
          have := ord.tr _ _ _ h3 hb
          rw [ha] at this; cases this
/-- The law in plain words. -/
theorem beginnings (l : List ByteArray) (p : ByteArray) : (up l p).takeWhile (beg p) = (set l).filter (beg p) ∧ ∀ k ∈ (up l p).dropWhile (beg p), beg p k = false := by
  obtain ⟨A, h1, h2, h3⟩ := up_drop l p
  have hs := set_srt l
  rw [h1] at hs
  obtain ⟨i1, i2⟩ := beg_first (p := p) (List.pairwise_append.1 hs).2.1 h3
  refine ⟨?_, i2⟩
  rw [h1, List.filter_append, ← i1]
  have eA : A.filter (beg p) = [] := List.filter_eq_nil_iff.2 fun k hk hb => by
    obtain ⟨s, hs'⟩ := beg_iff.1 hb
    have h4 := h2 k hk
    rw [bless_lt, decide_eq_true_eq, ← hs'] at h4
    exact pre_ge _ _ h4
  rw [eA]; rfl

variable {w : World}

set_option maxRecDepth 100000 in
/-- 'Begins' -/
theorem begins_is (k p : ByteArray) :
    Calls Try.prog 22 #[.string k, .string p] w (fun e w' => e = .returned (.bool (beg p k)) ∧ w = w') := by
  by_cases h : p.size ≤ k.size
  · have e1 : beg p k = ((k.extract 0 p.size).toList == p.toList) := by unfold beg; rw [decide_eq_true h]; rfl
    rw [e1]
    have h' : (p.size : Int) ≤ (k.size : Int) := by omega
    clear e1
    go_enter Try.func22, Try.ntmps22
    go_wp2
    go_ret
    exact ⟨rfl, rfl⟩
  · have e1 : beg p k = false := by unfold beg; rw [decide_eq_false h]; rfl
    rw [e1]
    have h' : ¬ (p.size : Int) ≤ (k.size : Int) := by omega
    clear e1
    go_enter Try.func22, Try.ntmps22
    go_wp2
    go_ret
    exact ⟨rfl, rfl⟩

theorem FnG {g : Nat} {lb args : Array Value} {v : Value} {W : World} (h : Calls Try.prog g (args ++ lb) W (fun e w' => e = .returned v ∧ ∃ q, w' = W.drewN q)) : FnGives Try.prog g lb args v W := h

/-- 'slices.DeleteFunc' of a list of the call's own, by any function that tells of a key. -/
theorem deleteFunc_gen {w0 : World} {v : Value} {l : List ByteArray} {f : Nat} {lb : Array Value} {t : ByteArray → Bool} {g : Option Nat} (eg : ∀ args w, (callFunc f args).run Try.prog w = .ok (.enter f args) w)
    (hcl : ∀ (W : World) (k : ByteArray), Below w0.heap.size w0 W → FnGives Try.prog f lb #[.string k] (.bool (t k)) W) (hw : Below w0.heap.size w0 w) (hv : Row 1 w v l.length (l.map Value.string) g) (hg : ∀ b, g = some b → w0.heap.size ≤ b) (hl : l.length ≤ 9223372036854775807) :
    Calls Try.prog 23 #[v, .func (.func f) #[] lb] w (fun e w' => ∃ v', e = .returned v' ∧ Strs w' v' (l.filter fun k => !(t k)) ∧ Below w0.heap.size w0 w') := by
  rcases Nat.eq_zero_or_pos l.length with h0 | h0
  · obtain rfl : l = [] := List.eq_nil_of_length_eq_zero h0
    obtain ⟨a, cap, rfl⟩ := hv.len
    have HI := hidp (AnyE.slices_IndexFunc_empty (P := Try.prog) (ρ := Try.laysDf_ren) { Try.laysDf with } a cap (.func (.func f) #[] lb) w)
    clear hv hcl eg
    go_enter Try.func23, Try.ntmps23
    go_wp2_with fail
    refine HI.out.mono ?_
    rintro e w' ⟨rfl, rfl⟩
    go_wp2
    go_ret
    exact ⟨_, rfl, ⟨a, cap, rfl, fun j x hx => by simp at hx⟩, hw⟩
  · obtain ⟨b, cap, rfl, rfl, hcap, hM⟩ := hv.form h0
    have hbw := hg b rfl
    have hH : Go.Sort.Holds Value.string w b 0 l.toArray := fun j hj => by
      have hj' : j < l.length := by simpa using hj
      have h := hM j (.string l[j]) (by rw [List.getElem?_map, List.getElem?_eq_getElem hj']; rfl)
      have e1 : l.toArray[j]! = l[j] := by rw [getElem!_pos l.toArray j (by simpa using hj')]; simp
      rw [Nat.zero_add, e1]
      exact ⟨M_cell h, M_froz h⟩
    have hpo : PredOver Try.prog f lb Value.string t b 0 l.toArray.size w := fun n os dk x _ => by
      refine hcl _ x ?_
      have h1 := Lib.below_putRow (enc := Value.string) (q := n) (d := dk) hw hbw
      have h2 := below_grown (Go.Sort.putRow Value.string (Go.Sort.ahead w n) b 0 dk) 0 os
      exact h1.trans (h2.mono h1.size)
    have hp : PredAt Try.prog f lb Value.string t w := fun W x hW => hcl W x (hw.trans (hW.mono hw.size))
    have h := AnyE.slices_DeleteFunc Try.laysDf Value.string (fun _ => rfl) t _ _ eg ByteArray.empty (fun w => by kernel_rfl) b 0 cap l.toArray w hp hpo hH (by simpa using hl) (by simpa using hcap)
    rw [List.size_toArray, List.toList_toArray] at h
    refine h.mono ?_
    rintro e w' ⟨rfl, q, rfl⟩
    generalize hf : (l.filter fun x => !(t x)) = fl
    have hfl : fl.length ≤ l.length := by rw [← hf]; exact List.length_filter_le ..
    refine ⟨_, rfl, ⟨_, cap, rfl, fun j x hx => ⟨b, 0, rfl, ?_⟩⟩, Lib.below_putRow hw hbw⟩
    have hj := (List.getElem?_eq_some_iff.1 hx).1
    have hh := Go.Sort.holds_putRow Value.string (Go.Sort.ahead w q) b 0 l.toArray (fl ++ List.replicate (l.length - fl.length) ByteArray.empty).toArray (Go.Sort.holds_ahead Value.string w q b 0 l.toArray hH) (by simp; omega) j (by simp; omega)
    rw [hh.1]
    congr 1
    rw [getElem!_pos _ j (by simp; omega)]
    have e2 : (fl ++ List.replicate (l.length - fl.length) ByteArray.empty)[j]? = some x := by rw [List.getElem?_append_left hj]; exact hx
    have := (List.getElem?_eq_some_iff.1 e2).2
    simpa using this

theorem Strs.flatp {v : Value} {l : List ByteArray} (hv : Strs w v l) (h0 : 0 < l.length) : ∃ b off cap, v = .slice (some ⟨b, off, none⟩) l.length cap ∧ ∀ j, j < l.length → w.cell? ⟨b, off + j, none⟩ = some (.string l[j]!) := by
  obtain ⟨a, cap, rfl, hc⟩ := hv
  obtain ⟨b, off, rfl, _⟩ := hc 0 l[0] (List.getElem?_eq_getElem h0)
  refine ⟨b, off, cap, rfl, fun j hj => ?_⟩
  obtain ⟨b2, off2, e, h⟩ := hc j l[j] (List.getElem?_eq_getElem hj)
  injection e with e
  injection e with e1 e2 e3
  subst e1; subst e2
  rw [getElem!_pos l j hj]; exact h
/-- 'slices.ContainsFunc' of a list of strings, by any function that tells of a key. -/
theorem containsFunc_gen {w0 : World} {v : Value} {l : List ByteArray} {f : Nat} {lb : Array Value} {t : ByteArray → Bool} (eg : ∀ args w, (callFunc f args).run Try.prog w = .ok (.enter f args) w)
    (hcl : ∀ (W : World) (k : ByteArray), Below w0.heap.size w0 W → FnGives Try.prog f lb #[.string k] (.bool (t k)) W) (hw : Below w0.heap.size w0 w) (hv : Strs w v l) (hl : l.length ≤ 9223372036854775807) :
    Calls Try.prog 25 #[v, .func (.func f) #[] lb] w (fun e w' => e = .returned (.bool (l.any t)) ∧ ∃ q, w' = w.drewN q) := by
  rcases Nat.eq_zero_or_pos l.length with h0 | h0
  · obtain rfl : l = [] := List.eq_nil_of_length_eq_zero h0
    obtain ⟨a, cap, rfl, _⟩ := hv
    exact (AnyE.slices_ContainsFunc_empty Try.laysCf a cap _ w).mono fun e w' ⟨h1, h2⟩ => ⟨h1, 0, h2⟩
  · obtain ⟨b, off, cap, rfl, hc⟩ := Strs.flatp hv h0
    have hp : PredAt Try.prog f lb Value.string t w := fun W x hW => hcl W x (hw.trans (hW.mono hw.size))
    have h := AnyE.slices_ContainsFunc Try.laysCf Value.string t _ _ eg b off l.length cap l w hp (Nat.le_refl _) hl hc
    rw [List.take_length] at h
    exact h

/-- The two functions of the law. -/
theorem not_begins_is {p : ByteArray} {bx : Nat} (hb : w.cell? ⟨bx, 0, none⟩ = some (.string p)) (k : ByteArray) :
    Calls Try.prog 24 #[.string k, .pointer (some ⟨bx, 0, none⟩)] w (fun e w' => e = .returned (.bool (!(beg p k))) ∧ ∃ q, w' = w.drewN q) := by
  have HC := hidp (begins_is (w := w) k p)
  generalize beg p k = r at HC ⊢
  go_enter Try.func24, Try.ntmps24
  go_wp2_with fail
  refine HC.out.mono ?_
  rintro e w' ⟨rfl, rfl⟩
  go_wp2
  go_ret
  exact ⟨rfl, 0, rfl⟩
theorem do_begins_is {p : ByteArray} {bx : Nat} (hb : w.cell? ⟨bx, 0, none⟩ = some (.string p)) (k : ByteArray) :
    Calls Try.prog 26 #[.string k, .pointer (some ⟨bx, 0, none⟩)] w (fun e w' => e = .returned (.bool (beg p k)) ∧ ∃ q, w' = w.drewN q) := by
  have HC := hidp (begins_is (w := w) k p)
  generalize beg p k = r at HC ⊢
  go_enter Try.func26, Try.ntmps26
  go_wp2_with fail
  refine HC.out.mono ?_
  rintro e w' ⟨rfl, rfl⟩
  go_wp2
  go_ret
  exact ⟨rfl, 0, rfl⟩
theorem not_begins_enters : ∀ args w, (callFunc 24 args).run Try.prog w = .ok (.enter 24 args) w := enters_of Try.func24 (by kernel_rfl) rfl
theorem do_begins_enters : ∀ args w, (callFunc 26 args).run Try.prog w = .ok (.enter 26 args) w := enters_of Try.func26 (by kernel_rfl) rfl
end Go.Proofs.Ytceildcbehaoaaa.Bt.T
