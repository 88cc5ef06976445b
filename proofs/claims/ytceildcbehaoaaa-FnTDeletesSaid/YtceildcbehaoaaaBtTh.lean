/- Sets of strings: what deleting leaves, the plain law; slices.Contains and slices.DeleteFunc of strings. -/
import Derived.Test.YtceildcbehaoaaaBtTg
import Derived.Test.YtceildcbehaoaaaBtTc
import Derived.Test.YtceildcbehaoaaaBtShD
import Derived.Lib.OwnBridge
namespace Go.Proofs.Ytceildcbehaoaaa.Bt.T
set_option linter.unusedVariables false
set_option linter.unusedSimpArgs false
open Go Go.RowKit Go.Shelf Go.Proofs.Ytceildcbehaoaaa.Bt
open Go.Proofs.Ytceildcbehaoaaa.Bt.SU (It lt ins ord ins_srt cut_sub)
open Go.Proofs.Ytceildcbehaoaaa.Bt.W (hidp PostS)

theorem eq_nlt {x y : It} (h1 : lt x y = false) (h2 : lt y x = false) : x = y := by
  by_cases h : x.1 = y.1
  · exact Prod.ext h rfl
  · have := W.bless_total (fun e => h (W.toList_inj e)) h1
    rw [show lt y x = true from this] at h2; cases h2
theorem lt_irr (x : It) : lt x x = false := by
  cases h : lt x x with
  | false => rfl
  | true => exact absurd h (by rw [ord.asymm h]; simp)
theorem srt_mid {A B : List It} {x : It} (h : Srt lt (A ++ x :: B)) : (∀ z ∈ A, lt z x = true) ∧ ∀ z ∈ B, lt x z = true := by
  obtain ⟨_, h2, h3⟩ := List.pairwise_append.1 h
  exact ⟨fun z hz => h3 z hz x (by simp), fun z hz => (List.pairwise_cons.1 h2).1 z hz⟩
theorem ne_of_lt {x y : It} (h : lt x y = true) : x ≠ y := fun e => by rw [e, lt_irr] at h; cases h
/-- A sorted list without one item. -/
theorem cut_filter {l : List It} {x : It} (h : Srt lt l) : cut lt l x = l.filter (fun y => !(decide (y = x))) := by
  by_cases hm : x ∈ l
  · obtain ⟨A, B, rfl⟩ := List.append_of_mem hm
    obtain ⟨hA, hB⟩ := srt_mid h
    rw [cut_look hA (lt_irr x) (lt_irr x), List.filter_append, List.filter_cons]
    have eA : A.filter (fun y => !(decide (y = x))) = A := List.filter_eq_self.2 fun z hz => by simpa using ne_of_lt (hA z hz)
    have eB : B.filter (fun y => !(decide (y = x))) = B := List.filter_eq_self.2 fun z hz => by simpa using (ne_of_lt (hB z hz)).symm
    rw [eA, eB]; simp
  · cases hk : look lt l x with
    | none =>
      rw [cut_none hk]
      exact (List.filter_eq_self.2 fun z hz => by simpa using fun e : z = x => hm (e ▸ hz)).symm
    | some y =>
      obtain ⟨h1, h2, h3⟩ := look_some hk
      obtain rfl : x = y := eq_nlt h2 (pos_at h1)
      exact absurd (List.mem_of_getElem? h1) hm
/-- Is a string one of some keys? -/
def isOne (keys : List ByteArray) (k : ByteArray) : Bool := keys.any fun y => k.toList == y.toList
theorem isOne_mem {keys : List ByteArray} {k : ByteArray} : isOne keys k = true ↔ k ∈ keys := by
  unfold isOne
  rw [List.any_eq_true]
  constructor
  · rintro ⟨y, hy, e⟩
    rw [W.toList_inj (beq_iff_eq.1 e)]; exact hy
  · exact fun h => ⟨k, h, by simp⟩
theorem dels_filter : ∀ (keys : List ByteArray) (l : List It), Srt lt l → dels keys l = l.filter (fun y => !(isOne keys y.1))
  | [], l, _ => (List.filter_eq_self.2 fun z _ => by simp [isOne]).symm
  | k :: ks, l, h => by
    have e : dels (k :: ks) l = dels ks (cut lt l (k, ())) := rfl
    rw [e, dels_filter ks _ (h.sublist (cut_sub l (k, ()))), cut_filter h, List.filter_filter]
    refine List.filter_congr fun y _ => ?_
    have e1 : (isOne (k :: ks) y.1) = (decide (y = (k, ())) || isOne ks y.1) := by
      unfold isOne
      rw [List.any_cons]
      congr 1
      by_cases hy : y = (k, ())
      · rw [decide_eq_true hy, hy]; simp
      · rw [decide_eq_false hy]
        cases hb : (y.1.toList == k.toList) with
        | false => rfl
        | true =>
          have e2 : y = (k, ()) := Prod.ext (W.toList_inj (beq_iff_eq.1 hb)) rfl
          exact absurd e2 hy
    rw [e1]
    cases decide (y = (k, ())) <;> cases isOne ks y.1 <;> rfl
/-- What TDelete returns. -/
theorem dels_set (keys l : List ByteArray) : (dels keys (ins (its l))).map (·.1) = (set l).filter (fun k => !(isOne keys k)) := by
  rw [dels_filter _ _ (ins_srt _)]
  unfold set
  rw [List.filter_map]
  rfl

variable {w : World}
theorem Strs.flat' {v : Value} {l : List ByteArray} (hv : Strs w v l) (h0 : 0 < l.length) : ∃ b off cap, v = .slice (some ⟨b, off, none⟩) l.length cap ∧ ∀ j, j < l.length → w.cell? ⟨b, off + j, none⟩ = some (.string l[j]!) := by
  obtain ⟨a, cap, rfl, hc⟩ := hv
  obtain ⟨b, off, rfl, _⟩ := hc 0 l[0] (List.getElem?_eq_getElem h0)
  refine ⟨b, off, cap, rfl, fun j hj => ?_⟩
  obtain ⟨b2, off2, e, h⟩ := hc j l[j] (List.getElem?_eq_getElem hj)
  injection e with e
  injection e with e1 e2 e3
  subst e1; subst e2
  rw [getElem!_pos l j hj]; exact h
/-- 'slices.Contains' of strings. -/
theorem contains_is {u : Value} {keys : List ByteArray} (hu : Strs w u keys) (hk : keys.length ≤ 9223372036854775807) (k : ByteArray) :
    Calls Try.prog 35 #[u, .string k] w (fun e w' => e = .returned (.bool (isOne keys k)) ∧ w' = w) := by
  rcases Nat.eq_zero_or_pos keys.length with h0 | h0
  · obtain ⟨a, cap, rfl, _⟩ := hu
    obtain rfl : keys = [] := List.eq_nil_of_length_eq_zero h0
    exact AnyE.slices_Contains_empty Try.laysCo a cap (.string k) w
  · obtain ⟨b, off, cap, rfl, hc⟩ := Strs.flat' hu h0
    have h := AnyE.slices_Contains Try.laysCo Value.string _ (EqlAt.string _ _) b off keys.length cap keys k w (Nat.le_refl _) hk hc
    rw [List.take_length] at h
    exact h

/-- The function that is handed to slices.DeleteFunc: is the key one of those in the variable's block? -/
theorem closure_is {u : Value} {keys : List ByteArray} {bx : Nat} (hu : Strs w u keys) (hk : keys.length ≤ 9223372036854775807) (hb : w.cell? ⟨bx, 0, none⟩ = some u) (k : ByteArray) :
    Calls Try.prog 38 #[.string k, .pointer (some ⟨bx, 0, none⟩)] w (fun e w' => e = .returned (.bool (isOne keys k)) ∧ ∃ q, w' = w.drewN q) := by
  have HC := hidp (contains_is hu hk k)
  obtain ⟨a, cap, rfl, _⟩ := hu
  generalize isOne keys k = r at HC ⊢
  go_enter Try.func38, Try.ntmps38
  go_wp2_with fail
  refine HC.out.mono ?_
  rintro e w' ⟨rfl, rfl⟩
  go_wp2
  go_ret
  exact ⟨rfl, 0, rfl⟩

theorem closure_enters : ∀ args w, (callFunc 38 args).run Try.prog w = .ok (.enter 38 args) w := enters_of Try.func38 (by kernel_rfl) rfl

/-- 'slices.DeleteFunc' of a list of the call's own. -/
theorem deleteFunc_is {w0 : World} {u v : Value} {keys l : List ByteArray} {bx : Nat} {g : Option Nat} (hu : Strs w0 u keys) (hk : keys.length ≤ 9223372036854775807) (hbx : bx < w0.heap.size) (hb : w0.cell? ⟨bx, 0, none⟩ = some u) (hw : Below w0.heap.size w0 w) (hv : Row 1 w v l.length (l.map Value.string) g) (hg : ∀ b, g = some b → w0.heap.size ≤ b) (hl : l.length ≤ 9223372036854775807) :
    Calls Try.prog 23 #[v, .func (.func 38) #[] #[.pointer (some ⟨bx, 0, none⟩)]] w (fun e w' => ∃ v', e = .returned v' ∧ Strs w' v' (l.filter fun k => !(isOne keys k)) ∧ Below w0.heap.size w0 w') := by
  have hcl : ∀ (W : World) (k : ByteArray), Below w0.heap.size w0 W → FnGives Try.prog 38 #[.pointer (some ⟨bx, 0, none⟩)] #[.string k] (.bool (isOne keys k)) W := fun W k hW =>
    closure_is (hu.below hW) hk ((hW.cell (p := ⟨bx, 0, none⟩) hbx).trans hb) k
  rcases Nat.eq_zero_or_pos l.length with h0 | h0
  · obtain rfl : l = [] := List.eq_nil_of_length_eq_zero h0
    obtain ⟨a, cap, rfl⟩ := hv.len
    have HI := hidp (AnyE.slices_IndexFunc_empty (P := Try.prog) (ρ := Try.laysDf_ren) { Try.laysDf with } a cap (.func (.func 38) #[] #[.pointer (some ⟨bx, 0, none⟩)]) w)
    clear hv hu hb
    go_enter Try.func23, Try.ntmps23
    go_wp2_with fail
    refine HI.out.mono ?_
    rintro e w' ⟨rfl, rfl⟩
    go_wp2
    go_ret
    exact ⟨_, rfl, ⟨a, cap, rfl, fun j x hx => by simp at hx⟩, hw⟩
  · obtain ⟨b, cap, rfl, rfl, hcap, hM⟩ := hv.form h0
    have hbw := hg b rfl
    have hH : Go.Sort.Holds Value.string w b 0 l.toArray := fun j hj => by
      have hj' : j < l.length := by simpa using hj
      have h := hM j (.string l[j]) (by rw [List.getElem?_map, List.getElem?_eq_getElem hj']; rfl)
      have e1 : l.toArray[j]! = l[j] := by rw [getElem!_pos l.toArray j (by simpa using hj')]; simp
      rw [Nat.zero_add, e1]
      exact ⟨M_cell h, M_froz h⟩
    have hpo : PredOver Try.prog 38 #[.pointer (some ⟨bx, 0, none⟩)] Value.string (isOne keys) b 0 l.toArray.size w := fun n os dk x _ => by
      refine hcl _ x ?_
      have h1 := Lib.below_putRow (enc := Value.string) (q := n) (d := dk) hw hbw
      have h2 := below_grown (Go.Sort.putRow Value.string (Go.Sort.ahead w n) b 0 dk) 0 os
      exact h1.trans (h2.mono h1.size)
    have hp : PredAt Try.prog 38 #[.pointer (some ⟨bx, 0, none⟩)] Value.string (isOne keys) w := fun W x hW => hcl W x (hw.trans (hW.mono hw.size))
    have h := AnyE.slices_DeleteFunc Try.laysDf Value.string (fun _ => rfl) (isOne keys) _ _ closure_enters ByteArray.empty (fun w => by kernel_rfl) b 0 cap l.toArray w hp hpo hH (by simpa using hl) (by simpa using hcap)
    rw [List.size_toArray, List.toList_toArray] at h
    refine h.mono ?_
    rintro e w' ⟨rfl, q, rfl⟩
    generalize hf : (l.filter fun x => !(isOne keys x)) = f
    have hfl : f.length ≤ l.length := by rw [← hf]; exact List.length_filter_le ..
    refine ⟨_, rfl, ⟨_, cap, rfl, fun j x hx => ⟨b, 0, rfl, ?_⟩⟩, Lib.below_putRow hw hbw⟩
    have hj := (List.getElem?_eq_some_iff.1 hx).1
    have hh := Go.Sort.holds_putRow Value.string (Go.Sort.ahead w q) b 0 l.toArray (f ++ List.replicate (l.length - f.length) ByteArray.empty).toArray (Go.Sort.holds_ahead Value.string w q b 0 l.toArray hH) (by simp; omega) j (by simp; omega)
    rw [hh.1]
    congr 1
    rw [getElem!_pos _ j (by simp; omega)]
    have e2 : (f ++ List.replicate (l.length - f.length) ByteArray.empty)[j]? = some x := by rw [List.getElem?_append_left hj]; exact hx
    have := (List.getElem?_eq_some_iff.1 e2).2
    simpa using this
