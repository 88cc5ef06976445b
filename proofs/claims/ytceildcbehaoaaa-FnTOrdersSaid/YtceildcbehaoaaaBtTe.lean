/- The order of insertion does not matter: the plain law, and the walks of Concat and 'turned'. -/
import Derived.Test.YtceildcbehaoaaaBtTd
import Derived.Test.YtceildcbehaoaaaBtShelf
import Derived.Shelf.Slices.Clone
import Derived.Shelf.Slices.ReverseS
import Derived.Lib.OwnBridge
import Derived.Lib.AppendZeros
namespace Go.Proofs.Ytceildcbehaoaaa.Bt.T
set_option linter.unusedVariables false
set_option linter.unusedSimpArgs false
open Go Go.RowKit Go.Shelf Go.Proofs.Ytceildcbehaoaaa.Bt
open Go.Proofs.Ytceildcbehaoaaa.Bt.SU (It lt ins ord ins_srt)
open Go.Proofs.Ytceildcbehaoaaa.Bt.W (hidp)

theorem eq_of_nlt {x y : It} (h1 : lt x y = false) (h2 : lt y x = false) : x = y := by
  by_cases h : x.1 = y.1
  · exact Prod.ext h rfl
  · have := W.bless_total (fun e => h (W.toList_inj e)) h1
    rw [show lt y x = true from this] at h2; cases h2
theorem mem_put {l : List It} {x y : It} : y ∈ put lt l x ↔ y = x ∨ y ∈ l := by
  cases hk : look lt l x with
  | none =>
    rw [put_none hk, List.mem_append, List.mem_cons]
    conv => rhs; rw [← List.take_append_drop (pos lt l x) l, List.mem_append]
    grind
  | some z =>
    obtain ⟨h1, h2, h3⟩ := look_some hk
    obtain rfl : x = z := eq_of_nlt h2 (pos_at h1)
    have e : put lt l x = l := by
      rw [put_found hk]
      apply List.ext_getElem?
      intro i
      rw [List.getElem?_set]
      split
      · rename_i h; subst h; first | rw [h1] | rw [if_pos h3, h1]
      · rfl
    rw [e]
    constructor
    · exact fun h => .inr h
    · rintro (rfl | h)
      · exact List.mem_of_getElem? h1
      · exact h
theorem mem_ins {l : List It} {y : It} : y ∈ ins l ↔ y ∈ l := by
  have key : ∀ (l acc : List It), y ∈ l.foldl (fun acc x => put lt acc x) acc ↔ y ∈ l ∨ y ∈ acc := by
    intro l
    induction l with
    | nil => intro acc; simp
    | cons x l ih =>
      intro acc
      rw [List.foldl_cons, ih, mem_put, List.mem_cons]; grind
  have := key l []
  simpa [ins] using this
theorem srt_ext : ∀ (a b : List It), Srt lt a → Srt lt b → (∀ y, y ∈ a ↔ y ∈ b) → a = b
  | [], [], _, _, _ => rfl
  | [], y :: b, _, _, h => absurd ((h y).2 (List.mem_cons_self ..)) (by simp)
  | x :: a, [], _, _, h => absurd ((h x).1 (List.mem_cons_self ..)) (by simp)
  | x :: a, y :: b, ha, hb, h => by
    obtain ⟨ha1, ha2⟩ := List.pairwise_cons.1 ha
    obtain ⟨hb1, hb2⟩ := List.pairwise_cons.1 hb
    have e : x = y := by
      rcases List.mem_cons.1 ((h x).1 (List.mem_cons_self ..)) with e | hx
      · exact e
      · rcases List.mem_cons.1 ((h y).2 (List.mem_cons_self ..)) with e | hy
        · exact e.symm
        · have := ord.tr x y x (ha1 y hy) (hb1 x hx)
          rw [ord.irr] at this; cases this
    subst e
    rw [srt_ext a b ha2 hb2 (fun z => by
      constructor
      · intro hz
        rcases List.mem_cons.1 ((h z).1 (List.mem_cons_of_mem _ hz)) with e | h'
        · subst e; have := ha1 z hz; rw [ord.irr] at this; cases this
        · exact h'
      · intro hz
        rcases List.mem_cons.1 ((h z).2 (List.mem_cons_of_mem _ hz)) with e | h'
        · subst e; have := hb1 z hz; rw [ord.irr] at this; cases this
        · exact h')]
theorem mem_its {l : List ByteArray} {y : It} : y ∈ its l ↔ y.1 ∈ l := by
  simp only [its, List.mem_map]
  constructor
  · rintro ⟨k, hk, rfl⟩; exact hk
  · intro h; exact ⟨y.1, h, rfl⟩
theorem set_ext {l m : List ByteArray} (h : ∀ k, k ∈ l ↔ k ∈ m) : set l = set m := by
  unfold set
  rw [srt_ext (ins (its l)) (ins (its m)) (ins_srt _) (ins_srt _) (fun y => by rw [mem_ins, mem_ins, mem_its, mem_its]; exact h _)]
theorem mem_set {l : List ByteArray} {k : ByteArray} : k ∈ set l ↔ k ∈ l := by
  simp only [set, List.mem_map]
  constructor
  · rintro ⟨y, hy, rfl⟩; rw [mem_ins, mem_its] at hy; exact hy
  · intro h; exact ⟨(k, ()), by rw [mem_ins, mem_its]; exact h, rfl⟩
theorem set_rev (l : List ByteArray) : set l.reverse = set l := set_ext fun k => List.mem_reverse
theorem set_set (l : List ByteArray) : set (set l) = set l := set_ext fun k => mem_set
theorem set_tail (l : List ByteArray) (i : Nat) : set (l.drop i ++ l) = set l := set_ext fun k => by
  rw [List.mem_append]
  exact ⟨fun h => h.elim List.mem_of_mem_drop id, .inr⟩
theorem set_length (l : List ByteArray) : (set l).length ≤ l.length := by
  have := Go.Proofs.Ytceildcbehaoaaa.Bt.SU.ins_length (its l)
  simpa [set, its] using this

variable {w : World}

theorem Strs.flat {v : Value} {l : List ByteArray} (hv : Strs w v l) (h0 : 0 < l.length) : ∃ b off cap, v = .slice (some ⟨b, off, none⟩) l.length cap ∧ ∀ j, j < l.length → w.cell? ⟨b, off + j, none⟩ = some (.string (l.getD j ByteArray.empty)) := by
  obtain ⟨a, cap, rfl, hc⟩ := hv
  obtain ⟨b, off, rfl, _⟩ := hc 0 l[0] (List.getElem?_eq_getElem h0)
  refine ⟨b, off, cap, rfl, fun j hj => ?_⟩
  obtain ⟨b', off', e, h⟩ := hc j l[j] (List.getElem?_eq_getElem hj)
  injection e with e; injection e with e1 e2
  subst e1; subst e2
  rw [List.getD_eq_getElem?_getD, List.getElem?_eq_getElem hj]; exact h

/-- 'turned' -/
theorem turned_is {v : Value} {l : List ByteArray} (hv : Strs w v l) (h0 : 0 < l.length) (hl : l.length ≤ 4294967296) :
    Calls Try.prog 20 #[v] w (fun e w' => ∃ u, e = .returned u ∧ Strs w' u l.reverse ∧ Below w.heap.size w w') := by
  obtain ⟨b, off, cap, rfl, hc⟩ := Strs.flat hv h0
  have hclone := Any.slices_Clone_string Try.laysClone b off l.length cap l w (Nat.le_refl _) (by omega) hc
  have HC := hidp hclone
  clear hc hv hclone
  go_enter Try.func20, Try.ntmps20
  go_wp2_with fail
  refine HC.out.mono ?_
  rintro e w1 ⟨v1, rfl, hown, hnn, hbel⟩
  rw [List.take_length, ← Lib.map_encStr] at hown
  obtain ⟨g, cap', rfl, hbg, _, _, hcm, hlen, hH⟩ := Lib.holds_of_ownsRow hown hnn
  have hrev := Any.slices_Reverse_string Try.laysReverse g 0 cap' _ w1 hH (by rw [hlen]; omega)
  rw [hlen] at hrev
  have HR := hidp hrev
  have HX := hidp (And.intro hown (And.intro hbel (And.intro hbg hlen)))
  clear hown hnn hbel hH hrev HC
  go_wp2_with fail
  refine HR.out.mono ?_
  rintro e w2 ⟨rfl, q, rfl⟩
  have hy : ((l.map (·.data.toList)).reverse).length = l.length := by simp
  have h1 := Lib.ownsRow_putRow (q := q) (ys := (l.map (·.data.toList)).reverse) HX.out.1 hy (Nat.le_refl l.length)
  have e1 : ((l.map (·.data.toList)).reverse).map Go.Proofs.encStr = l.reverse.map Value.string := by rw [← List.map_reverse, Lib.map_encStr]
  rw [List.take_of_length_le (Nat.le_of_eq hy), e1] at h1
  have HB := hidp (Lib.below_putRow (enc := Go.Proofs.encStr) (q := q) (d := ((l.map (·.data.toList)).reverse).toArray) HX.out.2.1 HX.out.2.2.1)
  have HS := hidp (Sls.own (f := Value.string) (l := l.reverse) (by rw [List.length_reverse]; exact h1))
  clear h1 HX HR
  generalize Go.Sort.putRow Go.Proofs.encStr (Go.Sort.ahead w1 q) g 0 ((l.map (·.data.toList)).reverse).toArray = w3 at HB HS ⊢
  go_wp2
  go_ret
  exact ⟨_, rfl, HS.out, HB.out⟩
end Go.Proofs.Ytceildcbehaoaaa.Bt.T
