/- Sets of numbers: what the program's own functions make of a list of keys. -/
import Derived.Test.YtbjhnefienjncaaBtIUq
import Derived.Test.YtbjhnefienjncaaBtRow
namespace Go.Proofs.Ytbjhnefienjncaa.Bt.Z
set_option linter.unusedVariables false
set_option linter.unusedSimpArgs false
open Go Go.RowKit Go.Proofs.Ytbjhnefienjncaa.Bt Go.Proofs.Ytbjhnefienjncaa.Bt.IU

/-- The items of keys, and the keys of the set of a list. -/
def its (l : List Int) : List It := l.map fun k => (k, ())
def set (l : List Int) : List Int := (ins (its l)).map (·.1)
theorem its_take (l : List Int) (j : Nat) : (its l).take j = its (l.take j) := (List.map_take ..).symm
theorem set_kv (l : List Int) : kv (ins (its l)) = (set l).map (Value.int .i64) := by simp [kv, set]
theorem its_get {l : List Int} {j : Nat} {x : Int} (h : l[j]? = some x) : (its l)[j]? = some (x, ()) := by simp [its, h]
theorem set_length (l : List Int) : (set l).length ≤ l.length := by
  have := ins_length (its l)
  simpa [set, its] using this

variable {w : World}

set_option maxHeartbeats 1000000 in
set_option maxRecDepth 100000 in
/-- 'growSet' -/
theorem grow_is2 {v : Value} {l : List Int} (hv : Ints w v l) (hl : l.length ≤ 4294967296) :
    Calls Try.prog 32 #[v] w (fun e w' => ∃ S s, e = .returned (.pointer (some ⟨s.m, 0, none⟩)) ∧ MapIs 32 S w' s (ins (its l)) ∧ Below w.heap.size w w' ∧ ∀ i, S i → w.heap.size ≤ i) := by
  obtain ⟨a, cap, rfl, hc⟩ := hv.at
  have HC := hidp hc
  have hlt : w.heap.size < w.heap.size + 1 := by omega
  have HB := hidp (Bx.new w (mapCells E (noMap w.heap.size).mp) 124)
  have HY := hidp (bty_alloc_new w (mapCells E (noMap w.heap.size).mp).toArray 124)
  have HE := hidp ((Below.refl w.heap.size w).alloc (Nat.le_refl _) (.cells (mapCells E (noMap w.heap.size).mp).toArray 124))
  clear hc hv
  go_enter Try.func32, Try.ntmps32
  go_wp2
  go_loopw [9] (fun i wr => ∃ j : Nat, j ≤ l.length ∧ i = .int .i64 j ∧ Hid (∃ S s, s.m = w.heap.size ∧ (∀ i, S i → w.heap.size ≤ i) ∧ MapIs 32 S wr s (ins (its (l.take j))) ∧ Below w.heap.size w wr)) (fun i _ => l.length - (intOf i).toNat)
  case atStart =>
    refine ⟨0, Nat.zero_le _, rfl, hidp ⟨(· = w.heap.size), noMap w.heap.size, rfl, fun i hi => Nat.le_of_eq hi.symm, ?_, HE.out⟩⟩
    rw [List.take_zero]
    exact new_map HB.out HY.out
  case round =>
    obtain ⟨j, hj, rfl, HR⟩ := hrel
    obtain ⟨S, s, hm, hS, hM, hb⟩ := HR.out
    clear HR
    by_cases hlt : j < l.length
    · obtain ⟨x, hx⟩ : ∃ x, l[j]? = some x := ⟨l[j], List.getElem?_eq_getElem hlt⟩
      obtain ⟨b, off, rfl, hbl, cx⟩ := HC.out j x hx
      have cx' : wr.cell? ⟨b, off + j, none⟩ = some (.int .i64 x) := (hb.cell (p := ⟨b, off + j, none⟩) hbl).trans cx
      have hlen : (ins (its (l.take j))).length ≤ 100000000000 := by
        have := ins_length (its (l.take j))
        simp only [its, List.length_map, List.length_take] at this ⊢; omega
      have hins := set_insert (by decide) (by decide) hM hlen (x, ())
      rw [hm] at hins
      have HI := hidp hins
      have HT : Hid (put lt (ins (its (l.take j))) (x, ()) = ins (its (l.take (j + 1)))) := hidp (by rw [← its_take, ← its_take]; exact (ins_take (its_get hx)).symm)
      have HS := hidp hS
      have HBL := hidp hb
      have jlt : (j : Int) < (l.length : Int) := by omega
      have hsz : w.heap.size ≤ wr.heap.size := hb.size
      clear hS hM hb hins hx cx hlen hm
      go_wp2_with fail
      refine HI.out.mono ?_
      rintro e w2 ⟨S', s', rfl, hE, hM', hm'⟩
      have hS' : ∀ i, S' i → w.heap.size ≤ i := fun i hi => (hE.new i hi).elim (HS.out i) (fun h => by omega)
      have HN := hidp (And.intro hM' (And.intro hm' (And.intro hS' (HBL.out.trans (hE.below hsz HS.out)))))
      clear hE hM' hm' hS' HI
      go_wp2
      go_roundw
      case rel => exact ⟨j + 1, by omega, by go_num, hidp ⟨S', s', by rw [HN.out.2.1], HN.out.2.2.1, by rw [← HT.out]; exact HN.out.1, HN.out.2.2.2⟩⟩
      case measure => simp [intOf]; omega
    · obtain rfl : j = l.length := by omega
      have HF := hidp (And.intro hm (And.intro hM (And.intro hb hS)))
      clear hm hM hb hS
      go_wp2
      go_ret
      refine ⟨S, s, by rw [HF.out.1]; rfl, ?_, HF.out.2.2⟩
      have := HF.out.2.1
      rwa [List.take_length] at this
theorem grow_is {v : Value} {l : List Int} (hv : Ints w v l) (hl : l.length ≤ 4294967296) :
    Calls Try.prog 32 #[v] w (fun e w' => ∃ S s, e = .returned (.pointer (some ⟨s.m, 0, none⟩)) ∧ MapIs 32 S w' s (ins (its l)) ∧ Below w.heap.size w w') :=
  (grow_is2 hv hl).mono fun _ _ ⟨S, s, h1, h2, h3, _⟩ => ⟨S, s, h1, h2, h3⟩

/-- A list of numbers of the call's own. -/
def Made (w : World) (l : List Int) (e : Ending) (w' : World) : Prop := ∃ v B, e = .returned v ∧ w.heap.size ≤ B ∧ w'.ownsRow B 3 1 v l.length (l.map (Value.int .i64)) ∧ Below w.heap.size w w'

/-- 'SInsert' -/
theorem insert_is {v : Value} {l : List Int} (hv : Ints w v l) (hl : l.length ≤ 4294967296) : Calls Try.prog 8 #[v] w (Made w (set l)) := by
  have HG := hidp (grow_is hv hl)
  clear hv
  go_enter Try.func8, Try.ntmps8
  go_wp2_with fail
  refine HG.out.mono ?_
  rintro e w1 ⟨S, s, rfl, hM, hb⟩
  have hlen : (ins (its l)).length ≤ 1000000000000 := by
    have := ins_length (its l)
    simp only [its, List.length_map] at this ⊢; omega
  have HK := hidp (set_keys hM hlen)
  have HB := hidp hb
  clear hM hb HG
  go_wp2_with fail
  refine HK.out.mono ?_
  rintro e w2 ⟨v2, rfl, hown, hb2⟩
  rw [set_kv] at hown
  have HF := hidp (And.intro hown (HB.out.trans (hb2.mono HB.out.size)))
  have HS := hidp HB.out.size
  clear hown hb2 HK
  go_wp2
  go_ret
  exact ⟨v2, w1.heap.size, rfl, HS.out, by simpa using HF.out.1, HF.out.2⟩

end Go.Proofs.Ytbjhnefienjncaa.Bt.Z
