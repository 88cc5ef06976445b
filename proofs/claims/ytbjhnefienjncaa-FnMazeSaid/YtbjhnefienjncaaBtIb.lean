/- Sets of numbers: SDelete. -/
import Derived.Test.YtbjhnefienjncaaBtIa
import Derived.Test.YtbjhnefienjncaaBtIUd6
namespace Go.Proofs.Ytbjhnefienjncaa.Bt.Z
set_option linter.unusedVariables false
set_option linter.unusedSimpArgs false
open Go Go.RowKit Go.Proofs.Ytbjhnefienjncaa.Bt Go.Proofs.Ytbjhnefienjncaa.Bt.IU

variable {w : World}

/-- A list of items without those of some keys. -/
def dels (keys : List Int) (l : List It) : List It := keys.foldl (fun acc k => cut lt acc (k, ())) l
theorem dels_take {keys : List Int} {l : List It} {j : Nat} {x : Int} (h : keys[j]? = some x) : dels (keys.take (j + 1)) l = cut lt (dels (keys.take j) l) (x, ()) := by
  rw [List.take_add_one, h]; unfold dels; rw [List.foldl_append]; rfl
theorem dels_sub : ∀ (keys : List Int) (l : List It), (dels keys l).Sublist l
  | [], l => List.Sublist.refl _
  | k :: ks, l => (dels_sub ks (cut lt l (k, ()))).trans (cut_sub l (k, ()))
theorem ins_le (l : List Int) : (ins (its l)).length ≤ l.length := by
  have := ins_length (its l)
  simpa [its] using this

set_option maxHeartbeats 1000000 in
set_option maxRecDepth 100000 in
/-- 'SDelete' -/
theorem delete_is {v u : Value} {l keys : List Int} (hv : Ints w v l) (hu : Ints w u keys) (hl : l.length ≤ 4294967296) (hk : keys.length ≤ 4294967296) :
    Calls Try.prog 7 #[v, u] w (Made w ((dels keys (ins (its l))).map (·.1))) := by
  have HG := hidp (grow_is2 hv hl)
  obtain ⟨a, cap, rfl, hc⟩ := hu.at
  have HC := hidp hc
  clear hv hu hc
  go_enter Try.func7, Try.ntmps7
  go_wp2_with fail
  refine HG.out.mono ?_
  rintro e w1 ⟨S, s, rfl, hM, hb, hS⟩
  obtain ⟨m0, hm0⟩ : ∃ m0, s.m = m0 := ⟨_, rfl⟩
  rw [hm0]
  have HI0 := hidp (And.intro hM (And.intro hb (And.intro hS hm0)))
  clear hM hb hS hm0 HG
  go_wp2
  go_loopw [12] (fun i wr => ∃ j : Nat, j ≤ keys.length ∧ i = .int .i64 j ∧ Hid (∃ S s, s.m = m0 ∧ (∀ i, S i → w.heap.size ≤ i) ∧ MapIs 32 S wr s (dels (keys.take j) (ins (its l))) ∧ Below w.heap.size w wr)) (fun i _ => keys.length - (intOf i).toNat)
  case atStart =>
    obtain ⟨hM, hb, hS, hm0⟩ := HI0.out
    exact ⟨0, Nat.zero_le _, rfl, hidp ⟨S, s, hm0, hS, by rw [List.take_zero]; exact hM, hb⟩⟩
  case round =>
    obtain ⟨j, hj, rfl, HR⟩ := hrel
    obtain ⟨S, s, hm, hS, hM, hb⟩ := HR.out
    clear HR HI0
    have hlen : (dels (keys.take j) (ins (its l))).length ≤ 100000000000 := by
      have h1 := (dels_sub (keys.take j) (ins (its l))).length_le
      have h2 := ins_le l
      omega
    by_cases hlt : j < keys.length
    · obtain ⟨x, hx⟩ : ∃ x, keys[j]? = some x := ⟨keys[j], List.getElem?_eq_getElem hlt⟩
      obtain ⟨b, off, rfl, hbl, cx⟩ := HC.out j x hx
      have cx' : wr.cell? ⟨b, off + j, none⟩ = some (.int .i64 x) := (hb.cell (p := ⟨b, off + j, none⟩) hbl).trans cx
      have hdel := set_delete (by decide) (by decide) hM hlen (x, ())
      rw [hm] at hdel
      have HI := hidp hdel
      have HT : Hid (cut lt (dels (keys.take j) (ins (its l))) (x, ()) = dels (keys.take (j + 1)) (ins (its l))) := hidp (dels_take hx).symm
      have HS := hidp hS
      have HBL := hidp hb
      have jlt : (j : Int) < (keys.length : Int) := by omega
      have hsz : w.heap.size ≤ wr.heap.size := hb.size
      clear hS hM hb hdel hx cx hlen hm
      go_wp2_with fail
      refine HI.out.mono ?_
      rintro e w2 ⟨S', s', rfl, hE, hM', hm'⟩
      have hS' : ∀ i, S' i → w.heap.size ≤ i := fun i hi => (hE.new i hi).elim (HS.out i) (fun h => by omega)
      have HN := hidp (And.intro hM' (And.intro hm' (And.intro hS' (HBL.out.trans (hE.below hsz HS.out)))))
      clear hE hM' hm' hS' HI
      go_wp2
      go_roundw
      case rel => exact ⟨j + 1, by omega, by go_num, hidp ⟨S', s', by rw [HN.out.2.1], HN.out.2.2.1, by rw [← HT.out]; exact HN.out.1, HN.out.2.2.2⟩⟩
      case measure => simp [intOf]; omega
    · obtain rfl : j = keys.length := by omega
      rw [List.take_length] at hM hlen
      have hkeys := set_keys hM (show _ ≤ 1000000000000 by omega)
      rw [hm] at hkeys
      have HK := hidp hkeys
      have HB := hidp hb
      clear hm hM hb hS hkeys hlen
      go_wp2_with fail
      refine HK.out.mono ?_
      rintro e w2 ⟨v2, rfl, hown, hb2⟩
      have ekv : kv (dels keys (ins (its l))) = ((dels keys (ins (its l))).map (·.1)).map (Value.int .i64) := by simp [kv]
      rw [ekv] at hown
      have HF := hidp (And.intro hown (HB.out.trans (hb2.mono HB.out.size)))
      have HS := hidp HB.out.size
      clear hown hb2 HK
      go_wp2
      go_ret
      exact ⟨v2, wr.heap.size, rfl, HS.out, by simpa using HF.out.1, HF.out.2⟩
end Go.Proofs.Ytbjhnefienjncaa.Bt.Z
