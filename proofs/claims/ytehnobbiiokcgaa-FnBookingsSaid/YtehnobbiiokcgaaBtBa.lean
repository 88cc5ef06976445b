/- Maps from numbers to numbers: what the program's own functions make of a list of items. -/
import Derived.Test.YtehnobbiiokcgaaBtIIw
import Derived.Test.YtehnobbiiokcgaaBtIIn
import Derived.Test.YtehnobbiiokcgaaBtNx
import Derived.Deep.RegionHeld3
namespace Go.Proofs.Ytehnobbiiokcgaa.Bt.P
set_option linter.unusedVariables false
set_option linter.unusedSimpArgs false
open Go Go.RowKit Go.Proofs.Ytehnobbiiokcgaa.Bt
open Go.Proofs.Ytehnobbiiokcgaa.Bt.ND (Im Its EI hidp)
open Go.Proofs.Ytehnobbiiokcgaa.Bt.II (MapIs ins newMap_is keys_is kv)

variable {w : World}

theorem its_get {v : Value} {l : List Im} (h : Its w v l) : ∃ a cap, v = .slice a l.length cap ∧ l.length ≤ cap ∧ ∀ wr, Below w.heap.size w wr → ∀ j x, l[j]? = some x → ∃ b off, a = some ⟨b, off, none⟩ ∧ wr.cell? ⟨b, off + j * 2, none⟩ = some (.int .i64 x.1) ∧ wr.cell? ⟨b, off + j * 2 + 1, none⟩ = some (.int .i64 x.2) := by
  obtain ⟨a, cap, rfl, hlc, hc⟩ := h
  refine ⟨a, cap, rfl, hlc, fun wr hb j x hx => ?_⟩
  obtain ⟨b, off, e, h1, h2⟩ := hc j x hx
  exact ⟨b, off, e, (hb.cell (p := ⟨b, off + j * 2, none⟩) (World.block_lt_of_cell? w _ h1)).trans h1, (hb.cell (p := ⟨b, off + j * 2 + 1, none⟩) (World.block_lt_of_cell? w _ h2)).trans h2⟩

set_option maxHeartbeats 1000000 in
set_option maxRecDepth 100000 in
/-- 'growMap' -/
theorem grow_is {D : Nat} (hD : 2 ≤ D) (hD2 : D ≤ 400) {v : Value} {l : List Im} (hv : Its w v l) (hl : l.length ≤ 4294967296) :
    Calls Try.prog 70 #[.int .i64 D, v] w (fun e w' => ∃ S s, e = .returned (.pointer (some ⟨s.m, 0, none⟩)) ∧ MapIs D S w' s (ins l) ∧ Below w.heap.size w w' ∧ ∀ i, S i → w.heap.size ≤ i) := by
  obtain ⟨a, cap, rfl, _, hc⟩ := its_get hv
  have HC := hidp hc
  have HN := hidp (newMap_is (w := w) hD (by omega))
  clear hc hv
  go_enter Try.func70, Try.ntmps70
  go_wp2_with fail
  refine HN.out.mono ?_
  rintro e w1 ⟨S1, s1, rfl, hM1, hb1, hS1, hm1⟩
  have HM1 := hidp (And.intro hM1 (And.intro hb1 (And.intro hS1 hm1)))
  obtain ⟨mb, hmb⟩ : ∃ mb, mb = s1.m := ⟨_, rfl⟩
  rw [← hmb]
  have HMB := hidp hmb
  clear hM1 hb1 hS1 hm1 HN hmb
  go_wp2
  go_loopw [12] (fun i wr => ∃ j : Nat, j ≤ l.length ∧ i = .int .i64 j ∧ Hid (∃ S s, s.m = mb ∧ (∀ i, S i → w.heap.size ≤ i) ∧ MapIs D S wr s (ins (l.take j)) ∧ Below w.heap.size w wr)) (fun i _ => l.length - (intOf i).toNat)
  case atStart => exact ⟨0, Nat.zero_le _, rfl, hidp ⟨S1, s1, HMB.out.symm, HM1.out.2.2.1, HM1.out.1, HM1.out.2.1⟩⟩
  case round =>
    obtain ⟨j, hj, rfl, HR⟩ := hrel
    obtain ⟨S, s, hm, hS, hM, hb⟩ := HR.out
    clear HR
    by_cases hlt : j < l.length
    · obtain ⟨x, hx⟩ : ∃ x, l[j]? = some x := ⟨l[j], List.getElem?_eq_getElem hlt⟩
      obtain ⟨b, off, rfl, cx', cy'⟩ := HC.out wr hb j x hx
      have hlen : (ins (l.take j)).length ≤ 100000000000 := by
        have := II.ins_length (l.take j)
        simp only [List.length_take] at this; omega
      have hM2 : MapIs D S (wr.alloc (.cells #[.int .i64 x.1, .int .i64 x.2] 35)) s (ins (l.take j)) := ⟨hM.rep.alloc _, hM.srt, hM.cnt, hM.mm, hM.tree⟩
      have hins := II.set_is hD hD2 hM2 hlen x
      rw [hm] at hins
      have HI := hidp hins
      have HT : Hid (put II.lt (ins (l.take j)) x = ins (l.take (j + 1))) := hidp (II.ins_take hx).symm
      have HMm := hidp hm
      have HS := hidp hS
      have HBL := hidp (hb.alloc hb.size (.cells #[.int .i64 x.1, .int .i64 x.2] 35))
      have jlt : (j : Int) < (l.length : Int) := by omega
      have hsz : w.heap.size ≤ wr.heap.size := hb.size
      clear hS hM hM2 hb hins hx hlen hm
      go_wp2_with fail
      refine HI.out.mono ?_
      intro e w2 hp
      obtain ⟨vv, bb, rfl⟩ := hp.form
      obtain ⟨S', s', _, hE, hM', hm', _⟩ := hp
      have hS' : ∀ i, S' i → w.heap.size ≤ i := fun i hi => (hE.new i hi).elim (HS.out i) (fun h => by rw [World.size_alloc] at h; omega)
      have HN := hidp (And.intro hM' (And.intro hm' (And.intro hS' (HBL.out.trans (hE.below (by rw [World.size_alloc]; omega) HS.out)))))
      clear hE hM' hm' hS' HI
      go_wp2
      go_roundw
      case rel => exact ⟨j + 1, by omega, by go_num, hidp ⟨S', s', HN.out.2.1.trans HMm.out, HN.out.2.2.1, by rw [← HT.out]; exact HN.out.1, HN.out.2.2.2⟩⟩
      case measure => simp [intOf]; omega
    · obtain rfl : j = l.length := by omega
      have HF := hidp (And.intro hm (And.intro hM (And.intro hb hS)))
      clear hm hM hb hS
      go_wp2
      go_ret
      refine ⟨S, s, by rw [HF.out.1]; rfl, ?_, HF.out.2.2⟩
      have := HF.out.2.1
      rwa [List.take_length] at this

theorem kv_ints (l : List Im) : kv l = (l.map (·.1)).map (Value.int .i64) := by simp [kv]

/-- 'MKeys' -/
theorem mkeys_is {D : Nat} (hD : 2 ≤ D) (hD2 : D ≤ 400) {v : Value} {l : List Im} (hv : Its w v l) (hl : l.length ≤ 4294967296) :
    Calls Try.prog 68 #[.int .i64 D, v] w (fun e w' => ∃ u, e = .returned u ∧ Ints w' u ((ins l).map (·.1)) ∧ Below w.heap.size w w') := by
  have HG := hidp (grow_is hD hD2 hv hl)
  clear hv
  go_enter Try.func68, Try.ntmps68
  go_wp2_with fail
  refine HG.out.mono ?_
  rintro e w1 ⟨S, s, rfl, hM, hb, _⟩
  have hlen : (ins l).length ≤ 1000000000000 := by have := II.ins_length l; omega
  have HK := hidp (keys_is hM hlen)
  have HB := hidp hb
  clear hM hb HG
  go_wp2_with fail
  refine HK.out.mono ?_
  rintro e w2 ⟨u2, rfl, hown, hb2⟩
  rw [kv_ints] at hown
  have h1 : Ints w2 u2 ((ins l).map (·.1)) := Sls.own (by rw [List.length_map] at hown; exact hown)
  have HF := hidp (And.intro h1 (HB.out.trans (hb2.mono HB.out.size)))
  clear h1 hown hb2 HK
  go_wp2
  go_ret
  exact ⟨u2, rfl, HF.out.1, HF.out.2⟩

/-- The items of the example. -/
def exI : List Im := [(5, 1), (3, 2), (9, 3)]
def exIC : List Value := [.int .i64 5, .int .i64 1, .int .i64 3, .int .i64 2, .int .i64 9, .int .i64 3, .int .i64 3, .int .i64 4, .int .i64 1, .int .i64 5, .int .i64 7, .int .i64 6, .int .i64 8, .int .i64 7]
theorem exI_len : ((ins exI).map (·.1)).length = 3 := by kernel_rfl
theorem exItems_is : Calls Try.prog 69 #[] w (fun e w' => e = .returned (.slice (some ⟨w.heap.size, 0, none⟩) 7 7) ∧ w' = w.alloc (.cells exIC.toArray 35)) := by
  go_enter Try.func69, Try.ntmps69
  go_wp2
  go_ret
  exact ⟨rfl, rfl⟩
theorem exI_its : Its (w.alloc (.cells exIC.toArray 35)) (.slice (some ⟨w.heap.size, 0, none⟩) 3 7) exI := by
  have hB := Bx.new w exIC 35
  refine ⟨_, 7, rfl, by decide, fun j x hx => ⟨_, 0, rfl, ?_⟩⟩
  match j, hx with
  | 0, hx => obtain rfl := Option.some.inj hx; exact ⟨hB.cell 0 rfl, hB.cell 1 rfl⟩
  | 1, hx => obtain rfl := Option.some.inj hx; exact ⟨hB.cell 2 rfl, hB.cell 3 rfl⟩
  | 2, hx => obtain rfl := Option.some.inj hx; exact ⟨hB.cell 4 rfl, hB.cell 5 rfl⟩
  | j + 3, hx => cases hx

set_option maxRecDepth 100000 in
/-- 'aliveM' -/
theorem alivem_is : Calls Try.prog 32 #[] w (fun e w' => e = .returned (.bool true) ∧ Below w.heap.size w w') := by
  have HI := hidp (mkeys_is (D := 2) (by decide) (by decide) (exI_its (w := w)) (by decide))
  have HE := hidp (exItems_is (w := w))
  have HB := hidp ((Below.refl w.heap.size w).alloc (Nat.le_refl _) (.cells exIC.toArray 35))
  go_enter Try.func32, Try.ntmps32
  go_wp2_with fail
  refine HE.out.mono ?_
  rintro e w1 ⟨rfl, rfl⟩
  clear HE
  have hsz : w.heap.size ≤ (w.alloc (.cells exIC.toArray 35)).heap.size := by rw [World.size_alloc]; omega
  generalize w.alloc (.cells exIC.toArray 35) = w1 at HI HB hsz ⊢
  go_wp2_with fail
  refine HI.out.mono ?_
  rintro e w2 ⟨u, rfl, hs, hb⟩
  obtain ⟨a, cap, rfl, _⟩ := hs
  rw [exI_len]
  have HF := hidp (HB.out.trans (hb.mono hsz))
  clear hb HI
  go_wp2
  go_ret
  exact ⟨rfl, HF.out⟩
end Go.Proofs.Ytehnobbiiokcgaa.Bt.P
