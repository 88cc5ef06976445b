/- Maps from strings: what the program's own functions make of a list of words; the law of WKeyValues. -/
import Derived.Test.YtbfaldccnaekeaaBtSIw
import Derived.Test.YtbfaldccnaekeaaBtWk
namespace Go.Proofs.Ytbfaldccnaekeaa.Bt.W
set_option linter.unusedVariables false
set_option linter.unusedSimpArgs false
open Go Go.RowKit Go.Proofs.Ytbfaldccnaekeaa.Bt
open Go.Proofs.Ytbfaldccnaekeaa.Bt.SI (MapIs It ins kv vv KVPost Rows2 newMap_is KeyValues_is keys_is)

variable {w : World}

theorem ins_eq (l : List Wd) : SI.ins l = insW l := rfl

/-- What the walk needs of words at hand, and where they lie. -/
def WdsB (B : Nat) (w : World) (v : Value) (l : List Wd) : Prop :=
  ∃ a cap, v = .slice a l.length cap ∧ ∀ j x, l[j]? = some x → ∃ b off, a = some ⟨b, off, none⟩ ∧ b < B ∧ w.cell? ⟨b, off + j * 2, none⟩ = some (.string x.1) ∧ w.cell? ⟨b, off + j * 2 + 1, none⟩ = some (.int .i64 x.2)
theorem Wds.at {v : Value} {l : List Wd} (h : Wds w v l) : WdsB w.heap.size w v l := by
  obtain ⟨a, cap, rfl, hc⟩ := h
  refine ⟨a, cap, rfl, fun j x hx => ?_⟩
  obtain ⟨b, off, e, h1, h2⟩ := hc j x hx
  exact ⟨b, off, e, World.block_lt_of_cell? w _ h1, h1, h2⟩
theorem Wds.below {w' : World} {v : Value} {l : List Wd} (h : Wds w v l) (hb : Below w.heap.size w w') : Wds w' v l := by
  obtain ⟨a, cap, rfl, hc⟩ := h
  refine ⟨a, cap, rfl, fun j x hx => ?_⟩
  obtain ⟨b, off, e, h1, h2⟩ := hc j x hx
  have hl := World.block_lt_of_cell? w _ h1
  exact ⟨b, off, e, (hb.cell (p := ⟨b, off + j * 2, none⟩) hl).trans h1, (hb.cell (p := ⟨b, off + j * 2 + 1, none⟩) hl).trans h2⟩

set_option maxHeartbeats 1000000 in
set_option maxRecDepth 100000 in
/-- 'growWords' -/
theorem grow_is {D : Nat} (hD : 2 ≤ D) (hD2 : D ≤ 400) {v : Value} {l : List Wd} (hv : Wds w v l) (hl : l.length ≤ 4294967296) :
    Calls Try.prog 61 #[.int .i64 D, v] w (fun e w' => ∃ S s, e = .returned (.pointer (some ⟨s.m, 0, none⟩)) ∧ MapIs D S w' s (insW l) ∧ Below w.heap.size w w' ∧ ∀ i, S i → w.heap.size ≤ i) := by
  obtain ⟨a, cap, rfl, hc⟩ := hv.at
  have HC := hidp hc
  have HN := hidp (newMap_is (w := w) hD (by omega))
  clear hc hv
  go_enter Try.func61, Try.ntmps61
  go_wp2_with fail
  refine HN.out.mono ?_
  rintro e w1 ⟨S1, s1, rfl, hM1, hb1, hS1, hm1⟩
  have HM1 := hidp (And.intro hM1 (And.intro hb1 (And.intro hS1 hm1)))
  obtain ⟨mb, hmb⟩ : ∃ mb, mb = s1.m := ⟨_, rfl⟩
  rw [← hmb]
  have HMB := hidp hmb
  clear hM1 hb1 hS1 hm1 HN hmb
  go_wp2
  go_loopw [12] (fun i wr => ∃ j : Nat, j ≤ l.length ∧ i = .int .i64 j ∧ Hid (∃ S s, s.m = mb ∧ (∀ i, S i → w.heap.size ≤ i) ∧ MapIs D S wr s (insW (l.take j)) ∧ Below w.heap.size w wr)) (fun i _ => l.length - (intOf i).toNat)
  case atStart => exact ⟨0, Nat.zero_le _, rfl, hidp ⟨S1, s1, HMB.out.symm, HM1.out.2.2.1, HM1.out.1, HM1.out.2.1⟩⟩
  case round =>
    obtain ⟨j, hj, rfl, HR⟩ := hrel
    obtain ⟨S, s, hm, hS, hM, hb⟩ := HR.out
    clear HR
    by_cases hlt : j < l.length
    · obtain ⟨x, hx⟩ : ∃ x, l[j]? = some x := ⟨l[j], List.getElem?_eq_getElem hlt⟩
      obtain ⟨b, off, rfl, hbl, cx, cy⟩ := HC.out j x hx
      have cx' : wr.cell? ⟨b, off + j * 2, none⟩ = some (.string x.1) := (hb.cell (p := ⟨b, off + j * 2, none⟩) hbl).trans cx
      have cy' : wr.cell? ⟨b, off + j * 2 + 1, none⟩ = some (.int .i64 x.2) := (hb.cell (p := ⟨b, off + j * 2 + 1, none⟩) hbl).trans cy
      have hlen : (insW (l.take j)).length ≤ 100000000000 := by
        have := insW_length (l.take j)
        simp only [List.length_take] at this; omega
      have hM2 : MapIs D S (wr.alloc (.cells #[.string x.1, .int .i64 x.2] 38)) s (insW (l.take j)) := ⟨hM.rep.alloc _, hM.srt, hM.cnt, hM.mm, hM.tree⟩
      have hins := SI.set_is hD hD2 hM2 hlen x
      rw [hm] at hins
      have HI := hidp hins
      have HT : Hid (put SI.lt (insW (l.take j)) x = insW (l.take (j + 1))) := hidp (insW_take hx).symm
      have HMm := hidp hm
      have HS := hidp hS
      have HBL := hidp (hb.alloc hb.size (.cells #[.string x.1, .int .i64 x.2] 38))
      have jlt : (j : Int) < (l.length : Int) := by omega
      have hsz : w.heap.size ≤ wr.heap.size := hb.size
      clear hS hM hM2 hb hins hx cx cy hlen hm
      go_wp2_with fail
      refine HI.out.mono ?_
      intro e w2 hp
      obtain ⟨vv, bb, rfl⟩ := hp.form
      obtain ⟨S', s', _, hE, hM', hm', _⟩ := hp
      have hS' : ∀ i, S' i → w.heap.size ≤ i := fun i hi => (hE.new i hi).elim (HS.out i) (fun h => by rw [World.size_alloc] at h; omega)
      have HN := hidp (And.intro hM' (And.intro hm' (And.intro hS' (HBL.out.trans (hE.below (by rw [World.size_alloc]; omega) HS.out)))))
      clear hE hM' hm' hS' HI
      go_wp2
      go_roundw
      case rel => exact ⟨j + 1, by omega, by go_num, hidp ⟨S', s', HN.out.2.1.trans HMm.out, HN.out.2.2.1, by rw [← HT.out]; exact HN.out.1, HN.out.2.2.2⟩⟩
      case measure => simp [intOf]; omega
    · obtain rfl : j = l.length := by omega
      have HF := hidp (And.intro hm (And.intro hM (And.intro hb hS)))
      clear hm hM hb hS
      go_wp2
      go_ret
      refine ⟨S, s, by rw [HF.out.1]; rfl, ?_, HF.out.2.2⟩
      have := HF.out.2.1
      rwa [List.take_length] at this

theorem kv_strs (l : List Wd) : kv l = (l.map (·.1)).map Value.string := by simp [kv]
theorem vv_ints (l : List Wd) : vv l = (l.map (·.2)).map (Value.int .i64) := by simp [vv]

/-- Two lists of the call's own: strings and numbers. -/
def PostSI (w : World) (ks : List ByteArray) (vs : List Int) (e : Ending) (w' : World) : Prop := ∃ u v, e = .returned (.tuple #[u, v]) ∧ Strs w' u ks ∧ Ints w' v vs ∧ Below w.heap.size w w'

/-- 'WKeyValues' -/
theorem wkv_is {D : Nat} (hD : 2 ≤ D) (hD2 : D ≤ 400) {v : Value} {l : List Wd} (hv : Wds w v l) (hl : l.length ≤ 4294967296) :
    Calls Try.prog 17 #[.int .i64 D, v] w (PostSI w ((insW l).map (·.1)) ((insW l).map (·.2))) := by
  have HG := hidp (grow_is hD hD2 hv hl)
  clear hv
  go_enter Try.func17, Try.ntmps17
  go_wp2_with fail
  refine HG.out.mono ?_
  rintro e w1 ⟨S, s, rfl, hM, hb, _⟩
  have hlen : (insW l).length ≤ 1000000000000 := by have := insW_length l; omega
  have HK := hidp (KeyValues_is hM hlen)
  have HB := hidp hb
  clear hM hb HG
  go_wp2_with fail
  refine HK.out.mono ?_
  rintro e w2 ⟨u2, v2, rfl, ⟨g1, g2, r1, r2, _⟩, hb2⟩
  rw [kv_strs] at r1
  rw [vv_ints] at r2
  have h1 : Strs w2 u2 ((insW l).map (·.1)) := Row.sls (by rw [List.length_map] at r1; exact r1)
  have h2 : Ints w2 v2 ((insW l).map (·.2)) := Row.sls (by rw [List.length_map] at r2; exact r2)
  have HF := hidp (And.intro h1 (And.intro h2 (HB.out.trans (hb2.mono HB.out.size))))
  clear h1 h2 r1 r2 hb2 HK
  go_wp2
  go_ret2
  exact ⟨u2, v2, rfl, HF.out.1, HF.out.2.1, HF.out.2.2⟩

/-- 'WKeys' of the program -/
theorem iwkeys_is {D : Nat} (hD : 2 ≤ D) (hD2 : D ≤ 400) {v : Value} {l : List Wd} (hv : Wds w v l) (hl : l.length ≤ 4294967296) :
    Calls Try.prog 25 #[.int .i64 D, v] w (fun e w' => ∃ u, e = .returned u ∧ Strs w' u ((insW l).map (·.1)) ∧ Below w.heap.size w w') := by
  have HG := hidp (grow_is hD hD2 hv hl)
  clear hv
  go_enter Try.func25, Try.ntmps25
  go_wp2_with fail
  refine HG.out.mono ?_
  rintro e w1 ⟨S, s, rfl, hM, hb, _⟩
  have hlen : (insW l).length ≤ 1000000000000 := by have := insW_length l; omega
  have HK := hidp (keys_is hM hlen)
  have HB := hidp hb
  clear hM hb HG
  go_wp2_with fail
  refine HK.out.mono ?_
  rintro e w2 ⟨u2, rfl, hown, hb2⟩
  rw [kv_strs] at hown
  have h1 : Strs w2 u2 ((insW l).map (·.1)) := Sls.own (by rw [List.length_map] at hown; exact hown)
  have HF := hidp (And.intro h1 (HB.out.trans (hb2.mono HB.out.size)))
  clear h1 hown hb2 HK
  go_wp2
  go_ret
  exact ⟨u2, rfl, HF.out.1, HF.out.2⟩

/-- 'zzFits9' -/
theorem fits9_is (x : Wd) (hx : x.1.size ≤ 9223372036854775807) : Calls Try.prog 58 #[.agg #[.string x.1, .int .i64 x.2]] w (fun e w' => e = .returned (.bool (decide (x.1.size ≤ 2147483647))) ∧ Below w.heap.size w w') := by
  have HB := hidp ((Below.refl w.heap.size w).alloc (Nat.le_refl _) (.cells #[.string x.1, .int .i64 x.2] 38))
  by_cases hs : 2147483647 < x.1.size
  · have hd : decide (x.1.size ≤ 2147483647) = false := decide_eq_false (by omega)
    rw [hd]
    clear hd
    go_enter Try.func58, Try.ntmps58
    go_wp2
    go_ret
    exact ⟨rfl, HB.out⟩
  · have hd : decide (x.1.size ≤ 2147483647) = true := decide_eq_true (by omega)
    rw [hd]
    clear hd
    go_enter Try.func58, Try.ntmps58
    go_wp2
    go_ret
    exact ⟨rfl, HB.out⟩

/-- 'zzFits8' -/
def fits8 (l : List Wd) : Bool := decide (l.length ≤ 2147483647) && l.all fun x => decide (x.1.size ≤ 2147483647)
theorem fits8_take {l : List Wd} {j : Nat} {x : Wd} (h : l[j]? = some x) : (l.take (j + 1)).all (fun x => decide (x.1.size ≤ 2147483647)) = ((l.take j).all (fun x => decide (x.1.size ≤ 2147483647)) && decide (x.1.size ≤ 2147483647)) := by
  rw [List.take_add_one, h, List.all_append]; simp
set_option maxHeartbeats 1000000 in
theorem fits8_is {v : Value} {l : List Wd} (hv : Wds w v l) (hl : l.length ≤ 9223372036854775807) (hx9 : ∀ x ∈ l, x.1.size ≤ 9223372036854775807) : Calls Try.prog 14 #[v] w (fun e w' => e = .returned (.bool (fits8 l)) ∧ Below w.heap.size w w') := by
  obtain ⟨a, cap, rfl, hc⟩ := hv.at
  have HC := hidp hc
  have HX := hidp hx9
  clear hc hx9 hv
  by_cases hbig : 2147483647 < l.length
  · have e1 : fits8 l = false := by unfold fits8; rw [decide_eq_false (by omega)]; rfl
    rw [e1]
    clear e1
    go_enter Try.func14, Try.ntmps14
    go_wp2
    go_ret
    exact ⟨rfl, Below.refl _ _⟩
  · have e1 : fits8 l = l.all fun x => decide (x.1.size ≤ 2147483647) := by unfold fits8; rw [decide_eq_true (by omega)]; rfl
    rw [e1]
    clear e1
    go_enter Try.func14, Try.ntmps14
    go_wp2
    go_loopw [10] (fun i wr => ∃ j : Nat, j ≤ l.length ∧ i = .int .i64 j ∧ Hid ((l.take j).all (fun x => decide (x.1.size ≤ 2147483647)) = true ∧ Below w.heap.size w wr)) (fun i _ => l.length - (intOf i).toNat)
    case atStart => exact ⟨0, Nat.zero_le _, rfl, hidp ⟨by simp, Below.refl _ _⟩⟩
    case round =>
      obtain ⟨j, hj, rfl, HR⟩ := hrel
      by_cases hlt : j < l.length
      · obtain ⟨x, hx⟩ : ∃ x, l[j]? = some x := ⟨l[j], List.getElem?_eq_getElem hlt⟩
        obtain ⟨b, off, rfl, hbl, cx, cy⟩ := HC.out j x hx
        have hb := HR.out.2
        have cx' : wr.cell? ⟨b, off + j * 2, none⟩ = some (.string x.1) := (hb.cell (p := ⟨b, off + j * 2, none⟩) hbl).trans cx
        have cy' : wr.cell? ⟨b, off + j * 2 + 1, none⟩ = some (.int .i64 x.2) := (hb.cell (p := ⟨b, off + j * 2 + 1, none⟩) hbl).trans cy
        have hs9 := HX.out x (List.mem_of_getElem? hx)
        have HF9 := hidp (fits9_is (w := wr.alloc (.cells #[.string x.1, .int .i64 x.2] 38)) x hs9)
        have HT := hidp (fits8_take hx)
        have HM := hidp (List.mem_of_getElem? hx)
        have jlt : (j : Int) < (l.length : Int) := by omega
        have HBL := hidp (hb.alloc hb.size (.cells #[.string x.1, .int .i64 x.2] 38))
        have hsz : w.heap.size ≤ wr.heap.size := hb.size
        clear hx hs9 cx cy hb
        by_cases hs : 2147483647 < x.1.size
        · have hd : decide (x.1.size ≤ 2147483647) = false := decide_eq_false (by omega)
          rw [hd] at HF9
          have e2 : (l.all fun x => decide (x.1.size ≤ 2147483647)) = false := by
            rw [List.all_eq_false]
            exact ⟨x, HM.out, by simpa using hs⟩
          have E2 := hidp e2
          clear hd e2
          go_wp2_with fail
          refine HF9.out.mono ?_
          rintro e w2 ⟨rfl, hb2⟩
          have HB2 := hidp (HBL.out.trans (hb2.mono (by rw [World.size_alloc]; omega)))
          clear hb2 HF9
          go_wp2
          go_ret
          exact ⟨by rw [E2.out]; rfl, HB2.out⟩
        · have hd : decide (x.1.size ≤ 2147483647) = true := decide_eq_true (by omega)
          rw [hd] at HF9 HT
          clear hd
          go_wp2_with fail
          refine HF9.out.mono ?_
          rintro e w2 ⟨rfl, hb2⟩
          have HB2 := hidp (HBL.out.trans (hb2.mono (by rw [World.size_alloc]; omega)))
          clear hb2 HF9
          go_wp2
          go_roundw
          case rel => exact ⟨j + 1, by omega, by go_num, hidp ⟨by rw [HT.out, HR.out.1]; rfl, HB2.out⟩⟩
          case measure => simp [intOf]; omega
      · obtain rfl : j = l.length := by omega
        go_wp2
        go_ret
        have := HR.out.1
        rw [List.take_length] at this
        exact ⟨by rw [this]; rfl, HR.out.2⟩

/-- 'fit' -/
def fitB (d : Int) : Bool := decide (2 ≤ d) && decide (d ≤ 128)
theorem fit_is (d : Int) (h1 : -9223372036854775808 ≤ d) (h2 : d ≤ 9223372036854775807) : Calls Try.prog 15 #[.int .i64 d] w (fun e w' => e = .returned (.bool (fitB d)) ∧ w = w') := by
  have hF : 0 < d → Calls Try.prog 59 #[.int .i64 d] w (fun e w' => e = .returned (.bool (fitB d)) ∧ w = w') := fun h0 => by
    have hd0 : (d == 0) = false := beq_eq_false_iff_ne.2 (by omega)
    by_cases ha : 2 ≤ d
    · by_cases hb : d ≤ 128
      · have e : fitB d = true := by unfold fitB; rw [decide_eq_true ha, decide_eq_true hb]; rfl
        rw [e]; clear e
        go_enter Try.func59, Try.ntmps59
        go_wp2
        go_ret
        exact ⟨rfl, rfl⟩
      · have e : fitB d = false := by unfold fitB; rw [decide_eq_true ha, decide_eq_false hb]; rfl
        rw [e]; clear e
        go_enter Try.func59, Try.ntmps59
        go_wp2
        go_ret
        exact ⟨rfl, rfl⟩
    · have e : fitB d = false := by unfold fitB; rw [decide_eq_false ha]; rfl
      rw [e]; clear e
      go_enter Try.func59, Try.ntmps59
      go_wp2
      go_ret
      exact ⟨rfl, rfl⟩
  by_cases h0 : 0 < d
  · have HF := hidp (hF h0)
    clear hF
    go_enter Try.func15, Try.ntmps15
    go_wp2_with fail
    refine HF.out.mono ?_
    rintro e w' ⟨rfl, rfl⟩
    clear HF
    go_wp2
    go_ret
    exact ⟨rfl, rfl⟩
  · have e : fitB d = false := by unfold fitB; rw [decide_eq_false (by omega)]; rfl
    rw [e]
    clear hF e
    go_enter Try.func15, Try.ntmps15
    go_wp2
    go_ret
    exact ⟨rfl, rfl⟩
end Go.Proofs.Ytbfaldccnaekeaa.Bt.W
