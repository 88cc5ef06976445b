/- Maps from numbers to numbers: what the program's own functions make of a list of items. Maps from numbers to numbers: the function that keeps the items that are handed to it. -/
import Derived.Test.YtehnobbiiokcgaaBtIIqn
import Derived.Test.YtehnobbiiokcgaaBtIIn
import Derived.Test.YtehnobbiiokcgaaBtIIp
import Derived.Test.YtehnobbiiokcgaaBtXa
import Derived.Deep.RegionHeld3
import Derived.Test.YtehnobbiiokcgaaBtLast
import Derived.OwnWalk
import Derived.Deep.DeepMust
import Derived.Test.YtehnobbiiokcgaaBtIIs
import Derived.Deep.QuietTactic
import Derived.BigQuiet
namespace Go.Proofs.Ytehnobbiiokcgaa.Bt.P
set_option linter.unusedVariables false
set_option linter.unusedSimpArgs false
open Go Go.RowKit Go.Proofs.Ytehnobbiiokcgaa.Bt
open Go.Proofs.Ytehnobbiiokcgaa.Bt.Last (Y Z)
open _root_.List (setIfInBounds_toArray set_cons_zero set_cons_succ)
open Go.Proofs.Ytehnobbiiokcgaa.Bt.ND (Im Its EI hidp)
open Go.Proofs.Ytehnobbiiokcgaa.Bt.II (MapIs ins newMap_is keys_is kv)

variable {w : World}

theorem its_get {v : Value} {l : List Im} (h : Its w v l) : ∃ a cap, v = .slice a l.length cap ∧ l.length ≤ cap ∧ ∀ wr, Below w.heap.size w wr → ∀ j x, l[j]? = some x → ∃ b off, a = some ⟨b, off, none⟩ ∧ wr.cell? ⟨b, off + j * 2, none⟩ = some (.int .i64 x.1) ∧ wr.cell? ⟨b, off + j * 2 + 1, none⟩ = some (.int .i64 x.2) := by
  obtain ⟨a, cap, rfl, hlc, hc⟩ := h
  refine ⟨a, cap, rfl, hlc, fun wr hb j x hx => ?_⟩
  obtain ⟨b, off, e, h1, h2⟩ := hc j x hx
  exact ⟨b, off, e, (hb.cell (p := ⟨b, off + j * 2, none⟩) (World.block_lt_of_cell? w _ h1)).trans h1, (hb.cell (p := ⟨b, off + j * 2 + 1, none⟩) (World.block_lt_of_cell? w _ h2)).trans h2⟩

set_option maxHeartbeats 1000000 in
set_option maxRecDepth 100000 in
/-- 'growMap' -/
theorem grow_is {D : Nat} (hD : 2 ≤ D) (hD2 : D ≤ 400) {v : Value} {l : List Im} (hv : Its w v l) (hl : l.length ≤ 4294967296) :
    Calls Try.prog 70 #[.int .i64 D, v] w (fun e w' => ∃ S s, e = .returned (.pointer (some ⟨s.m, 0, none⟩)) ∧ MapIs D S w' s (ins l) ∧ Below w.heap.size w w' ∧ ∀ i, S i → w.heap.size ≤ i) := by
  obtain ⟨a, cap, rfl, _, hc⟩ := its_get hv
  have HC := hidp hc
  have HN := hidp (newMap_is (w := w) hD (by omega))
  clear hc hv
  go_enter Try.func70, Try.ntmps70
  go_wp2_with fail
  refine HN.out.mono ?_
  rintro e w1 ⟨S1, s1, rfl, hM1, hb1, hS1, hm1⟩
  have HM1 := hidp (And.intro hM1 (And.intro hb1 (And.intro hS1 hm1)))
  obtain ⟨mb, hmb⟩ : ∃ mb, mb = s1.m := ⟨_, rfl⟩
  rw [← hmb]
  have HMB := hidp hmb
  clear hM1 hb1 hS1 hm1 HN hmb
  go_wp2
  go_loopw [12] (fun i wr => ∃ j : Nat, j ≤ l.length ∧ i = .int .i64 j ∧ Hid (∃ S s, s.m = mb ∧ (∀ i, S i → w.heap.size ≤ i) ∧ MapIs D S wr s (ins (l.take j)) ∧ Below w.heap.size w wr)) (fun i _ => l.length - (intOf i).toNat)
  case atStart => exact ⟨0, Nat.zero_le _, rfl, hidp ⟨S1, s1, HMB.out.symm, HM1.out.2.2.1, HM1.out.1, HM1.out.2.1⟩⟩
  case round =>
    obtain ⟨j, hj, rfl, HR⟩ := hrel
    obtain ⟨S, s, hm, hS, hM, hb⟩ := HR.out
    clear HR
    by_cases hlt : j < l.length
    · obtain ⟨x, hx⟩ : ∃ x, l[j]? = some x := ⟨l[j], List.getElem?_eq_getElem hlt⟩
      obtain ⟨b, off, rfl, cx', cy'⟩ := HC.out wr hb j x hx
      have hlen : (ins (l.take j)).length ≤ 100000000000 := by
        have := II.ins_length (l.take j)
        simp only [List.length_take] at this; omega
      have hM2 : MapIs D S (wr.alloc (.cells #[.int .i64 x.1, .int .i64 x.2] 35)) s (ins (l.take j)) := ⟨hM.rep.alloc _, hM.srt, hM.cnt, hM.mm, hM.tree⟩
      have hins := II.set_is hD hD2 hM2 hlen x
      rw [hm] at hins
      have HI := hidp hins
      have HT : Hid (put II.lt (ins (l.take j)) x = ins (l.take (j + 1))) := hidp (II.ins_take hx).symm
      have HMm := hidp hm
      have HS := hidp hS
      have HBL := hidp (hb.alloc hb.size (.cells #[.int .i64 x.1, .int .i64 x.2] 35))
      have jlt : (j : Int) < (l.length : Int) := by omega
      have hsz : w.heap.size ≤ wr.heap.size := hb.size
      clear hS hM hM2 hb hins hx hlen hm
      go_wp2_with fail
      refine HI.out.mono ?_
      intro e w2 hp
      obtain ⟨vv, bb, rfl⟩ := hp.form
      obtain ⟨S', s', _, hE, hM', hm', _⟩ := hp
      have hS' : ∀ i, S' i → w.heap.size ≤ i := fun i hi => (hE.new i hi).elim (HS.out i) (fun h => by rw [World.size_alloc] at h; omega)
      have HN := hidp (And.intro hM' (And.intro hm' (And.intro hS' (HBL.out.trans (hE.below (by rw [World.size_alloc]; omega) HS.out)))))
      clear hE hM' hm' hS' HI
      go_wp2
      go_roundw
      case rel => exact ⟨j + 1, by omega, by go_num, hidp ⟨S', s', HN.out.2.1.trans HMm.out, HN.out.2.2.1, by rw [← HT.out]; exact HN.out.1, HN.out.2.2.2⟩⟩
      case measure => simp [intOf]; omega
    · obtain rfl : j = l.length := by omega
      have HF := hidp (And.intro hm (And.intro hM (And.intro hb hS)))
      clear hm hM hb hS
      go_wp2
      go_ret
      refine ⟨S, s, by rw [HF.out.1]; rfl, ?_, HF.out.2.2⟩
      have := HF.out.2.1
      rwa [List.take_length] at this

theorem kv_ints (l : List Im) : kv l = (l.map (·.1)).map (Value.int .i64) := by simp [kv]

/-- 'MKeys' -/
theorem mkeys_is {D : Nat} (hD : 2 ≤ D) (hD2 : D ≤ 400) {v : Value} {l : List Im} (hv : Its w v l) (hl : l.length ≤ 4294967296) :
    Calls Try.prog 68 #[.int .i64 D, v] w (fun e w' => ∃ u, e = .returned u ∧ Ints w' u ((ins l).map (·.1)) ∧ Below w.heap.size w w') := by
  have HG := hidp (grow_is hD hD2 hv hl)
  clear hv
  go_enter Try.func68, Try.ntmps68
  go_wp2_with fail
  refine HG.out.mono ?_
  rintro e w1 ⟨S, s, rfl, hM, hb, _⟩
  have hlen : (ins l).length ≤ 1000000000000 := by have := II.ins_length l; omega
  have HK := hidp (keys_is hM hlen)
  have HB := hidp hb
  clear hM hb HG
  go_wp2_with fail
  refine HK.out.mono ?_
  rintro e w2 ⟨u2, rfl, hown, hb2⟩
  rw [kv_ints] at hown
  have h1 : Ints w2 u2 ((ins l).map (·.1)) := Sls.own (by rw [List.length_map] at hown; exact hown)
  have HF := hidp (And.intro h1 (HB.out.trans (hb2.mono HB.out.size)))
  clear h1 hown hb2 HK
  go_wp2
  go_ret
  exact ⟨u2, rfl, HF.out.1, HF.out.2⟩

/-- The items of the example. -/
def exI : List Im := [(5, 1), (3, 2), (9, 3)]
def exIC : List Value := [.int .i64 5, .int .i64 1, .int .i64 3, .int .i64 2, .int .i64 9, .int .i64 3, .int .i64 3, .int .i64 4, .int .i64 1, .int .i64 5, .int .i64 7, .int .i64 6, .int .i64 8, .int .i64 7]
theorem exI_len : ((ins exI).map (·.1)).length = 3 := by kernel_rfl
theorem exItems_is : Calls Try.prog 69 #[] w (fun e w' => e = .returned (.slice (some ⟨w.heap.size, 0, none⟩) 7 7) ∧ w' = w.alloc (.cells exIC.toArray 35)) := by
  go_enter Try.func69, Try.ntmps69
  go_wp2
  go_ret
  exact ⟨rfl, rfl⟩
theorem exI_its : Its (w.alloc (.cells exIC.toArray 35)) (.slice (some ⟨w.heap.size, 0, none⟩) 3 7) exI := by
  have hB := Bx.new w exIC 35
  refine ⟨_, 7, rfl, by decide, fun j x hx => ⟨_, 0, rfl, ?_⟩⟩
  match j, hx with
  | 0, hx => obtain rfl := Option.some.inj hx; exact ⟨hB.cell 0 rfl, hB.cell 1 rfl⟩
  | 1, hx => obtain rfl := Option.some.inj hx; exact ⟨hB.cell 2 rfl, hB.cell 3 rfl⟩
  | 2, hx => obtain rfl := Option.some.inj hx; exact ⟨hB.cell 4 rfl, hB.cell 5 rfl⟩
  | j + 3, hx => cases hx

set_option maxRecDepth 100000 in
/-- 'aliveM' -/
theorem alivem_is : Calls Try.prog 32 #[] w (fun e w' => e = .returned (.bool true) ∧ Below w.heap.size w w') := by
  have HI := hidp (mkeys_is (D := 2) (by decide) (by decide) (exI_its (w := w)) (by decide))
  have HE := hidp (exItems_is (w := w))
  have HB := hidp ((Below.refl w.heap.size w).alloc (Nat.le_refl _) (.cells exIC.toArray 35))
  go_enter Try.func32, Try.ntmps32
  go_wp2_with fail
  refine HE.out.mono ?_
  rintro e w1 ⟨rfl, rfl⟩
  clear HE
  have hsz : w.heap.size ≤ (w.alloc (.cells exIC.toArray 35)).heap.size := by rw [World.size_alloc]; omega
  generalize w.alloc (.cells exIC.toArray 35) = w1 at HI HB hsz ⊢
  go_wp2_with fail
  refine HI.out.mono ?_
  rintro e w2 ⟨u, rfl, hs, hb⟩
  obtain ⟨a, cap, rfl, _⟩ := hs
  rw [exI_len]
  have HF := hidp (HB.out.trans (hb.mono hsz))
  clear hb HI
  go_wp2
  go_ret
  exact ⟨rfl, HF.out⟩
end Go.Proofs.Ytehnobbiiokcgaa.Bt.P

namespace Go.Proofs.Ytehnobbiiokcgaa.Bt.P
set_option linter.unusedVariables false
set_option linter.unusedSimpArgs false
open Go Go.RowKit Go.Proofs.Ytehnobbiiokcgaa.Bt
open Go.Proofs.Ytehnobbiiokcgaa.Bt.Last (Y Z)
open _root_.List (setIfInBounds_toArray set_cons_zero set_cons_succ)
open Go.Proofs.Ytehnobbiiokcgaa.Bt.ND (Im Its EI hidp step_row)

/-- How many calls the function bears: one, or any number. -/
def nOne (one : Bool) : Int := if one then 1 else 0

variable {w : World}

/-- The variable in block bo holds a list of the call's own, made behind B, of the items xs. -/
def Tk (B bo : Nat) (w : World) (xs : List Im) : Prop := bo < B ∧ B ≤ w.heap.size ∧ ∃ u g, Bx w bo [u] ∧ Row 2 w u xs.length (itemCells EI xs) g ∧ ∀ b, g = some b → B ≤ b
/-- Where the function looks: its variables. -/
def Tw (one : Bool) (B bo bx bn : Nat) (w : World) : Prop := bx < B ∧ bn < B ∧ bx ≠ bo ∧ bn ≠ bo ∧ w.cell? ⟨bx, 0, none⟩ = some (.pointer (some ⟨bo, 0, none⟩)) ∧ w.cell? ⟨bn, 0, none⟩ = some (.int .i64 (nOne one))
def FrT (B bo : Nat) (w w' : World) : Prop := Fr (fun k => k = bo ∨ B ≤ k) w w'

theorem Tk.drewN {B bo : Nat} {xs : List Im} (h : Tk B bo w xs) (n : Nat) : Tk B bo (w.drewN n) xs := by
  obtain ⟨h1, h2, u, g, h3, h4, h5⟩ := h
  exact ⟨h1, h2, u, g, h3.drewN n, h4.drewN n, h5⟩
theorem Tk.drew {B bo : Nat} {xs : List Im} (h : Tk B bo w xs) : Tk B bo w.drew xs := by
  obtain ⟨h1, h2, u, g, h3, h4, h5⟩ := h
  exact ⟨h1, h2, u, g, h3.drew, h4.drew, h5⟩
theorem FrT.trans {B bo : Nat} {a b c : World} (h : FrT B bo a b) (k : FrT B bo b c) : FrT B bo a c := Fr.trans h k (fun _ hi => .inl hi)
theorem FrT.refl {B bo : Nat} {a : World} : FrT B bo a a := Fr.refl _ _
theorem Tw.fr {one : Bool} {B bo bx bn : Nat} {w' : World} (h : Tw one B bo bx bn w) (hB : B ≤ w.heap.size) (hf : FrT B bo w w') : Tw one B bo bx bn w' := by
  obtain ⟨h1, h2, h3, h4, h5, h6⟩ := h
  refine ⟨h1, h2, h3, h4, ?_, ?_⟩
  · rw [Fr.cell hf (x := ⟨bx, 0, none⟩) (Nat.lt_of_lt_of_le h1 hB) (fun h => h.elim h3 (fun h => absurd h1 (Nat.not_lt.2 h)))]; exact h5
  · rw [Fr.cell hf (x := ⟨bn, 0, none⟩) (Nat.lt_of_lt_of_le h2 hB) (fun h => h.elim h4 (fun h => absurd h2 (Nat.not_lt.2 h)))]; exact h6

def TkPost (one : Bool) (B bo : Nat) (w : World) (xs : List Im) (e : Ending) (w' : World) : Prop := e = .returned (.bool (!one)) ∧ Tk B bo w' xs ∧ FrT B bo w w'

theorem itemCells_snoc (xs : List Im) (x : Im) : itemCells EI (xs ++ [x]) = itemCells EI xs ++ [.int .i64 x.1, .int .i64 x.2] := by
  rw [itemCells_append]; rfl

/-- The list, one item longer, is stored. -/
theorem Tk.step {B bo : Nat} {w1 : World} {xs : List Im} {x : Im} {u v : Value} {g : Option Nat} {g' : Nat} {wz : World} (h1 : bo < B) (h2 : B ≤ w.heap.size) (hu : Bx w bo [u]) (hg : ∀ b, g = some b → B ≤ b)
    (hr : Row 2 w1 v (xs.length + 1) (itemCells EI xs ++ [.int .i64 x.1, .int .i64 x.2]) (some g')) (hz : Fr (fun _ => False) w wz) (hg' : g = some g' ∨ wz.heap.size ≤ g') (hF : Fr (fun k => g = some k) wz w1) :
    Tk B bo (w1.setCell ⟨bo, 0, none⟩ v) (xs ++ [x]) ∧ FrT B bo w (w1.setCell ⟨bo, 0, none⟩ v) := by
  have hlt : bo < w.heap.size := Nat.lt_of_lt_of_le h1 h2
  have hgb : B ≤ g' := by
    rcases hg' with h | h
    · exact hg _ h
    · have := hz.size; omega
  have hb1 : Bx w1 bo [u] := (hu.keep hz (fun h => h)).keep hF (fun h => by have := hg _ h; omega)
  have hs : (M w1 bo 0).isSome = true := by rw [hb1.2 0 u rfl]; rfl
  have hF0 : FrT B bo w w1 := Fr.trans (hz.mono (fun _ h => h.elim)) hF (fun i hi => .inl (.inr (hg i hi)))
  have hfr : FrT B bo w (w1.setCell ⟨bo, 0, none⟩ v) := Fr.trans hF0 (Fr.setCell w1 bo 0 v) (fun i hi => .inl (.inl hi))
  refine ⟨⟨h1, Nat.le_trans h2 hfr.size, v, some g', ?_, ?_, fun b hb => by rw [← Option.some.inj hb]; exact hgb⟩, hfr⟩
  · exact ⟨Nat.lt_of_lt_of_le hlt hfr.size, fun j y hj => by
      rcases j with _ | j
      · rw [M_setCell _ _ hs, if_pos ⟨rfl, rfl⟩]; exact hj
      · simp at hj⟩
  · rw [itemCells_snoc, List.length_append]
    exact hr.keep (Fr.setCell w1 bo 0 v) (fun b hb h => by have := Option.some.inj hb; omega)

set_option maxHeartbeats 1000000 in
set_option maxRecDepth 100000 in
/-- What 'taker' makes. -/
theorem take_is {one : Bool} {B bo bx bn : Nat} {xs : List Im} (hT : Tk B bo w xs) (hW : Tw one B bo bx bn w) (hl : xs.length ≤ 1000000000000) (x : Im) :
    Calls Try.prog 114 #[.agg #[.int .i64 x.1, .int .i64 x.2], .pointer (some ⟨bx, 0, none⟩), .pointer (some ⟨bn, 0, none⟩)] w (TkPost one B bo w (xs ++ [x])) := by
  obtain ⟨hb1, hb2, u, g, hu, hr, hg⟩ := hT
  obtain ⟨hx1, hn1, hx2, hn2, cx, cn⟩ := hW
  obtain ⟨i0, hi0, hz0, hz1, hz2⟩ := info_parts ND.infoM
  have HI0 := hidp hi0
  have HZ0 := hidp hz0
  have HZ1 := hidp hz1
  have HZ2 := hidp hz2
  have cb := hu.cell 0 rfl
  have cbf := hu.froz 0 rfl
  have HCX := hidp (And.intro cx cn)
  have HU := hidp hu
  have HR := hidp hr
  have HG := hidp hg
  obtain ⟨a, cap, rfl⟩ := hr.len
  clear hi0 hz0 hz1 hz2 hu hr hg
  go_enter Try.func114, Try.ntmps114
  go_wp2_with fail
  refine Last.start_ (S := fun w' => w'.cell? ⟨bx, 0, none⟩ = some (.pointer (some ⟨bo, 0, none⟩)) ∧ w'.cell? ⟨bo, 0, none⟩ = some (.slice a xs.length cap) ∧ w'.cell? ⟨w.heap.size, 0, none⟩ = some (.int .i64 x.1) ∧ w'.cell? ⟨w.heap.size, 1, none⟩ = some (.int .i64 x.2)) (ds := [8]) #[Z,Z,Z,Z,Z,Z,Z,Z,Z] (by rfl) (by rfl) (by rfl) ?_ (fun hHeld => ?_)
  · go_keep
  refine Last.tk 0 5 #[Y,Z,Z,Z,Z,Z,Z,Z,Z] rfl rfl hHeld ?_
  refine Last.tk 1 6 #[Y,Y,Z,Z,Z,Z,Z,Z,Z] rfl rfl hHeld ?_
  refine Last.tk 2 7 #[Y,Y,Y,Z,Z,Z,Z,Z,Z] rfl rfl hHeld ?_
  refine Last.tk 3 8 #[Y,Y,Y,Y,Z,Z,Z,Z,Z] rfl rfl hHeld ?_
  refine Last.tk 4 9 #[Y,Y,Y,Y,Y,Z,Z,Z,Z] rfl rfl hHeld ?_
  refine Last.one_ (i := 5) (N := some 10) #[Y,Y,Y,Y,Y,Y,Z,Z,Z] rfl rfl (by kernel_rfl) (by decide) (fun K hK => ?_)
  go_simp
  refine hK.out _ _ ?_ (fun hHeld => ?_)
  · (try dsimp only); go_keep
  clear hK K
  try simp only [Act.put, setIfInBounds_toArray, set_cons_zero, set_cons_succ]
  refine Last.one_ (i := 6) (N := some 11) #[Y,Y,Y,Y,Y,Y,Y,Z,Z] rfl rfl (by kernel_rfl) (by decide) (fun K hK => ?_)
  refine step_row (by rfl) _ _ _ (by rfl) 35 i0 _ 2 16 Try.underlying22 HI0.out HZ0.out HZ1.out HZ2.out (by rfl) (by decide) (.slice a xs.length cap) xs.length (itemCells EI xs) g (by rfl) (((HR.out.alloc _).drew).alloc _) ⟨w.heap.size + 1, 0, none⟩ 1 1 [.int .i64 x.1, .int .i64 x.2] (by simp [Act.eval]) (by decide) (by rfl) ?hc (by simp [Value.oneCell']) (by unfold maxLen; omega) (by omega) ?_
  case hc => exact fun q u hq => by rw [Addr.add_lit, Nat.zero_add]; have h := (Bx.new ((w.alloc (.cells #[.int .i64 x.1, .int .i64 x.2] 35)).drew) [.int .i64 x.1, .int .i64 x.2] 35).cell q hq; rw [show ((w.alloc (.cells #[.int .i64 x.1, .int .i64 x.2] 35)).drew).heap.size = w.heap.size + 1 from by simp [World.drew]] at h; exact h
  intro v' w1 g' hr1 hg1 hF1
  obtain ⟨a', cap', rfl⟩ := hr1.len
  have hz : Fr (fun _ => False) w (((w.alloc (.cells #[.int .i64 x.1, .int .i64 x.2] 35)).drew).alloc (.cells #[.int .i64 x.1, .int .i64 x.2] 35)) := (((Fr.refl (fun _ => False) w).alloc _).drew).alloc _
  have HST := hidp (Tk.step hb1 hb2 HU.out HG.out hr1 hz hg1 hF1)
  have hw1 : Fr (fun k => g = some k) w w1 := (hz.mono (fun _ h => h.elim)).trans hF1 (fun i hi => .inl hi)
  have k1 := (hw1.cell (x := ⟨bx, 0, none⟩) (Nat.lt_of_lt_of_le hx1 hb2) (fun h => by have := HG.out _ h; exact absurd hx1 (Nat.not_lt.2 this))).trans cx
  have kn := (hw1.cell (x := ⟨bn, 0, none⟩) (Nat.lt_of_lt_of_le hn1 hb2) (fun h => by have := HG.out _ h; exact absurd hn1 (Nat.not_lt.2 this))).trans cn
  have k2 := (hw1.cell (x := ⟨bo, 0, none⟩) (Nat.lt_of_lt_of_le hb1 hb2) (fun h => by have := HG.out _ h; exact absurd hb1 (Nat.not_lt.2 this))).trans cb
  have k2f := (hw1.froz (x := ⟨bo, 0, none⟩) (Nat.lt_of_lt_of_le hb1 hb2) (fun h => by have := HG.out _ h; exact absurd hb1 (Nat.not_lt.2 this))).trans cbf
  have hne : ¬ g = some w.heap.size := fun h => by have h2 := HR.out; rw [h] at h2; exact absurd h2.lt (Nat.lt_irrefl _)
  have hbx := (((Bx.new w [.int .i64 x.1, .int .i64 x.2] 35).drew).alloc (.cells #[.int .i64 x.1, .int .i64 x.2] 35)).keep hF1 hne
  have k3 := hbx.cell 0 rfl
  have k4 := hbx.cell 1 rfl
  clear hr1 hg1 hF1 hz hw1 hbx hne
  refine hK.out _ _ ?_ (fun hHeld => ?_)
  · (try dsimp only); go_keep
  clear hK K
  try simp only [Act.put, setIfInBounds_toArray, set_cons_zero, set_cons_succ]
  refine Last.tk 7 12 #[Y,Y,Y,Y,Y,Y,Y,Y,Z] rfl rfl hHeld ?_
  refine Last.last_ (i := 8) (N := none) #[Y,Y,Y,Y,Y,Y,Y,Y,Y] rfl rfl (by kernel_rfl) (by decide) (fun K hK => ?_)
  go_simp
  refine hK.out _ _ ?_
  clear hK K
  try simp only [Act.put, setIfInBounds_toArray, set_cons_zero, set_cons_succ]
  refine Last.done_ (by kernel_rfl) ?_
  clear cx cb cbf HR HU k2 k2f k3 k4 k1 kn
  have hW0 : Tw one B bo bx bn w := ⟨hx1, hn1, hx2, hn2, HCX.out.1, HCX.out.2⟩
  obtain ⟨_, _, _, _, q5, q6⟩ := hW0.fr hb2 HST.out.2
  obtain ⟨_, _, u2, g2, hu2, hr2, _⟩ := HST.out.1
  obtain ⟨a2, c2, rfl⟩ := hr2.len
  have q7 := hu2.cell 0 rfl
  clear hu2 hr2 hW0
  generalize (w1.setCell ⟨bo, 0, none⟩ (.slice a' (xs.length + 1) cap')) = wF at HST q5 q6 q7 ⊢
  cases one with
  | false =>
    simp only [nOne, Bool.false_eq_true, if_false] at q6
    clear q5 q7
    go_wp2
    go_quiet (fail)
    go_wp2
    go_ret
    exact ⟨rfl, HST.out.1.drewN nq, Fr.drewN HST.out.2 nq⟩
  | true =>
    simp only [nOne, if_true] at q6
    obtain ⟨N, hN⟩ : ∃ N, N = (xs ++ [x]).length := ⟨_, rfl⟩
    rw [← hN] at q7
    have hN1 : decide ((N : Int) < 1) = false := decide_eq_false (by rw [hN, List.length_append]; simp; omega)
    clear hN
    go_wp2
    go_quiet (fail)
    go_wp2
    go_ret
    exact ⟨rfl, HST.out.1.drewN nq, Fr.drewN HST.out.2 nq⟩

/-- What 'pairs' makes: where it looks. -/
def Wf (one : Bool) (B bo bt : Nat) (w : World) : Prop := bt < B ∧ bt ≠ bo ∧ ∃ bx bn, Tw one B bo bx bn w ∧ w.cell? ⟨bt, 0, none⟩ = some (.func (.func 114) #[] #[.pointer (some ⟨bx, 0, none⟩), .pointer (some ⟨bn, 0, none⟩)])
theorem Wf.drew {one : Bool} {B bo bt : Nat} (h : Wf one B bo bt w) : Wf one B bo bt w.drew := h
theorem Wf.fr {one : Bool} {B bo bt : Nat} {w' : World} (h : Wf one B bo bt w) (hB : B ≤ w.heap.size) (hf : FrT B bo w w') : Wf one B bo bt w' := by
  obtain ⟨h1, h2, bx, bn, h3, h4⟩ := h
  refine ⟨h1, h2, bx, bn, h3.fr hB hf, ?_⟩
  rw [Fr.cell hf (x := ⟨bt, 0, none⟩) (Nat.lt_of_lt_of_le h1 hB) (fun h => h.elim h2 (fun h => absurd h1 (Nat.not_lt.2 h)))]; exact h4

set_option maxHeartbeats 1000000 in
set_option maxRecDepth 100000 in
/-- The function that 'pairs' returns. -/
theorem item_is {one : Bool} {B bo bt : Nat} {xs : List Im} (hT : Tk B bo w xs) (hW : Wf one B bo bt w) (hl : xs.length ≤ 1000000000000) (x : Im) :
    Calls Try.prog 104 #[.int .i64 x.1, .int .i64 x.2, .pointer (some ⟨bt, 0, none⟩)] w (TkPost one B bo w (xs ++ [x])) := by
  obtain ⟨h1, h2, bx, bn, h3, h4⟩ := hW
  have HC := hidp (take_is hT h3 hl x)
  clear hT h3
  go_enter Try.func104, Try.ntmps104
  go_wp2_with (go_at_call 114; refine HC.out.mono ?_; rintro e w1 ⟨rfl, hT1, hF1⟩)
  go_ret
  exact ⟨rfl, hT1, hF1⟩

/-- 'taker' -/
theorem taker_is {bo : Nat} (one : Bool) :
    Calls Try.prog 103 #[.pointer (some ⟨bo, 0, none⟩), .int .i64 (nOne one)] w (fun e w' => e = .returned (.func (.func 114) #[] #[.pointer (some ⟨w.heap.size, 0, none⟩), .pointer (some ⟨w.heap.size + 1, 0, none⟩)]) ∧
      Bx w' w.heap.size [.pointer (some ⟨bo, 0, none⟩)] ∧ Bx w' (w.heap.size + 1) [.int .i64 (nOne one)] ∧ Fr (fun _ => False) w w') := by
  go_enter Try.func103, Try.ntmps103
  go_wp2
  go_ret
  refine ⟨rfl, (Bx.new w [.pointer (some ⟨bo, 0, none⟩)] _).alloc _, ?_, ((Fr.refl (fun _ => False) w).alloc _).alloc _⟩
  have h := Bx.new (w.alloc (.cells #[.pointer (some ⟨bo, 0, none⟩)] 113)) [.int .i64 (nOne one)] 3
  rw [World.size_alloc] at h; exact h

set_option maxHeartbeats 1000000 in
/-- 'pairs' -/
theorem pairs_is {bo : Nat} (one : Bool) (hb : bo < w.heap.size) :
    Calls Try.prog 72 #[.pointer (some ⟨bo, 0, none⟩), .int .i64 (nOne one)] w (fun e w' => ∃ bt, e = .returned (.func (.func 104) #[] #[.pointer (some ⟨bt, 0, none⟩)]) ∧ Wf one w'.heap.size bo bt w' ∧ Fr (fun _ => False) w w') := by
  have HT := hidp (taker_is (w := w) (bo := bo) one)
  have hsf : ∀ (a : Addr) (f : Fn) (x y : Array Value) (m : Mode) (w : World), (store a (.func f x y) m).run Try.prog w = stored Try.prog w a (.func f x y) m := fun a f x y m w => run_store Try.prog w a (.func f x y) m rfl
  go_enter Try.func72, Try.ntmps72
  go_wp2_with fail
  refine HT.out.mono ?_
  rintro e w1 ⟨rfl, hx, hn, hF⟩
  have HX := hidp (And.intro hx (And.intro hn hF))
  clear hx hn hF HT
  go_wp2
  go_ret
  obtain ⟨hx, hn, hF⟩ := HX.out
  refine ⟨_, rfl, ⟨?_, ?_, w.heap.size, w.heap.size + 1, ⟨?_, ?_, ?_, ?_, (hx.alloc _).cell 0 rfl, (hn.alloc _).cell 0 rfl⟩, ?_⟩, hF.alloc _⟩
  · simp
  · have := hF.size; omega
  · have := hx.1; simp; omega
  · have := hn.1; simp; omega
  · omega
  · omega
  · exact (Bx.new w1 [.func (.func 114) #[] #[.pointer (some ⟨w.heap.size, 0, none⟩), .pointer (some ⟨w.heap.size + 1, 0, none⟩)]] _).cell 0 rfl

/-- The function as one that keeps what it is handed. -/
theorem pairs_fn {one : Bool} {S : Nat → Prop} {s : Sto II.It} {B bo bt : Nat} (hS : ∀ i, S i → i < B ∧ i ≠ bo) :
    II.Fn S s 104 #[.pointer (some ⟨bt, 0, none⟩)] (FrT B bo) (fun xs w => Tk B bo w xs ∧ Wf one B bo bt w) (fun _ => !one) 1000000000000 where
  eg := enters_of Try.func104 (by kernel_rfl) rfl
  refl w := FrT.refl
  trans a b c h k := h.trans k
  drew w w' h := Fr.drew h
  keep w w' R hf := R.keep hf (fun i hi h => h.elim (hS i hi).2 (fun h => absurd (hS i hi).1 (Nat.not_lt.2 h)))
  qdrew xs w h := ⟨h.1.drew, h.2.drew⟩
  call xs y w hq R hl := by
    obtain ⟨h1, h2⟩ := hq
    refine (item_is h1 h2 (by omega) y).mono ?_
    rintro e w' ⟨he, hT, hF⟩
    exact ⟨he, ⟨hT, h2.fr h1.2.1 hF⟩, hF⟩
theorem visit_all (l : List Im) : ∀ xs, II.visit (fun _ => true) xs l = (xs ++ l, true) := by
  induction l with
  | nil => intro xs; simp [II.visit]
  | cons y l ih => intro xs; simp [II.visit, ih]
/-- The variable of a function's own, with no items yet, as 'pairs' has it. -/
theorem Tk.start {bo : Nat} {w1 w2 : World} (hb : bo < w1.heap.size) (hx : Bx w1 bo [.slice none 0 0]) (hF : Fr (fun _ => False) w1 w2) : Tk w2.heap.size bo w2 [] :=
  ⟨Nat.lt_of_lt_of_le hb hF.size, Nat.le_refl _, _, none, hx.keep hF (fun h => h), Row.nil _ _, fun b h => by cases h⟩
end Go.Proofs.Ytehnobbiiokcgaa.Bt.P
