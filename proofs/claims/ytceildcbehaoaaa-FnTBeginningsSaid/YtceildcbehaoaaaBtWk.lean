/- The reference over words: Words, WKeys. -/
import Derived.Test.YtceildcbehaoaaaBtTb
namespace Go.Proofs.Ytceildcbehaoaaa.Bt.W
set_option linter.unusedVariables false
set_option linter.unusedSimpArgs false
open Go Go.RowKit Go.Proofs.Ytceildcbehaoaaa.Bt

variable {w : World}

theorem infoT : (Try.prog.info? 9).map (fun i => (i.zero, i.size, i.bytes)) = some (some (.string ByteArray.empty), 1, 16) := by kernel_rfl

/-- Words are those of a map. -/
def PostW (w : World) (m : List Wd) (e : Ending) (w' : World) : Prop := ∃ u g, e = .returned u ∧ Row 2 w' u m.length (itemCells EW m) g ∧ (∀ b, g = some b → w.heap.size ≤ b) ∧ Below w.heap.size w w'
def PostS (w : World) (m : List ByteArray) (e : Ending) (w' : World) : Prop := ∃ u g, e = .returned u ∧ Row 1 w' u m.length (m.map Value.string) g ∧ (∀ b, g = some b → w.heap.size ≤ b) ∧ Below w.heap.size w w'

/-- 'Words' -/
theorem words_is {v : Value} {l : List Wd} (hv : Wds w v l) (hl : l.length ≤ 4294967296) :
    Calls Try.prog 74 #[v] w (PostW w (insW l)) := by
  have HW := hidp (wset_is hv hl)
  clear hv
  go_enter Try.func74, Try.ntmps74
  go_wp2_with fail
  refine HW.out.mono ?_
  rintro e w' ⟨o, u, k, g, rfl, hr, hg, hb⟩
  have HF := hidp (And.intro hr (And.intro hg hb))
  clear hr hg hb HW
  go_wp2
  go_ret
  exact ⟨u, g, rfl, HF.out.1, HF.out.2.1, HF.out.2.2⟩

/-- A step of a list that grows, behind what is laid in its round. -/
theorem app_below {B : Nat} {w wr wa w' : World} {g : Option Nat} (hb : Below B w wr) (hB : B ≤ wr.heap.size) (hg : ∀ b, g = some b → B ≤ b) (ha : Below B wr wa) (hF : Fr (fun k => g = some k) wa w') : Below B w w' :=
  (hb.trans ha).trans (hF.below (Nat.le_trans hB ha.size) (fun i h => hg i h))
theorem app_ge {B n : Nat} {g : Option Nat} {g' : Nat} (h : g = some g' ∨ n ≤ g') (hB : B ≤ n) (hg : ∀ b, g = some b → B ≤ b) : ∀ b, some g' = some b → B ≤ b := by
  intro b hb; cases hb
  rcases h with h | h
  · exact hg _ h
  · exact Nat.le_trans hB h

set_option maxHeartbeats 2000000 in
set_option maxRecDepth 100000 in
/-- 'WKeys' -/
theorem wkeys_is {v : Value} {l : List Wd} (hv : Wds w v l) (hl : l.length ≤ 4294967296) :
    Calls Try.prog 52 #[v] w (PostS w ((insW l).map (·.1))) := by
  have HW := hidp (words_is hv hl)
  have hlen := insW_length l
  clear hv
  obtain ⟨i0, hi0, hz0, hz1, hz2⟩ := info_parts infoT
  have HI0 := hidp hi0
  have HZ0 := hidp hz0
  have HZ1 := hidp hz1
  have HZ2 := hidp hz2
  clear hi0 hz0 hz1 hz2
  go_enter Try.func52, Try.ntmps52
  go_wp2_with fail
  refine HW.out.mono ?_
  rintro e w1 ⟨u, g, rfl, hr, _, hb1⟩
  clear HW
  obtain ⟨m, hm⟩ : ∃ m, m = insW l := ⟨_, rfl⟩
  rw [← hm] at hr hlen
  have HM := hidp hm
  clear hm
  have hs1 : w.heap.size ≤ w1.heap.size := hb1.size
  have HB1 := hidp hb1
  obtain ⟨a, cap, rfl, hc⟩ := Wds.of_row hr
  have hc' : ∀ j x, m[j]? = some x → ∃ b off, a = some ⟨b, off, none⟩ ∧ b < w1.heap.size ∧ w1.cell? ⟨b, off + j * 2, none⟩ = some (.string x.1) ∧ w1.cell? ⟨b, off + j * 2 + 1, none⟩ = some (.int .i64 x.2) := fun j x hx => by
    obtain ⟨b, off, e, h1, h2⟩ := hc j x hx
    exact ⟨b, off, e, World.block_lt_of_cell? w1 _ h1, h1, h2⟩
  have HC := hidp hc'
  clear hc hc' hr hb1
  go_wp2
  go_loopw [3, 9] (fun uk i wr => ∃ j : Nat, j ≤ m.length ∧ i = .int .i64 j ∧ Hid (∃ g, Row 1 wr uk j ((m.map fun x => Value.string x.1).take j) g ∧ (∀ b, g = some b → w1.heap.size ≤ b) ∧ Below w1.heap.size w1 wr)) (fun _ i _ => m.length - (intOf i).toNat)
  case atStart => exact ⟨0, Nat.zero_le _, rfl, hidp ⟨none, Row.nil _ _, (fun b h => by cases h), Below.refl _ _⟩⟩
  case round =>
    obtain ⟨j, hj, rfl, HR⟩ := hrel
    obtain ⟨g, r, hg, hb⟩ := HR.out
    clear HR
    by_cases hlt : j < m.length
    · obtain ⟨x, hx⟩ : ∃ x, m[j]? = some x := ⟨m[j], List.getElem?_eq_getElem hlt⟩
      obtain ⟨b, off, rfl, hbl, cx, cy⟩ := HC.out j x hx
      have cx' : wr.cell? ⟨b, off + j * 2, none⟩ = some (.string x.1) := (hb.cell (p := ⟨b, off + j * 2, none⟩) hbl).trans cx
      have cy' : wr.cell? ⟨b, off + j * 2 + 1, none⟩ = some (.int .i64 x.2) := (hb.cell (p := ⟨b, off + j * 2 + 1, none⟩) hbl).trans cy
      have jlt : (j : Int) < (m.length : Int) := by omega
      have HT : Hid ((m.map fun x => Value.string x.1).take (j + 1) = (m.map fun x => Value.string x.1).take j ++ [.string x.1]) := hidp (by rw [List.take_add_one, List.getElem?_map, hx]; simp)
      have hsr : w1.heap.size ≤ wr.heap.size := hb.size
      have HR := hidp (And.intro r (And.intro hg hb))
      clear hx cx cy r hg hb
      go_wp2_with (at_builtin; go_must (refine wpList_row rfl (.tmp 13) (.tmp 16) _ rfl 9 i0 _ 1 16 Try.underlying23 HI0.out HZ0.out HZ1.out HZ2.out rfl (by decide) u3 j _ g rfl ((HR.out.1.alloc _).alloc _) ⟨wr.heap.size + 1, 0, none⟩ 1 1 [.string x.1] rfl (by decide) rfl (fun q u hq => by rw [Addr.add_lit, Nat.zero_add]; have h := (Bx.new (wr.alloc (.cells #[.string x.1, .int .i64 x.2] 64)) [.string x.1] 9).cell q hq; rw [World.size_alloc] at h; exact h) (by simp [Value.oneCell']) (by unfold maxLen; omega) (by omega) ?_))
      intro v2 w2 g2 hr2 hg2 hF2
      have HN := hidp (And.intro hr2 (And.intro (app_ge hg2 (by omega) HR.out.2.1) (app_below HR.out.2.2 hsr HR.out.2.1 (((Below.refl _ _).alloc hsr _).alloc (by rw [World.size_alloc]; omega) _) hF2)))
      clear hr2 hg2 hF2 HR
      go_wp2
      go_roundw
      case rel => exact ⟨j + 1, by omega, by go_num, hidp ⟨_, by rw [HT.out]; exact HN.out.1, HN.out.2.1, HN.out.2.2⟩⟩
      case measure => simp [intOf]; omega
    · obtain rfl : j = m.length := by omega
      rw [List.take_of_length_le (by simp)] at r
      have HF := hidp (And.intro r (And.intro hg hb))
      clear r hg hb
      go_wp2
      go_ret
      refine ⟨_, g, rfl, ?_, fun b h => Nat.le_trans hs1 (HF.out.2.1 b h), HB1.out.trans (HF.out.2.2.mono hs1)⟩
      have := HF.out.1
      rw [← HM.out, List.length_map, List.map_map]; exact this
end Go.Proofs.Ytceildcbehaoaaa.Bt.W
