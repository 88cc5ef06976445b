/- The reference over words: Named, TKeys. -/
import Derived.Test.YtceildcbehaoaaaBtWk
import Derived.Test.YtceildcbehaoaaaBtTa
namespace Go.Proofs.Ytceildcbehaoaaa.Bt.W
set_option linter.unusedVariables false
set_option linter.unusedSimpArgs false
open Go Go.RowKit Go.Proofs.Ytceildcbehaoaaa.Bt
open Go.Proofs.Ytceildcbehaoaaa.Bt.T (set its Made fits)

variable {w : World}

/-- The words of keys. -/
def nam (l : List ByteArray) : List Wd := l.map fun k => (k, 0)
set_option maxHeartbeats 2000000 in
set_option maxRecDepth 100000 in
/-- 'Named' -/
theorem named_is {v : Value} {l : List ByteArray} (hv : Strs w v l) (hl : l.length ≤ 4294967296) :
    Calls Try.prog 47 #[v] w (PostW w (nam l)) := by
  obtain ⟨a, cap, rfl, hc⟩ := hv.at
  have HC := hidp hc
  clear hc hv
  obtain ⟨i0, hi0, hz0, hz1, hz2⟩ := info_parts infoW
  have HI0 := hidp hi0
  have HZ0 := hidp hz0
  have HZ1 := hidp hz1
  have HZ2 := hidp hz2
  clear hi0 hz0 hz1 hz2
  go_enter Try.func47, Try.ntmps47
  go_wp2
  go_loopw [3, 8] (fun uk i wr => ∃ j : Nat, j ≤ l.length ∧ i = .int .i64 j ∧ Hid (∃ g, Row 2 wr uk j (itemCells EW (nam (l.take j))) g ∧ (∀ b, g = some b → w.heap.size ≤ b) ∧ Below w.heap.size w wr)) (fun _ i _ => l.length - (intOf i).toNat)
  case atStart => exact ⟨0, Nat.zero_le _, rfl, hidp ⟨none, Row.nil _ _, (fun b h => by cases h), Below.refl _ _⟩⟩
  case round =>
    obtain ⟨j, hj, rfl, HR⟩ := hrel
    obtain ⟨g, r, hg, hb⟩ := HR.out
    clear HR
    by_cases hlt : j < l.length
    · obtain ⟨x, hx⟩ : ∃ x, l[j]? = some x := ⟨l[j], List.getElem?_eq_getElem hlt⟩
      obtain ⟨b, off, rfl, hbl, cx⟩ := HC.out j x hx
      have cx' : wr.cell? ⟨b, off + j, none⟩ = some (.string x) := (hb.cell (p := ⟨b, off + j, none⟩) hbl).trans cx
      have jlt : (j : Int) < (l.length : Int) := by omega
      have HT : Hid (itemCells EW (nam (l.take (j + 1))) = itemCells EW (nam (l.take j)) ++ [.string x, .int .i64 0]) := hidp (by rw [List.take_add_one, hx]; simp [nam, itemCells, EW])
      have hsr : w.heap.size ≤ wr.heap.size := hb.size
      have HR := hidp (And.intro r (And.intro hg hb))
      clear hx cx r hg hb
      go_wp2_with (at_builtin; go_must (refine wpList_row rfl (.tmp 12) (.tmp 15) _ rfl 64 i0 _ 2 24 Try.underlying59 HI0.out HZ0.out HZ1.out HZ2.out rfl (by decide) u3 j _ g rfl (HR.out.1.alloc _) ⟨wr.heap.size, 0, none⟩ 1 1 [.string x, .int .i64 0] rfl (by decide) rfl (fun q u hq => by rw [Addr.add_lit, Nat.zero_add]; exact (Bx.new wr [.string x, .int .i64 0] 64).cell q hq) (by simp [Value.oneCell']) (by unfold maxLen; omega) (by omega) ?_))
      intro v2 w2 g2 hr2 hg2 hF2
      have HN := hidp (And.intro hr2 (And.intro (app_ge hg2 (by omega) HR.out.2.1) (app_below HR.out.2.2 hsr HR.out.2.1 ((Below.refl _ _).alloc hsr _) hF2)))
      clear hr2 hg2 hF2 HR
      go_wp2
      go_roundw
      case rel => exact ⟨j + 1, by omega, by go_num, hidp ⟨_, by rw [HT.out]; exact HN.out.1, HN.out.2.1, HN.out.2.2⟩⟩
      case measure => simp [intOf]; omega
    · obtain rfl : j = l.length := by omega
      rw [List.take_length] at r
      have HF := hidp (And.intro r (And.intro hg hb))
      clear r hg hb
      go_wp2
      go_ret
      refine ⟨_, g, rfl, ?_, HF.out.2.1, HF.out.2.2⟩
      have := HF.out.1
      have e : (nam l).length = l.length := by simp [nam]
      rw [e]; exact this

/-- The keys of words and of texts are the same. -/
theorem fst_put {l : List Wd} {m : List Go.Proofs.Ytceildcbehaoaaa.Bt.SU.It} {k : ByteArray} {n : Int} (h : l.map (·.1) = m.map (·.1)) : (put wlt l (k, n)).map (·.1) = (put Go.Proofs.Ytceildcbehaoaaa.Bt.SU.lt m (k, ())).map (·.1) := by
  have hp : pos wlt l (k, n) = pos Go.Proofs.Ytceildcbehaoaaa.Bt.SU.lt m (k, ()) := by
    have e1 : pos wlt l (k, n) = ((l.map (·.1)).takeWhile fun y => Op.bytesLess y.toList k.toList).length := by
      unfold pos; rw [List.takeWhile_map, List.length_map]; rfl
    have e2 : pos Go.Proofs.Ytceildcbehaoaaa.Bt.SU.lt m (k, ()) = ((m.map (·.1)).takeWhile fun y => Op.bytesLess y.toList k.toList).length := by
      unfold pos; rw [List.takeWhile_map, List.length_map]; rfl
    rw [e1, e2, h]
  have hf : fnd wlt l (k, n) = fnd Go.Proofs.Ytceildcbehaoaaa.Bt.SU.lt m (k, ()) := by
    have e1 : fnd wlt l (k, n) = match (l.map (·.1))[pos wlt l (k, n)]? with | some y => !Op.bytesLess k.toList y.toList | none => false := by
      unfold fnd; rw [List.getElem?_map]; cases l[pos wlt l (k, n)]? <;> rfl
    have e2 : fnd Go.Proofs.Ytceildcbehaoaaa.Bt.SU.lt m (k, ()) = match (m.map (·.1))[pos Go.Proofs.Ytceildcbehaoaaa.Bt.SU.lt m (k, ())]? with | some y => !Op.bytesLess k.toList y.toList | none => false := by
      unfold fnd; rw [List.getElem?_map]; cases m[pos Go.Proofs.Ytceildcbehaoaaa.Bt.SU.lt m (k, ())]? <;> rfl
    rw [e1, e2, h, hp]
  unfold put
  rw [hf, hp]
  simp only [List.map_append, List.map_cons, List.map_take, List.map_drop, h]
theorem set_nam (l : List ByteArray) : (insW (nam l)).map (·.1) = T.set l := by
  unfold T.set insW Go.Proofs.Ytceildcbehaoaaa.Bt.SU.ins nam its
  have key : ∀ (l : List ByteArray) (a : List Wd) (b : List Go.Proofs.Ytceildcbehaoaaa.Bt.SU.It), a.map (·.1) = b.map (·.1) → ((l.map fun k => ((k, 0) : Wd)).foldl (fun acc x => put wlt acc x) a).map (·.1) = ((l.map fun k => ((k, ()) : Go.Proofs.Ytceildcbehaoaaa.Bt.SU.It)).foldl (fun acc x => put Go.Proofs.Ytceildcbehaoaaa.Bt.SU.lt acc x) b).map (·.1) := by
    intro l
    induction l with
    | nil => intro a b h; exact h
    | cons k l ih =>
      intro a b h
      simp only [List.map_cons, List.foldl_cons]
      exact ih _ _ (fst_put h)
  exact key l [] [] rfl

/-- 'TKeys' -/
theorem tkeys_is {v : Value} {l : List ByteArray} (hv : Strs w v l) (hl : l.length ≤ 4294967296) :
    Calls Try.prog 18 #[v] w (PostS w (T.set l)) := by
  have HW := hidp (named_is hv hl)
  clear hv
  go_enter Try.func18, Try.ntmps18
  go_wp2_with fail
  refine HW.out.mono ?_
  rintro e w1 ⟨u, g, rfl, hr, _, hb1⟩
  have hs1 : w.heap.size ≤ w1.heap.size := hb1.size
  have HB1 := hidp hb1
  have HK := hidp (wkeys_is (Wds.of_row hr) (by simp [nam]; exact hl))
  clear hr hb1 HW
  go_wp2_with fail
  refine HK.out.mono ?_
  rintro e w2 ⟨u2, g2, rfl, hr2, hg2, hb2⟩
  rw [set_nam] at hr2
  have HF := hidp (And.intro hr2 (And.intro hg2 hb2))
  clear hr2 hg2 hb2 HK
  go_wp2
  go_ret
  exact ⟨_, _, rfl, HF.out.1, fun b h => Nat.le_trans hs1 (HF.out.2.1 b h), HB1.out.trans (HF.out.2.2.mono hs1)⟩
end Go.Proofs.Ytceildcbehaoaaa.Bt.W
