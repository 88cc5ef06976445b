/- Maps from numbers to numbers: MDelete; spec.Colors; slices.Equal of bytes. A row of cells that are painted, as a sorted list of the places where a color begins (no program). A row of cells that are painted: spec.Colors. -/
import Derived.Test.YtehnobbiiokcgaaBtBe
import Derived.Test.YtehnobbiiokcgaaBtIId6
import Derived.Test.YtehnobbiiokcgaaBtNew
import Derived.Laws.MakeOwn
namespace Go.Proofs.Ytehnobbiiokcgaa.Bt.P
set_option linter.unusedVariables false
set_option linter.unusedSimpArgs false
open Go Go.RowKit Go.Proofs.Ytehnobbiiokcgaa.Bt
open Go.Proofs.Ytehnobbiiokcgaa.Bt.ND (Im Its EI hidp step_row fdv pair_is)
open Go.Proofs.Ytehnobbiiokcgaa.Bt.II (MapIs ins flr from_ lt ord)

variable {w : World}

/-- Items without those of some keys. -/
def dels (l : List Im) (ks : List Int) : List Im := ks.foldl (fun acc k => cut lt acc (k, 0)) l
theorem dels_take {l : List Im} {ks : List Int} {j : Nat} {k : Int} (h : ks[j]? = some k) : dels l (ks.take (j + 1)) = cut lt (dels l (ks.take j)) (k, 0) := by
  unfold dels; rw [List.take_add_one, h, List.foldl_append]; rfl
theorem dels_length (l : List Im) (ks : List Int) : (dels l ks).length ≤ l.length := by
  have key : ∀ (ks : List Int) (l : List Im), (ks.foldl (fun acc k => cut lt acc (k, 0)) l).length ≤ l.length := by
    intro ks
    induction ks with
    | nil => intro l; exact Nat.le_refl _
    | cons k ks ih =>
      intro l
      refine Nat.le_trans (ih _) ?_
      exact (II.cut_sub l (k, 0)).length_le
  exact key ks l

set_option maxHeartbeats 2000000 in
set_option maxRecDepth 100000 in
/-- 'MDelete' -/
theorem mdelete_is {D : Nat} (hD : 2 ≤ D) (hD2 : D ≤ 400) {v kv : Value} {l : List Im} {ks : List Int} (hv : Its w v l) (hl : l.length ≤ 4294967296) (hk : Ints w kv ks) (hkl : ks.length ≤ 4294967296) :
    Calls Try.prog 39 #[.int .i64 D, v, kv] w (TwoPost w (dels (ins l) ks)) := by
  have HG := hidp (grow_is (w := w) hD hD2 hv hl)
  have hkb := hk.at
  obtain ⟨a, cap, rfl, hc⟩ := hkb
  have HC := hidp hc
  obtain ⟨i0, hi0, hz0, hz1, hz2⟩ := info_parts infoFd
  have HI0 := hidp hi0
  have HZ0 := hidp hz0
  have HZ1 := hidp hz1
  have HZ2 := hidp hz2
  have hil := II.ins_length l
  clear hc hv hk hi0 hz0 hz1 hz2
  go_enter Try.func39, Try.ntmps39
  go_wp2_with fail
  refine HG.out.mono ?_
  rintro e w1 ⟨S1, s1, rfl, hM1, hb1, hS1⟩
  have HM1 := hidp (And.intro hM1 (And.intro hb1 hS1))
  obtain ⟨mb, hmb⟩ : ∃ mb, mb = s1.m := ⟨_, rfl⟩
  rw [← hmb]
  have HMB := hidp hmb
  clear hM1 hb1 hS1 HG hmb
  go_wp2
  go_loopw [19, 9] (fun i o wr => ∃ j : Nat, j ≤ ks.length ∧ i = .int .i64 j ∧ Hid (∃ S s xs g, s.m = mb ∧ (∀ i, S i → w.heap.size ≤ i) ∧ MapIs D S wr s (dels (ins l) (ks.take j)) ∧ Below w.heap.size w wr ∧ Row 3 wr o j xs g ∧ ∀ b, g = some b → w.heap.size ≤ b ∧ ¬ S b)) (fun i _ _ => ks.length - (intOf i).toNat)
  case atStart => exact ⟨0, Nat.zero_le _, rfl, hidp ⟨S1, s1, [], none, HMB.out.symm, HM1.out.2.2, HM1.out.1, HM1.out.2.1, Row.nil _ _, fun b h => by cases h⟩⟩
  case round =>
    obtain ⟨j, hj, rfl, HR⟩ := hrel
    obtain ⟨S, s, xs, g, hm, hS, hM, hb, hrow, hg⟩ := HR.out
    clear HR
    by_cases hlt : j < ks.length
    · obtain ⟨x, hx⟩ : ∃ x, ks[j]? = some x := ⟨ks[j], List.getElem?_eq_getElem hlt⟩
      obtain ⟨b, off, rfl, hbl, cx⟩ := HC.out j x hx
      have cx' : wr.cell? ⟨b, off + j, none⟩ = some (.int .i64 x) := (hb.cell (p := ⟨b, off + j, none⟩) hbl).trans cx
      have hlen : (dels (ins l) (ks.take j)).length ≤ 100000000000 := by
        have := dels_length (ins l) (ks.take j)
        omega
      have hins := II.delete_is hD hD2 hM hlen (x, 0)
      rw [hm] at hins
      have HI := hidp hins
      have HT : Hid (cut lt (dels (ins l) (ks.take j)) (x, 0) = dels (ins l) (ks.take (j + 1))) := hidp (dels_take hx).symm
      have HMm := hidp hm
      have HS := hidp hS
      have HROW := hidp (And.intro hrow hg)
      have hgl : ∀ k, g = some k → k < wr.heap.size := fun k hk => by rw [hk] at hrow; exact hrow.lt
      have HGL := hidp hgl
      have HBL := hidp hb
      have jlt : (j : Int) < (ks.length : Int) := by omega
      have hsz : w.heap.size ≤ wr.heap.size := hb.size
      obtain ⟨oa, ocap, ho⟩ := hrow.len
      subst ho
      clear hS hM hb hins hx hlen hm hrow hg hgl cx
      go_wp2_with fail
      refine HI.out.mono ?_
      intro e w2 hp
      obtain ⟨vv, bb, rfl⟩ := hp.form
      obtain ⟨S', s', _, hE, hM', hm', _⟩ := hp
      have hS' : ∀ i, S' i → w.heap.size ≤ i := fun i hi => (hE.new i hi).elim (HS.out i) (fun h => by omega)
      have hB2 := HBL.out.trans (hE.below hsz HS.out)
      have hR2 := HROW.out.1.keep hE.fr (fun b hb => (HROW.out.2 b hb).2)
      have hg2 : ∀ b, g = some b → w.heap.size ≤ b ∧ ¬ S' b := fun b hb => ⟨(HROW.out.2 b hb).1, hE.notin (HGL.out b hb) (HROW.out.2 b hb).2⟩
      have HN := hidp (And.intro hM' (And.intro hm' (And.intro hS' (And.intro hB2 (And.intro hR2 hg2)))))
      have HP := hidp (pair_is w2 x vv bb)
      clear hE hM' hm' hS' HI hB2 hR2 hg2 HBL HROW HGL
      go_wp2_with fail
      refine HP.out.mono ?_
      rintro e w3 ⟨rfl, hb3⟩
      obtain ⟨f1, f2, f3, hf⟩ := fdv_form x vv bb
      rw [hf]
      have HN3 := hidp (And.intro (mapIs_below HN.out.1 hb3) (And.intro (ND.Row.below HN.out.2.2.2.2.1 hb3) (HN.out.2.2.2.1.trans (hb3.mono (by have := HN.out.2.2.2.1.size; omega)))))
      clear hb3 HP hf
      go_wp2_with (at_builtin; go_must (refine wpList_row rfl (.tmp 29) (.tmp 34) _ rfl 37 i0 _ 3 24 Try.underlying66 HI0.out HZ0.out HZ1.out HZ2.out rfl (by decide) (.slice oa j ocap) j xs g rfl (HN3.out.2.1.alloc _) ⟨w3.heap.size, 0, none⟩ 1 1 [.int .i64 f1, .int .i64 f2, .bool f3] rfl (by decide) rfl (fun q u hq => by rw [Addr.add_lit, Nat.zero_add]; exact (Bx.new w3 [.int .i64 f1, .int .i64 f2, .bool f3] 37).cell q hq) (by simp [Value.oneCell']) (by unfold maxLen; omega) (by omega) ?_))
      intro v4 w4 g4 hr4 hg4 hF4
      have hM4 : MapIs D S' w4 s' (dels (ins l) (ks.take (j + 1))) := by
        rw [← HT.out]
        have h1 : MapIs D S' (w3.alloc (.cells #[.int .i64 f1, .int .i64 f2, .bool f3] 37)) s' (cut lt (dels (ins l) (ks.take j)) (x, 0)) := HN3.out.1.keep ((Fr.refl (fun _ => False) w3).alloc _) (fun _ _ h => h)
        exact h1.keep hF4 (fun i hi hgi => (HN.out.2.2.2.2.2 i hgi).2 hi)
      have hg4' : ∀ b, some g4 = some b → w.heap.size ≤ b ∧ ¬ S' b := fun b hb => by
        obtain rfl := Option.some.inj hb
        rcases hg4 with h | h
        · exact HN.out.2.2.2.2.2 _ h
        · try rw [World.size_alloc] at h
          exact ⟨by have := HN3.out.2.2.size; omega, fun hs => by have := HN3.out.1.rep.rep.lt _ hs; omega⟩
      have hB4 : Below w.heap.size w w4 := (HN3.out.2.2.alloc HN3.out.2.2.size _).trans (hF4.below (by rw [World.size_alloc]; have := HN3.out.2.2.size; omega) (fun i hi => (HN.out.2.2.2.2.2 i hi).1))
      have HF := hidp (And.intro hM4 (And.intro hr4 (And.intro hg4' hB4)))
      clear hM4 hr4 hg4 hg4' hB4 hF4
      go_wp2
      go_roundw
      case rel => exact ⟨j + 1, by omega, by go_num, hidp ⟨S', s', _, some g4, HN.out.2.1.trans HMm.out, HN.out.2.2.1, HF.out.1, HF.out.2.2.2, HF.out.2.1, HF.out.2.2.1⟩⟩
      case measure => simp [intOf]; omega
    · obtain rfl : j = ks.length := by omega
      rw [List.take_length] at hM
      have hlen : (dels (ins l) ks).length ≤ 1000000000000 := by have := dels_length (ins l) ks; omega
      have hent := entries_is hD2 hM hlen
      rw [hm] at hent
      have HE := hidp hent
      have HF := hidp hb
      clear hm hM hb hS hrow hg hent
      go_wp2_with fail
      refine HE.out.mono ?_
      rintro e w2 ⟨u, g2, rfl, hr2, hg2, hb2⟩
      have HX := hidp (And.intro hr2 (And.intro (fun b hb => Nat.le_trans HF.out.size (hg2 b hb)) (HF.out.trans (hb2.mono HF.out.size))))
      clear hr2 hg2 hb2 HE
      go_wp2
      go_ret2
      exact ⟨_, u, g2, rfl, HX.out.1, HX.out.2.1, HX.out.2.2⟩

/-- A list of bytes. -/
abbrev Byts := Sls (fun n : Nat => Value.int .u8 n)
set_option maxHeartbeats 1000000 in
/-- 'slices.Equal' of the same bytes. -/
theorem equalb_is {v u : Value} {l : List Nat} (hv : Byts w v l) (hu : Byts w u l) (hl : l.length ≤ 9223372036854775807) : Calls Try.prog 40 #[v, u] w (fun e w' => e = .returned (.bool true) ∧ ∃ a, w' = w.drewN a) := by
  obtain ⟨a, cap, rfl, hc⟩ := hv
  obtain ⟨a', cap', rfl, hc'⟩ := hu
  have HC := hidp hc
  have HC' := hidp hc'
  clear hc hc'
  go_enter Try.func40, Try.ntmps40
  go_wp2
  go_loopw [13] (fun i wr => ∃ j n : Nat, j ≤ l.length ∧ i = .int .i64 j ∧ wr = w.drewN n) (fun i _ => l.length - (intOf i).toNat)
  case atStart => exact ⟨0, 0, Nat.zero_le _, rfl, rfl⟩
  case round =>
    obtain ⟨j, n, hj, rfl, rfl⟩ := hrel
    by_cases hlt : j < l.length
    · obtain ⟨x, hx⟩ : ∃ x, l[j]? = some x := ⟨l[j], List.getElem?_eq_getElem hlt⟩
      obtain ⟨b, off, rfl, cx⟩ := HC.out j x hx
      obtain ⟨b', off', rfl, cx'⟩ := HC'.out j x hx
      have jlt : (j : Int) < (l.length : Int) := by omega
      clear hx
      go_wp2
      go_quiet (fail)
      go_wp2
      go_roundw
      case rel => exact ⟨j + 1, _, by omega, by go_num, rfl⟩
      case measure => simp [intOf]; omega
    · obtain rfl : j = l.length := by omega
      go_wp2
      go_ret
      exact ⟨rfl, _, rfl⟩
end Go.Proofs.Ytehnobbiiokcgaa.Bt.P

namespace Go.Proofs.Ytehnobbiiokcgaa.Bt.P
set_option linter.unusedVariables false
set_option linter.unusedSimpArgs false
open Go Go.RowKit Go.Proofs.Ytehnobbiiokcgaa.Bt
open Go.Proofs.Ytehnobbiiokcgaa.Bt.ND (Im)
open Go.Proofs.Ytehnobbiiokcgaa.Bt.II (ins flr from_ lt ord)

theorem parts {l : List Im} (hs : Srt lt l) (x : Im) : ∃ A B, (∀ y ∈ A, y.1 < x.1) ∧ (∀ y ∈ B, x.1 < y.1) ∧ put lt l x = A ++ x :: B ∧ cut lt l x = A ++ B ∧ ((l = A ++ B) ∨ ∃ z, z.1 = x.1 ∧ l = A ++ z :: B) := by
  have hb : ∀ y ∈ l.take (pos lt l x), y.1 < x.1 := fun y hy => by
    obtain ⟨i, hi⟩ := List.mem_iff_getElem?.1 hy
    have hlt := (List.getElem?_eq_some_iff.1 hi).1
    rw [List.length_take] at hlt
    rw [List.getElem?_take_of_lt (by omega)] at hi
    exact lt_iff.1 (pos_before (lt := lt) (x := x) (i := i) (by omega) hi)
  cases hk : look lt l x with
  | none =>
    refine ⟨l.take (pos lt l x), l.drop (pos lt l x), hb, fun y hy => ?_, put_none hk, by rw [cut_none hk, List.take_append_drop], .inl (List.take_append_drop _ _).symm⟩
    obtain ⟨i, hi⟩ := List.mem_iff_getElem?.1 hy
    rw [List.getElem?_drop] at hi
    exact lt_iff.1 (pos_behind ord hs (fnd_none hk) (by omega) hi)
  | some z =>
    obtain ⟨h1, h2, h3⟩ := look_some hk
    have h4 := pos_at (lt := lt) h1
    have e1 := lt_not.1 h2
    have e2 := lt_not.1 h4
    obtain ⟨hil, hie⟩ := List.getElem?_eq_some_iff.1 h1
    have hl : l = l.take (pos lt l x) ++ z :: l.drop (pos lt l x + 1) := by
      conv => lhs; rw [← List.take_append_drop (pos lt l x) l, List.drop_eq_getElem_cons hil, hie]
    refine ⟨l.take (pos lt l x), l.drop (pos lt l x + 1), hb, fun y hy => ?_, ?_, cut_found hk, .inr ⟨z, by omega, hl⟩⟩
    · obtain ⟨i, hi⟩ := List.mem_iff_getElem?.1 hy
      rw [List.getElem?_drop] at hi
      obtain ⟨hjl, hje⟩ := List.getElem?_eq_some_iff.1 hi
      have := List.pairwise_iff_getElem.1 hs (pos lt l x) (pos lt l x + 1 + i) hil hjl (by omega)
      rw [hie, hje] at this
      have := lt_iff.1 this
      omega
    · unfold put; rw [fnd_some hk, if_pos rfl]
theorem put_mem {l : List Im} (hs : Srt lt l) {x y : Im} : y ∈ put lt l x ↔ y = x ∨ (y ∈ l ∧ y.1 ≠ x.1) := by
  obtain ⟨A, B, hA, hB, hp, _, hl⟩ := parts hs x
  rw [hp]
  rcases hl with hl | ⟨z, hz, hl⟩
  · rw [hl]
    simp only [List.mem_append, List.mem_cons]
    constructor
    · rintro (h | h | h)
      · have := hA y h; exact .inr ⟨.inl h, by omega⟩
      · exact .inl h
      · have := hB y h; exact .inr ⟨.inr h, by omega⟩
    · rintro (h | ⟨h | h, _⟩)
      · exact .inr (.inl h)
      · exact .inl h
      · exact .inr (.inr h)
  · rw [hl]
    simp only [List.mem_append, List.mem_cons]
    constructor
    · rintro (h | h | h)
      · have := hA y h; exact .inr ⟨.inl h, by omega⟩
      · exact .inl h
      · have := hB y h; exact .inr ⟨.inr (.inr h), by omega⟩
    · rintro (h | ⟨h | h | h, hn⟩)
      · exact .inr (.inl h)
      · exact .inl h
      · subst h; exact absurd hz hn
      · exact .inr (.inr h)
theorem cut_mem {l : List Im} (hs : Srt lt l) {k : Int} {y : Im} : y ∈ cut lt l (k, 0) ↔ y ∈ l ∧ y.1 ≠ k := by
  obtain ⟨A, B, hA, hB, _, hp, hl⟩ := parts hs (k, 0)
  rw [hp]
  rcases hl with hl | ⟨z, hz, hl⟩
  · rw [hl]
    simp only [List.mem_append]
    constructor
    · rintro (h | h)
      · have := hA y h; simp only at this; exact ⟨.inl h, by omega⟩
      · have := hB y h; simp only at this; exact ⟨.inr h, by omega⟩
    · exact fun h => h.1
  · rw [hl]
    simp only [List.mem_append, List.mem_cons]
    constructor
    · rintro (h | h)
      · have := hA y h; simp only at this; exact ⟨.inl h, by omega⟩
      · have := hB y h; simp only at this; exact ⟨.inr (.inr h), by omega⟩
    · rintro ⟨h | h | h, hn⟩
      · exact .inl h
      · subst h; exact absurd hz hn
      · exact .inr h
theorem dels_mem (ks : List Int) : ∀ {l : List Im}, Srt lt l → ∀ {y : Im}, (y ∈ dels l ks ↔ y ∈ l ∧ y.1 ∉ ks) ∧ Srt lt (dels l ks) := by
  induction ks with
  | nil => intro l hs y; exact ⟨by simp [dels], hs⟩
  | cons k ks ih =>
    intro l hs y
    have hs' : Srt lt (cut lt l (k, 0)) := hs.sublist (II.cut_sub l (k, 0))
    obtain ⟨h1, h2⟩ := ih hs' (y := y)
    have e : dels l (k :: ks) = dels (cut lt l (k, 0)) ks := rfl
    rw [e]
    refine ⟨?_, h2⟩
    rw [h1, cut_mem hs]
    simp only [List.mem_cons, not_or]
    constructor
    · rintro ⟨⟨a, b⟩, c⟩; exact ⟨a, b, c⟩
    · rintro ⟨a, b, c⟩; exact ⟨⟨a, b⟩, c⟩
theorem flr_eq {l : List Im} (hs : Srt lt l) {x y : Im} (hy : y ∈ l) (h1 : y.1 ≤ x.1) (h2 : ∀ z ∈ l, z.1 ≤ x.1 → z.1 ≤ y.1) : flr l x = some y := by
  cases hf : flr l x with
  | none => have := flr_none_iff hs hf y hy; omega
  | some y' =>
    obtain ⟨g1, g2, g3⟩ := flr_some_iff hs hf
    rcases g3 y hy h1 with rfl | h
    · rfl
    · have := h2 y' g1 g2; omega

/-- The color of a cell, from the places where the colors begin. -/
def colorAt (L : List Im) (a : Nat) : Int := L.foldl (fun acc x => if x.1 ≤ (a : Int) then x.2 else acc) 0
theorem color_flr {L : List Im} (hs : Srt lt L) {a : Nat} {y : Im} (h : flr L ((a : Int), 0) = some y) : colorAt L a = y.2 := by
  obtain ⟨h1, h2, h3⟩ := flr_some_iff hs h
  have stay : ∀ (L : List Im) (acc : Int), (∀ z ∈ L, (a : Int) < z.1) → L.foldl (fun acc x => if x.1 ≤ (a : Int) then x.2 else acc) acc = acc := by
    intro L
    induction L with
    | nil => intro acc _; rfl
    | cons z L ih =>
      intro acc hz
      have h0 := hz z (by simp)
      simp only [List.foldl_cons]
      rw [if_neg (by omega)]
      exact ih acc (fun w hw => hz w (by simp [hw]))
  have key : ∀ (L : List Im) (acc : Int), Srt lt L → y ∈ L → (∀ z ∈ L, z.1 ≤ (a : Int) → z = y ∨ z.1 < y.1) → L.foldl (fun acc x => if x.1 ≤ (a : Int) then x.2 else acc) acc = y.2 := by
    intro L
    induction L with
    | nil => intro acc _ hy _; cases hy
    | cons z L ih =>
      intro acc hs hy hz
      simp only [List.foldl_cons]
      by_cases hzy : z = y
      · subst hzy
        simp only at h2
        rw [if_pos h2]
        refine stay L _ (fun w hw => ?_)
        have h5 := lt_iff.1 ((List.pairwise_cons.1 hs).1 w hw)
        by_cases hwa : w.1 ≤ (a : Int)
        · rcases hz w (by simp [hw]) hwa with h6 | h6
          · rw [h6] at h5; omega
          · omega
        · omega
      · have hyL : y ∈ L := by
          rcases List.mem_cons.1 hy with h | h
          · exact absurd h.symm hzy
          · exact h
        exact ih _ (List.pairwise_cons.1 hs).2 hyL (fun w hw => hz w (by simp [hw]))
  exact key L 0 hs h1 h3

/-! ### painting -/
/-- n cells from f on get the color c. -/
def paintN (cs : List Nat) (f c : Nat) : Nat → List Nat
  | 0 => cs
  | n + 1 => (paintN cs f c n).set (f + n) c
theorem paintN_length (cs : List Nat) (f c : Nat) : ∀ n, (paintN cs f c n).length = cs.length
  | 0 => rfl
  | n + 1 => by rw [paintN, List.length_set]; exact paintN_length cs f c n
theorem paintN_get (cs : List Nat) (f c : Nat) : ∀ n, f + n ≤ cs.length → ∀ i, (paintN cs f c n)[i]? = if f ≤ i ∧ i < f + n then some c else cs[i]?
  | 0, _, i => by rw [paintN, if_neg (by omega)]
  | n + 1, h, i => by
    have ih := paintN_get cs f c n (by omega) i
    have hl := paintN_length cs f c n
    rw [paintN, List.getElem?_set]
    by_cases hi : f + n = i
    · rw [if_pos hi, if_pos (by omega), if_pos (by omega)]
    · rw [if_neg hi, ih]
      by_cases h2 : f ≤ i ∧ i < f + n
      · rw [if_pos h2, if_pos (by omega)]
      · rw [if_neg h2, if_neg (by omega)]

/-- The list says which colors the cells have. -/
structure Pic (P : List Im) (cs : List Nat) : Prop where
  srt : Srt lt P
  key : ∀ y ∈ P, 0 ≤ y.1 ∧ y.1 < 256 ∧ 0 ≤ y.2 ∧ y.2 < 256
  len : cs.length = 256
  col : ∀ c ∈ cs, c < 256
  at_ : ∀ (a c : Nat), cs[a]? = some c → ∃ y, flr P ((a : Int), 0) = some y ∧ y.2 = (c : Int)
theorem Pic.start : Pic [(0, 0)] (List.replicate 256 0) := by
  refine ⟨List.pairwise_singleton _ _, fun y hy => ?_, List.length_replicate, fun c hc => ?_, fun a c hc => ?_⟩
  · obtain rfl : y = (0, 0) := by simpa using hy
    exact ⟨by decide, by decide, by decide, by decide⟩
  · rw [(List.mem_replicate.1 hc).2]; decide
  · have hc0 : c = 0 := by
      have := List.mem_of_getElem? hc
      exact (List.mem_replicate.1 this).2
    subst hc0
    exact ⟨(0, 0), flr_eq (List.pairwise_singleton _ _) (by simp) (by show (0 : Int) ≤ (a : Int); omega) (fun z hz _ => by
      have e : z = (0, 0) := by simpa using hz
      rw [e]; exact Int.le_refl _), rfl⟩
theorem Pic.get {P : List Im} {cs : List Nat} (h : Pic P cs) {a : Nat} (ha : a < 256) : ∃ y c, cs[a]? = some c ∧ flr P ((a : Int), 0) = some y ∧ y.2 = (c : Int) ∧ c < 256 := by
  have hc : cs[a]? = some (cs[a]'(by rw [h.len]; exact ha)) := List.getElem?_eq_getElem _
  obtain ⟨y, h1, h2⟩ := h.at_ a _ hc
  exact ⟨y, _, hc, h1, h2, h.col _ (List.mem_of_getElem? hc)⟩
/-- There is a place at or ahead of any cell, and of the end. -/
theorem Pic.floor {P : List Im} {cs : List Nat} (h : Pic P cs) {t : Nat} (ht : t ≤ 256) : ∃ y, flr P ((t : Int), 0) = some y := by
  cases hf : flr P ((t : Int), 0) with
  | some y => exact ⟨y, rfl⟩
  | none =>
    obtain ⟨y, _, _, h1, _⟩ := h.get (a := 0) (by decide)
    obtain ⟨g1, g2, _⟩ := flr_some_iff h.srt h1
    have := flr_none_iff h.srt hf y g1
    simp only at g2 this
    omega
/-- The places of P from f on and ahead of t. -/
def inside (P : List Im) (f t : Nat) : List Int := ((from_ P ((f : Int), 0)).filter (fun y => decide (y.1 < (t : Int)))).map (·.1)
/-- The list behind a stroke. -/
def stroke (P : List Im) (f t c : Nat) (v : Int) : List Im :=
  let R := put lt (dels P (inside P f t)) ((f : Int), (c : Int))
  if t < 256 then put lt R ((t : Int), v) else R

theorem Pic.step {P : List Im} {cs : List Nat} (h : Pic P cs) {f n c : Nat} (hf : f < 256) (hn : f + n ≤ 256) (h0 : 0 < n) (hc : c < 256) {yb : Im} (hyb : flr P (((f + n : Nat) : Int), 0) = some yb) : Pic (stroke P f (f + n) c yb.2) (paintN cs f c n) := by
  obtain ⟨b1, b2, b3⟩ := flr_some_iff h.srt hyb
  obtain ⟨k1, k2, k3, k4⟩ := h.key yb b1
  have hin : ∀ y : Im, y ∈ P → (y.1 ∈ inside P f (f + n) ↔ (f : Int) ≤ y.1 ∧ y.1 < ((f + n : Nat) : Int)) := fun y hy => by
    unfold inside
    rw [List.mem_map]
    constructor
    · rintro ⟨z, hz, e⟩
      obtain ⟨hz1, hz2⟩ := List.mem_filter.1 hz
      have := (from_mem h.srt).1 hz1
      simp only [decide_eq_true_eq] at hz2
      rw [← e]; exact ⟨this.2, hz2⟩
    · rintro ⟨g1, g2⟩
      exact ⟨y, List.mem_filter.2 ⟨(from_mem h.srt).2 ⟨hy, g1⟩, by simpa using g2⟩, rfl⟩
  have hQ : ∀ y : Im, y ∈ dels P (inside P f (f + n)) ↔ y ∈ P ∧ ¬ ((f : Int) ≤ y.1 ∧ y.1 < ((f + n : Nat) : Int)) := fun y => by
    rw [(dels_mem (inside P f (f + n)) h.srt (y := y)).1]
    constructor
    · rintro ⟨g1, g2⟩; exact ⟨g1, fun g => g2 ((hin y g1).2 g)⟩
    · rintro ⟨g1, g2⟩; exact ⟨g1, fun g => g2 ((hin y g1).1 g)⟩
  have hQs : Srt lt (dels P (inside P f (f + n))) := (dels_mem (inside P f (f + n)) h.srt (y := yb)).2
  have hRs := put_srt ord (x := ((f : Int), (c : Int))) hQs
  have hR : ∀ y : Im, y ∈ put lt (dels P (inside P f (f + n))) ((f : Int), (c : Int)) ↔ y = ((f : Int), (c : Int)) ∨ (y ∈ P ∧ ¬ ((f : Int) ≤ y.1 ∧ y.1 < ((f + n : Nat) : Int))) := fun y => by
    rw [put_mem hQs, hQ]
    constructor
    · rintro (g | ⟨g, _⟩)
      · exact .inl g
      · exact .inr g
    · rintro (g | g)
      · exact .inl g
      · refine .inr ⟨g, fun e => g.2 ?_⟩
        simp only at e
        omega
  have hcells : ∀ (a d : Nat), (paintN cs f c n)[a]? = some d → a < 256 ∧ ((f ≤ a ∧ a < f + n) ∧ d = c ∨ (¬ (f ≤ a ∧ a < f + n)) ∧ cs[a]? = some d) := fun a d hd => by
    have hl := (List.getElem?_eq_some_iff.1 hd).1
    rw [paintN_length, h.len] at hl
    rw [paintN_get cs f c n (by rw [h.len]; exact hn)] at hd
    refine ⟨hl, ?_⟩
    split at hd
    · rename_i g; exact .inl ⟨g, (Option.some.inj hd).symm⟩
    · rename_i g; exact .inr ⟨g, hd⟩
  have hcol : ∀ d ∈ paintN cs f c n, d < 256 := fun d hd => by
    obtain ⟨a, ha⟩ := List.mem_iff_getElem?.1 hd
    obtain ⟨_, ⟨_, rfl⟩ | ⟨_, g⟩⟩ := hcells a d ha
    · exact hc
    · exact h.col d (List.mem_of_getElem? g)
  by_cases ht : f + n < 256
  · have hS : ∀ y : Im, y ∈ stroke P f (f + n) c yb.2 ↔ y = (((f + n : Nat) : Int), yb.2) ∨ ((y = ((f : Int), (c : Int)) ∨ (y ∈ P ∧ ¬ ((f : Int) ≤ y.1 ∧ y.1 < ((f + n : Nat) : Int)))) ∧ y.1 ≠ ((f + n : Nat) : Int)) := fun y => by
      unfold stroke; simp only; rw [if_pos ht, put_mem hRs, hR]
    have hSs : Srt lt (stroke P f (f + n) c yb.2) := by unfold stroke; simp only; rw [if_pos ht]; exact put_srt ord hRs
    refine ⟨hSs, fun y hy => ?_, by rw [paintN_length]; exact h.len, hcol, fun a d hd => ?_⟩
    · rcases (hS y).1 hy with rfl | ⟨rfl | ⟨g, _⟩, _⟩
      · exact ⟨by show (0 : Int) ≤ ((f + n : Nat) : Int); omega, by show ((f + n : Nat) : Int) < 256; omega, k3, k4⟩
      · exact ⟨by show (0 : Int) ≤ (f : Int); omega, by show (f : Int) < 256; omega, by show (0 : Int) ≤ (c : Int); omega, by show (c : Int) < 256; omega⟩
      · exact h.key y g
    · obtain ⟨ha, ⟨hin2, rfl⟩ | ⟨hout, hda⟩⟩ := hcells a d hd
      · refine ⟨((f : Int), (d : Int)), flr_eq hSs ((hS _).2 (.inr ⟨.inl rfl, by show (f : Int) ≠ _; omega⟩)) (by show (f : Int) ≤ (a : Int); omega) (fun z hz hza => ?_), rfl⟩
        simp only at hza
        rcases (hS z).1 hz with rfl | ⟨rfl | ⟨_, g2⟩, _⟩
        · simp only at hza; omega
        · exact Int.le_refl _
        · simp only; omega
      · obtain ⟨y, hy, hyd⟩ := h.at_ a d hda
        obtain ⟨y1, y2, y3⟩ := flr_some_iff h.srt hy
        simp only at y2
        by_cases hb : a < f
        · refine ⟨y, flr_eq hSs ((hS _).2 (.inr ⟨.inr ⟨y1, by omega⟩, by omega⟩)) y2 (fun z hz hza => ?_), hyd⟩
          simp only at hza
          rcases (hS z).1 hz with rfl | ⟨rfl | ⟨g1, _⟩, _⟩
          · simp only at hza; omega
          · simp only at hza; omega
          · rcases y3 z g1 hza with rfl | g
            · exact Int.le_refl _
            · omega
        · have hat : f + n ≤ a := by omega
          by_cases hyt : ((f + n : Nat) : Int) < y.1
          · refine ⟨y, flr_eq hSs ((hS _).2 (.inr ⟨.inr ⟨y1, by omega⟩, by omega⟩)) y2 (fun z hz hza => ?_), hyd⟩
            simp only at hza
            rcases (hS z).1 hz with rfl | ⟨rfl | ⟨g1, _⟩, _⟩
            · simp only; omega
            · simp only; omega
            · rcases y3 z g1 hza with rfl | g
              · exact Int.le_refl _
              · omega
          · have hyb2 : y = yb := by
              have hyy : yb.1 ≤ (a : Int) := by simp only at b2; omega
              rcases b3 y y1 (by simp only; omega) with g | g
              · exact g
              · rcases y3 yb b1 hyy with g' | g'
                · exact g'.symm
                · omega
            refine ⟨(((f + n : Nat) : Int), yb.2), flr_eq hSs ((hS _).2 (.inl rfl)) (by show ((f + n : Nat) : Int) ≤ (a : Int); omega) (fun z hz hza => ?_), by rw [← hyb2]; exact hyd⟩
            simp only at hza
            rcases (hS z).1 hz with rfl | ⟨rfl | ⟨g1, _⟩, _⟩
            · exact Int.le_refl _
            · simp only; omega
            · simp only
              rcases y3 z g1 hza with rfl | g
              · omega
              · omega
  · have hS : ∀ y : Im, y ∈ stroke P f (f + n) c yb.2 ↔ (y = ((f : Int), (c : Int)) ∨ (y ∈ P ∧ ¬ ((f : Int) ≤ y.1 ∧ y.1 < ((f + n : Nat) : Int)))) := fun y => by
      unfold stroke; simp only; rw [if_neg ht, hR]
    have hSs : Srt lt (stroke P f (f + n) c yb.2) := by unfold stroke; simp only; rw [if_neg ht]; exact hRs
    refine ⟨hSs, fun y hy => ?_, by rw [paintN_length]; exact h.len, hcol, fun a d hd => ?_⟩
    · rcases (hS y).1 hy with rfl | ⟨g, _⟩
      · exact ⟨by show (0 : Int) ≤ (f : Int); omega, by show (f : Int) < 256; omega, by show (0 : Int) ≤ (c : Int); omega, by show (c : Int) < 256; omega⟩
      · exact h.key y g
    · obtain ⟨ha, ⟨hin2, rfl⟩ | ⟨hout, hda⟩⟩ := hcells a d hd
      · refine ⟨((f : Int), (d : Int)), flr_eq hSs ((hS _).2 (.inl rfl)) (by show (f : Int) ≤ (a : Int); omega) (fun z hz hza => ?_), rfl⟩
        simp only at hza
        rcases (hS z).1 hz with rfl | ⟨_, g2⟩
        · exact Int.le_refl _
        · simp only; omega
      · obtain ⟨y, hy, hyd⟩ := h.at_ a d hda
        obtain ⟨y1, y2, y3⟩ := flr_some_iff h.srt hy
        simp only at y2
        refine ⟨y, flr_eq hSs ((hS _).2 (.inr ⟨y1, by omega⟩)) y2 (fun z hz hza => ?_), hyd⟩
        simp only at hza
        rcases (hS z).1 hz with rfl | ⟨g1, _⟩
        · simp only at hza; omega
        · rcases y3 z g1 hza with rfl | g
          · exact Int.le_refl _
          · omega
/-- What the program sets is the list behind the stroke. -/
theorem stroke_ins {P : List Im} (hs : Srt lt P) (f t c : Nat) (v : Int) : ins (dels P (inside P f t) ++ [((f : Int), (c : Int))] ++ (if t < 256 then [((t : Int), v)] else [])) = stroke P f t c v := by
  have hQs : Srt lt (dels P (inside P f t)) := (dels_mem (inside P f t) hs (y := ((f : Int), (c : Int)))).2
  unfold stroke
  simp only
  split
  · rw [II.ins_snoc, ins_add hQs]
  · rw [List.append_nil, ins_add hQs]
theorem stroke_length (P : List Im) (f t c : Nat) (v : Int) : (stroke P f t c v).length ≤ P.length + 2 := by
  have h1 := dels_length P (inside P f t)
  have h2 : (put lt (dels P (inside P f t)) ((f : Int), (c : Int))).length ≤ (dels P (inside P f t)).length + 1 := by rw [II.put_length]; split <;> omega
  unfold stroke
  simp only
  split
  · rw [II.put_length]; split <;> omega
  · omega
end Go.Proofs.Ytehnobbiiokcgaa.Bt.P

namespace Go.Proofs.Ytehnobbiiokcgaa.Bt.P
set_option linter.unusedVariables false
set_option linter.unusedSimpArgs false
open Go Go.RowKit Go.Proofs.Ytehnobbiiokcgaa.Bt
open Go.Proofs.Ytehnobbiiokcgaa.Bt.ND (Im Its EI hidp)
open Go.Proofs.Ytehnobbiiokcgaa.Bt.II (ins flr from_ lt ord)

variable {w : World}

/-- A cell of a block is written. -/
theorem bx_set {w : World} {b : Nat} {vs : List Value} (h : Bx w b vs) {j : Nat} (hj : j < vs.length) (v : Value) : Bx (w.setCell ⟨b, j, none⟩ v) b (vs.set j v) ∧ Fr (fun k => k = b) w (w.setCell ⟨b, j, none⟩ v) := by
  have hs : (M w b j).isSome = true := by rw [h.2 j _ (List.getElem?_eq_getElem hj)]; rfl
  have hf := Fr.setCell w b j v
  refine ⟨⟨Nat.lt_of_lt_of_le h.1 hf.size, fun i u hi => ?_⟩, hf⟩
  rw [M_setCell _ _ hs]
  rw [List.getElem?_set] at hi
  by_cases hij : j = i
  · rw [if_pos hij] at hi
    rw [if_pos ⟨rfl, hij.symm⟩]
    rw [if_pos (by omega)] at hi; exact hi
  · rw [if_neg hij] at hi
    rw [if_neg (fun h => hij h.2.symm)]
    exact h.2 i u hi

theorem infoU8 : (Try.prog.info? 5).map (fun i => (i.zero, i.size, i.bytes)) = some (some (.int .u8 0), 1, 1) := by kernel_rfl
/-- A byte. -/
def u8 (n : Int) : Value := .int .u8 n
/-- make of 256 bytes. -/
theorem made256 (w : World) : ∃ w1, (Instr.makeSlice 77 (.int .i64 256) (.int .i64 256)).run Try.prog w = .ok (.slice (some ⟨w.heap.size, 0, none⟩) 256 256) w1 ∧ Bx w1 w.heap.size ((List.replicate 256 (0 : Int)).map u8) ∧ Below w.heap.size w w1 := by
  obtain ⟨i0, hi0, hz0, hz1, hz2⟩ := info_parts infoU8
  have hr := run_make (P := Try.prog) w 77 5 i0 (.int .u8 0) Try.underlying77 hi0 hz0 .i64 .i64 256 256 (by decide) (by decide) (by rw [hz2]; decide) (by decide)
  refine ⟨_, hr, ?_, (Below.refl _ _).alloc (Nat.le_refl _) _⟩
  refine ⟨by simp, fun j v hj => ?_⟩
  rw [hz1, M_alloc_new]
  have hj' := (List.getElem?_eq_some_iff.1 hj).1
  rw [List.length_map, List.length_replicate] at hj'
  rw [List.getElem?_map, List.getElem?_replicate, if_pos hj'] at hj
  have hv : v = .int .u8 0 := (Option.some.inj hj).symm
  subst hv
  unfold madeCells
  have e : (Int.toNat 256 * 1) = 256 := rfl
  rw [e, Array.getElem?_map, Array.getElem?_range, if_pos hj']
  show some ((#[Value.int .u8 0] : Array Value)[j % 1]!) = _
  rw [Nat.mod_one]; rfl

/-- The first j colors, and what stands behind them. -/
def outL (P : List Im) (j : Nat) (x : List Int) : List Int := (List.range j).map (fun a => colorAt P a) ++ (x ++ List.replicate (255 - j) 0)
theorem outL_length (P : List Im) {j : Nat} (hj : j < 256) (x : Int) : (outL P j [x]).length = 256 := by
  unfold outL
  rw [List.length_append, List.length_map, List.length_range, List.length_append, List.length_replicate, List.length_singleton]; omega
theorem outL_set (P : List Im) {j : Nat} (x y : Int) : ((outL P j [x]).map u8).set j (u8 y) = (outL P j [y]).map u8 := by
  unfold outL
  rw [List.map_append, List.map_append, List.set_append_right _ _ (by simp), List.length_map, List.length_map, List.length_range, Nat.sub_self]
  simp
theorem outL_next (P : List Im) {j : Nat} (hj : j + 1 < 256) : outL P j [colorAt P j] = outL P (j + 1) [0] := by
  unfold outL
  rw [List.range_succ, List.map_append]
  have e : 255 - j = (255 - (j + 1)) + 1 := by omega
  rw [e, List.replicate_succ]
  simp
theorem outL_end (P : List Im) : outL P 255 [colorAt P 255] = (List.range 256).map fun a => colorAt P a := by
  unfold outL
  have e : List.range 256 = List.range 255 ++ [255] := List.range_succ (n := 255)
  rw [e, List.map_append]
  rfl
theorem colorAt_take {P : List Im} {p : Nat} {x : Im} (h : P[p]? = some x) (a : Nat) : colorAt (P.take (p + 1)) a = if x.1 ≤ (a : Int) then x.2 else colorAt (P.take p) a := by
  unfold colorAt
  rw [List.take_add_one, h, List.foldl_append]; rfl
theorem Pic.colors {P : List Im} {cs : List Nat} (h : Pic P cs) : (List.range 256).map (fun a => colorAt P a) = cs.map fun n : Nat => (n : Int) := by
  refine List.ext_getElem? fun i => ?_
  rw [List.getElem?_map, List.getElem?_map]
  by_cases hi : i < 256
  · obtain ⟨y, c, h1, h2, h3, _⟩ := h.get hi
    rw [List.getElem?_range hi, h1, Option.map_some, Option.map_some, color_flr h.srt h2, h3]
  · rw [List.getElem?_eq_none (by simp; omega), List.getElem?_eq_none (by rw [h.len]; omega)]; rfl

set_option maxHeartbeats 4000000 in
set_option maxRecDepth 100000 in
/-- 'Colors' -/
theorem colors_is {P : List Im} {cs : List Nat} (hP : Pic P cs) {v : Value} (hv : Its w v P) (hl : P.length ≤ 100000) :
    Calls Try.prog 41 #[v] w (fun e w' => ∃ u, e = .returned u ∧ Byts w' u cs ∧ Below w.heap.size w w') := by
  obtain ⟨a, cap, rfl, _, hc⟩ := its_get hv
  have HC := hidp hc
  have HP := hidp hP
  obtain ⟨w1, hmk, hbx, hb1⟩ := made256 w
  have HB1 := hidp (And.intro hbx hb1)
  have hbl : w.heap.size < w1.heap.size := hbx.1
  clear hc hv hP hbx hb1
  go_enter Try.func41, Try.ntmps41
  go_wp2
  go_loopw [10] (fun i wr => ∃ j : Nat, j ≤ 256 ∧ i = .int .i64 j ∧ Hid (Bx wr w.heap.size (((List.range j).map (fun a => colorAt P a) ++ List.replicate (256 - j) 0).map u8) ∧ Below w.heap.size w wr)) (fun i _ => 256 - (intOf i).toNat)
  case atStart => exact ⟨0, by decide, rfl, hidp ⟨by simpa using HB1.out.1, HB1.out.2⟩⟩
  case round =>
    rename World => wr
    obtain ⟨j, hj, rfl, HR⟩ := hrel
    by_cases hlt : j < 256
    · have jlt : (j : Int) < 256 := by omega
      have e0 : (List.range j).map (fun a => colorAt P a) ++ List.replicate (256 - j) 0 = outL P j [colorAt (P.take 0) j] := by
        unfold outL
        have e : 256 - j = (255 - j) + 1 := by omega
        rw [e, List.replicate_succ]; rfl
      have hR := HR.out
      rw [e0] at hR
      have HR1 := hidp hR
      clear e0 hR HR
      go_wp2
      go_loopw [15] (fun i wr => ∃ p : Nat, p ≤ P.length ∧ i = .int .i64 p ∧ Hid (Bx wr w.heap.size ((outL P j [colorAt (P.take p) j]).map u8) ∧ Below w.heap.size w wr)) (fun i _ => P.length - (intOf i).toNat)
      case atStart => exact ⟨0, Nat.zero_le _, rfl, HR1⟩
      case round =>
        rename World => wq
        obtain ⟨p, hp, rfl, HQ⟩ := hrel
        clear HR1
        by_cases hplt : p < P.length
        · obtain ⟨y, hy⟩ : ∃ y, P[p]? = some y := ⟨P[p], List.getElem?_eq_getElem hplt⟩
          obtain ⟨b, off, rfl, cy0, cy1⟩ := HC.out wq HQ.out.2 p y hy
          have plt : (p : Int) < (P.length : Int) := by omega
          have HT := hidp (colorAt_take hy j)
          obtain ⟨_, _, y0, y1⟩ := HP.out.key y (List.mem_of_getElem? hy)
          have hwy : IntKind.u8.wrap y.2 = y.2 := by rw [IntKind.wrap_u8]; omega
          have HA := hidp (And.intro (HQ.out.1.alloc (.cells #[.int .i64 y.1, .int .i64 y.2] 35)) (HQ.out.2.alloc HQ.out.2.size (.cells #[.int .i64 y.1, .int .i64 y.2] 35)))
          have hset := bx_set HQ.out.1 (j := j) (by rw [List.length_map, outL_length P hlt]; exact hlt) (u8 y.2)
          rw [outL_set] at hset
          have hset2 := HQ.out.2.trans (hset.2.below HQ.out.2.size (fun i hi => Nat.le_of_eq hi.symm))
          have HS := hidp (And.intro (hset.1.alloc (.cells #[.int .i64 y.1, .int .i64 y.2] 35)) (hset2.alloc hset2.size (.cells #[.int .i64 y.1, .int .i64 y.2] 35)))
          have hob : w.heap.size < wq.heap.size := HQ.out.1.1
          have hov := HQ.out.1.2 j (u8 (colorAt (P.take p) j)) (by rw [List.getElem?_map]; unfold outL; rw [List.getElem?_append_right (by simp)]; simp)
          have hoc : wq.cell? ⟨w.heap.size, j, none⟩ = some (u8 (colorAt (P.take p) j)) := M_cell hov
          have hof := HQ.out.1.froz j (v := u8 (colorAt (P.take p) j)) (by rw [List.getElem?_map]; unfold outL; rw [List.getElem?_append_right (by simp)]; simp)
          unfold u8 at hoc
          clear hset hset2 hov hy
          by_cases hya : y.1 ≤ (j : Int)
          · have ht := HT.out
            rw [if_pos hya] at ht
            have HT2 := hidp ht
            clear ht
            go_wp2
            go_roundw
            case rel => exact ⟨p + 1, by omega, by go_num, hidp ⟨by rw [HT2.out]; exact HS.out.1, HS.out.2⟩⟩
            case measure => simp [intOf]; omega
          · have ht := HT.out
            rw [if_neg hya] at ht
            have HT2 := hidp ht
            clear ht
            go_wp2
            go_roundw
            case rel => exact ⟨p + 1, by omega, by go_num, hidp ⟨by rw [HT2.out]; exact HA.out.1, HA.out.2⟩⟩
            case measure => simp [intOf]; omega
        · obtain rfl : p = P.length := by omega
          have hQ := HQ.out
          rw [List.take_length] at hQ
          have hN : Hid (Bx wq w.heap.size (((List.range (j + 1)).map (fun a => colorAt P a) ++ List.replicate (256 - (j + 1)) 0).map u8) ∧ Below w.heap.size w wq) := hidp (by
            refine ⟨?_, hQ.2⟩
            by_cases h255 : j + 1 < 256
            · have e2 : outL P (j + 1) [0] = (List.range (j + 1)).map (fun a => colorAt P a) ++ List.replicate (256 - (j + 1)) 0 := by
                unfold outL
                have e : 256 - (j + 1) = (255 - (j + 1)) + 1 := by omega
                rw [e, List.replicate_succ]; rfl
              rw [← e2, ← outL_next P h255]; exact hQ.1
            · obtain rfl : j = 255 := by omega
              have h1 := hQ.1
              rw [outL_end] at h1
              simpa using h1)
          clear hQ HQ
          go_wp2
          go_roundw
          case rel => exact ⟨j + 1, by omega, by go_num, hN⟩
          case measure => simp [intOf]; omega
    · obtain rfl : j = 256 := by omega
      have h1 := HR.out
      rw [show 256 - 256 = 0 from rfl, List.replicate_zero, List.append_nil, HP.out.colors] at h1
      have HF := hidp h1
      clear h1 HR
      go_wp2
      go_ret
      refine ⟨_, rfl, ⟨_, 256, by rw [HP.out.len]; rfl, fun k n hk => ⟨_, 0, rfl, ?_⟩⟩, HF.out.2⟩
      rw [Nat.zero_add]
      exact M_cell (HF.out.1.2 k _ (by rw [List.map_map, List.getElem?_map, hk]; rfl))
end Go.Proofs.Ytehnobbiiokcgaa.Bt.P
