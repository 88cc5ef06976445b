/- Nodes as data: Set of a map that stands on a node, DSet. -/
import Derived.Test.YtehnobbiiokcgaaBtNx
import Derived.Test.YtehnobbiiokcgaaBtIIn
namespace Go.Proofs.Ytehnobbiiokcgaa.Bt.ND
set_option linter.unusedVariables false
set_option linter.unusedSimpArgs false
open Go Go.RowKit Go.Proofs.Ytehnobbiiokcgaa.Bt

theorem Bx.upd3 {w : World} {b : Nat} {a0 a1 a2 : Value} (h : Bx w b [a0, a1, a2]) (v0 v1 v2 : Value) : Upd w (((w.setCell ⟨b, 0, none⟩ v0).setCell ⟨b, 1, none⟩ v1).setCell ⟨b, 2, none⟩ v2) b 0 [v0, v1, v2] :=
  (Upd.two w (b := b) (o := 0) v0 v1 (by rw [h.2 0 _ rfl]; rfl) (by show (M w b 1).isSome = true; rw [h.2 1 _ rfl]; rfl)).snoc v2 rfl (by show (M w b 2).isSome = true; rw [h.2 2 _ rfl]; rfl)

theorem mem_sum : ∀ (l : List Nat) (a : Nat), a ∈ l → a ≤ l.sum
  | [], a, h => by simp at h
  | b :: l, a, h => by
    rw [List.sum_cons]
    rcases List.mem_cons.1 h with rfl | h
    · omega
    · have := mem_sum l a h
      omega
/-- A tree of one item is a leaf. -/
theorem ok_len {mn mx : Nat} : ∀ (h lo : Nat) (t : BT Im h), BT.ok mn mx lo h t → lo ≤ (BT.all h t).length
  | 0, _, _, hok => hok.1
  | h + 1, lo, t, hok => by
    show lo ≤ (weave t.1 (t.2.map (BT.all h))).length
    rw [weave_len]
    have := hok.1
    omega
theorem one_leaf {mn mx lo h : Nat} {t : BT Im h} (hmn : 1 ≤ mn) (hlo : 1 ≤ lo) (hok : BT.ok mn mx lo h t) (h1 : (BT.all h t).length = 1) : h = 0 := by
  cases h with
  | zero => rfl
  | succ h =>
    obtain ⟨g1, g2, g3, g4⟩ := hok
    have h2 : (weave t.1 (t.2.map (BT.all h))).length = 1 := h1
    rw [weave_len] at h2
    have g1' : lo ≤ t.1.length := g1
    have g3' : t.2.length = t.1.length + 1 := g3
    obtain ⟨c, hc⟩ : ∃ c, c ∈ t.2 := by
      cases hq : t.2 with
      | nil => rw [hq] at g3'; simp at g3'
      | cons c cs => exact ⟨c, by simp⟩
    have h3 := ok_len h mn c (g4 c hc)
    have h4 : (BT.all h c).length ≤ ((t.2.map (BT.all h)).map List.length).sum := by
      rw [List.map_map]
      exact mem_sum _ _ (List.mem_map.2 ⟨c, hc, rfl⟩)
    omega

/-- What setting x makes of the node t. -/
structure SetOut (D : Nat) {n : Nat} (t : DT (n + 1)) (x : Im) (h' : Nat) (t' : BT Im h') : Prop where
  ok : BT.ok (D - 1) (2 * D - 1) 1 h' t'
  all : BT.all h' t' = put II.lt (dAll (n + 1) t) x
  srt : Srt II.lt (BT.all h' t')
  step : (t.1.length = 0 ∧ t.2.1.length = 0 ∧ h' = 0) ∨ (VTree D t h' ∧ ((∃ y, insN II.lt (2 * D - 1) h' (toBT h' (n + 1) t) x = .rep t' y) ∨ insN II.lt (2 * D - 1) h' (toBT h' (n + 1) t) x = .new t')) ∨ ∃ h, VTree D t h ∧ h' = h + 1

/-- What 'Set' tells. -/
def sv (l : List Im) (x : Im) : Value := match look II.lt l x with
  | some y => .int .i64 y.2
  | none => .int .i64 0

/-- 'Set' of a map that stands on a node. -/
theorem set_stands {D n : Nat} (hD : 2 ≤ D) (hD2 : D ≤ 400) {t : DT (n + 1)} {S : Nat → Prop} {w : World} {s : Sto II.It} (St : Stands D t S w s) (hb : bulk (n + 1) t ≤ 10000000) (x : Im) :
    Calls Try.prog 62 #[.pointer (some ⟨s.m, 0, none⟩), .int .i64 x.1, .int .i64 x.2] w (fun e w' => ∃ S' s' h' m' t' ids', e = .returned (.tuple #[sv (dAll (n + 1) t) x, .bool (fnd II.lt (dAll (n + 1) t) x)]) ∧ Ext S w S' w' ∧ RepS II.E S' w' s' ∧ s'.m = s.m ∧
      s'.mp.root = some m' ∧ Tr s'.nd s'.mp.iso h' m' t' ids' ∧ SetOut D t x h' t') := by
  have hlen := dAll_bulk (n + 1) t
  rcases St.tree with ⟨h1, h2, h3⟩ | ⟨h, m, ids, V, hr, T, hd⟩
  · have hset := II.set_is hD hD2 St.mp (by omega) x
    rw [dAll_nil h1 h2] at hset ⊢
    refine hset.mono ?_
    rintro e w' ⟨S', s', rfl, hE, M, hm, hi, _⟩
    rcases M.tree with ⟨_, hl⟩ | ⟨h', m', t', ids', hr', T', hd', hok', hl'⟩
    · exact absurd hl (by simp [put, pos, fnd])
    · have hp : put II.lt [] x = [x] := by simp [put, pos, fnd]
      refine ⟨S', s', h', m', t', ids', rfl, hE, M.rep, hm, hr', T', ⟨hok', by rw [dAll_nil h1 h2]; exact hl'.symm, by rw [← hl']; exact M.srt, .inl ⟨h1, h2, ?_⟩⟩⟩
      exact one_leaf (by omega) (Nat.le_refl _) hok' (by rw [← hl', hp]; rfl)
  · have hmm : s.mp.mn = ((D - 1 : Nat) : Int) ∧ s.mp.mx = ((2 * D - 1 : Nat) : Int) := by
      rcases St.mp.mm with ⟨_, _, h3⟩ | h
      · rw [hr] at h3; cases h3
      · exact h
    have hs : Srt II.lt (BT.all h (toBT h (n + 1) t)) := by rw [V.all]; exact V.srt
    have hle : (BT.all h (toBT h (n + 1) t)).length ≤ 100000000000 := by rw [V.all]; omega
    have hc : s.mp.count = ((BT.all h (toBT h (n + 1) t)).length : Nat) := by rw [V.all]; exact St.mp.cnt
    have hIO := insN_ok II.ord (mn := D - 1) (mx := 2 * D - 1) (by omega) (by omega) (by omega) h 1 (toBT h (n + 1) t) x V.ok hs
    by_cases he : insN II.lt (2 * D - 1) h (toBT h (n + 1) t) x = .split
    · have hset := II.set_splitT hD hD2 St.mp.rep hr T hd V.ok hs hmm.1 hmm.2 hle hc x he
      have hf := II.insN_split hD V.ok hs he
      rw [V.all] at hset
      refine hset.mono ?_
      rintro e w' ⟨S', s', rfl, hE, M, hm, hi, _, l, md, r, hsp, m', t', ids', hr', T', hd', hI⟩
      obtain ⟨hok2, hall2, _⟩ := II.halves (x := x) hD V.ok hs hf hsp
      have hIO2 := insN_ok II.ord (mn := D - 1) (mx := 2 * D - 1) (by omega) (by omega) (by omega) (h + 1) 1 ([md], [l, r]) x hok2 (by rw [hall2]; exact hs)
      have hz : BT.all (h + 1) t' = put II.lt (BT.all (h + 1) (([md], [l, r]) : BT Im (h + 1))) x ∧ BT.ok (D - 1) (2 * D - 1) 1 (h + 1) t' := by
        rcases hI with ⟨y, hI⟩ | hI
        · rw [hI] at hIO2; exact ⟨hIO2.2.1, hIO2.2.2⟩
        · rw [hI] at hIO2; exact ⟨hIO2.2.1, hIO2.2.2⟩
      have ha : BT.all (h + 1) t' = put II.lt (dAll (n + 1) t) x := by rw [hz.1, hall2, V.all]
      exact ⟨S', s', h + 1, m', t', ids', rfl, hE, M.rep, hm, hr', by rw [hi]; exact T', ⟨hz.2, ha, by rw [ha]; exact M.srt, .inr (.inr ⟨h, V, rfl⟩)⟩⟩
    · have hset := II.set_nodeT hD hD2 St.mp.rep hr T hd V.ok hs hmm.1 hmm.2 hle hc x he
      rw [V.all] at hset
      refine hset.mono ?_
      rintro e w' ⟨S', s', rfl, hE, M, hm, hi, _, m', t', ids', hr', T', hd', hI⟩
      have hz : BT.all h t' = put II.lt (BT.all h (toBT h (n + 1) t)) x ∧ BT.ok (D - 1) (2 * D - 1) 1 h t' := by
        rcases hI with ⟨y, hI'⟩ | hI'
        · rw [hI'] at hIO; exact ⟨hIO.2.1, hIO.2.2⟩
        · rw [hI'] at hIO; exact ⟨hIO.2.1, hIO.2.2⟩
      have ha : BT.all h t' = put II.lt (dAll (n + 1) t) x := by rw [hz.1, V.all]
      exact ⟨S', s', h, m', t', ids', rfl, hE, M.rep, hm, hr', by rw [hi]; exact T', ⟨hz.2, ha, by rw [ha]; exact M.srt, .inr (.inl ⟨V, hI⟩)⟩⟩

set_option maxHeartbeats 4000000 in
set_option maxRecDepth 100000 in
/-- 'DSet' -/
theorem dset_is {D : Nat} (hD : 2 ≤ D) (hD2 : D ≤ 400) {n : Nat} {t : DT (n + 1)} (hv : validB D (n + 1) t = true) {w : World} {vi vk : Value} {c : Int} (hN : NodeAt w (n + 1) t vi vk c) (hb : bulk (n + 1) t ≤ 10000000) (x : Im) :
    Calls Try.prog 25 #[.int .i64 D, .agg #[vi, vk, .int .i64 c], .agg #[.int .i64 x.1, .int .i64 x.2]] w (fun e w' => ∃ h' t' ui uk c', e = .returned (.tuple #[fo x.1 (look II.lt (dAll (n + 1) t) x), .agg #[ui, uk, .int .i64 c']]) ∧ SetOut D t x h' t' ∧
      NodeQ (fun b => w.heap.size ≤ b ∧ b < w'.heap.size) w' (h' + 1) (ofBT h' t') ui uk c' ∧ Below w.heap.size w w') := by
  obtain ⟨⟨i1, i2, icap, rfl⟩, q1, q2, kcap, rfl⟩ := hN.vals
  obtain ⟨w1, hw1⟩ : ∃ w1, w1 = (((w.alloc (.cells #[.slice i1 i2 icap, .slice q1 q2 kcap, .int .i64 c] 25)).alloc (.cells #[.int .i64 x.1, .int .i64 x.2] 35)).alloc (.cells #[.int .i64 0, .int .i64 0, .bool false] 37)).alloc (.cells #[.slice none 0 0, .slice none 0 0, .int .i64 0] 25) := ⟨_, rfl⟩
  have hsz1 : w1.heap.size = w.heap.size + 4 := by rw [hw1]; simp
  have hB1 : Below w.heap.size w w1 := by rw [hw1]; exact ((((Below.refl _ _).alloc (Nat.le_refl _) _).alloc (by rw [World.size_alloc]; omega) _).alloc (by rw [World.size_alloc, World.size_alloc]; omega) _).alloc (by rw [World.size_alloc, World.size_alloc, World.size_alloc]; omega) _
  have hx0 : Bx w1 w.heap.size [.slice i1 i2 icap, .slice q1 q2 kcap, .int .i64 c] := by rw [hw1]; exact (((Bx.new w [.slice i1 i2 icap, .slice q1 q2 kcap, .int .i64 c] 25).alloc _).alloc _).alloc _
  have hx1 : Bx w1 (w.heap.size + 1) [.int .i64 x.1, .int .i64 x.2] := by
    rw [hw1]
    have h := Bx.new (w.alloc (.cells #[.slice i1 i2 icap, .slice q1 q2 kcap, .int .i64 c] 25)) [.int .i64 x.1, .int .i64 x.2] 35
    rw [World.size_alloc] at h
    exact (h.alloc _).alloc _
  have hx2 : Bx w1 (w.heap.size + 2) [.int .i64 0, .int .i64 0, .bool false] := by
    rw [hw1]
    have h := Bx.new ((w.alloc (.cells #[.slice i1 i2 icap, .slice q1 q2 kcap, .int .i64 c] 25)).alloc (.cells #[.int .i64 x.1, .int .i64 x.2] 35)) [.int .i64 0, .int .i64 0, .bool false] 37
    rw [World.size_alloc, World.size_alloc] at h
    exact h.alloc _
  have hx3 : Bx w1 (w.heap.size + 3) [.slice none 0 0, .slice none 0 0, .int .i64 0] := by
    rw [hw1]
    have h := Bx.new (((w.alloc (.cells #[.slice i1 i2 icap, .slice q1 q2 kcap, .int .i64 c] 25)).alloc (.cells #[.int .i64 x.1, .int .i64 x.2] 35)).alloc (.cells #[.int .i64 0, .int .i64 0, .bool false] 37)) [.slice none 0 0, .slice none 0 0, .int .i64 0] 25
    rw [World.size_alloc, World.size_alloc, World.size_alloc] at h
    exact h
  have HST := hidp (stand_is hD (by omega) hv (hN.below hB1) hb)
  have HX0 := hidp hx0
  have HX1 := hidp hx1
  have HX2 := hidp hx2
  have HX3 := hidp hx3
  have HB1 := hidp hB1
  have HW1 := hidp hw1
  have HSZ := hidp hsz1
  have y0 := hx0.cell 0 rfl
  have y1 := hx0.cell 1 rfl
  have y2 := hx0.cell 2 rfl
  clear hN hB1 hv hx0 hx1 hx2 hx3 hsz1
  obtain ⟨o, ho⟩ : ∃ o, look II.lt (dAll (n + 1) t) x = o := ⟨_, rfl⟩
  have HO := hidp ho
  rw [ho]
  clear ho
  obtain ⟨b, z, k', z', hz1, hz2, hz3, hz4⟩ : ∃ (b : Bool) (z k' z' : Int), o.isSome = b ∧ II.gv o = .int .i64 z ∧ fo x.1 o = .agg #[.int .i64 k', .int .i64 z', .bool b] ∧ fdv x.1 z b = .agg #[.int .i64 k', .int .i64 z', .bool b] := by
    cases o with
    | some y => exact ⟨true, y.2, x.1, y.2, rfl, rfl, rfl, rfl⟩
    | none => exact ⟨false, 0, 0, 0, rfl, rfl, rfl, rfl⟩
  have HBZ := hidp (And.intro hz1 (And.intro hz2 hz4))
  rw [hz3]
  clear hz1 hz2 hz3 hz4
  go_enter Try.func25, Try.ntmps25
  go_wp2_with fail
  rw [← hw1]
  clear hw1
  refine HST.out.mono ?_
  rintro e w2 ⟨S, s, rfl, St, hb2, hSge⟩
  have hs2 := hb2.size
  have HX1b := hidp (Bx.below HX1.out hb2 (by have := HSZ.out; omega))
  have HX2b := hidp (Bx.below HX2.out hb2 (by have := HSZ.out; omega))
  have HX3b := hidp (Bx.below HX3.out hb2 (by have := HSZ.out; omega))
  have HB2 := hidp (HB1.out.trans (hb2.mono (by have := HSZ.out; omega)))
  have hset := set_stands hD hD2 St hb x
  have HSG : Hid (∀ i, S i → w1.heap.size ≤ i) := hidp hSge
  have HS2 : Hid (w1.heap.size ≤ w2.heap.size) := hidp hs2
  have x0 := HX1b.out.cell 0 rfl
  have x1 := HX1b.out.cell 1 rfl
  have hOO : sv (dAll (n + 1) t) x = II.gv o ∧ fnd II.lt (dAll (n + 1) t) x = o.isSome := by
    rw [fnd_look]
    unfold sv
    rw [HO.out]
    exact ⟨by cases o <;> rfl, rfl⟩
  rw [hOO.1, hOO.2] at hset
  clear hb2 St HST y0 y1 y2 hSge hs2 hOO
  rw [HBZ.out.1, HBZ.out.2.1] at hset
  have HSET := hidp hset
  clear hset
  go_wp2_with fail
  refine HSET.out.mono ?_
  rintro e w3 ⟨S', s', h', m', t', ids', rfl, hE, hR, hm, hr, hT, hO⟩
  have hb3 : Below w1.heap.size w2 w3 := hE.fr.below HS2.out HSG.out
  have HX1c := hidp (Bx.below HX1b.out hb3 (by have := HSZ.out; omega))
  have HX2c := hidp (Bx.below HX2b.out hb3 (by have := HSZ.out; omega))
  have HX3c := hidp (Bx.below HX3b.out hb3 (by have := HSZ.out; omega))
  have HB3 := hidp (HB2.out.trans (hb3.mono (by have := HSZ.out; omega)))
  have HRR := hidp hR
  have HTT := hidp (And.intro hr hT)
  have HOUT := hidp hO
  have x2 := HX1c.out.cell 0 rfl
  have hs3 : w.heap.size + 3 < w3.heap.size := HX3c.out.1
  rw [← hm]
  clear hE hR hm hr hT hO hb3 x0 x1 HSET
  go_wp2_with fail
  have hpr := pair_is w3 x.1 z b
  rw [HBZ.out.2.2] at hpr
  refine hpr.mono ?_
  clear hpr
  rintro e w4 ⟨rfl, hb4⟩
  have HX2d := hidp (Bx.below HX2c.out hb4 HX2c.out.1)
  have HX3d := hidp (Bx.below HX3c.out hb4 HX3c.out.1)
  have HB4 := hidp (HB3.out.trans (hb4.mono HB3.out.size))
  have HL := hidp (fell_tr (mn := D - 1) (mx := 2 * D - 1) (lo := 1) (by omega) (RepS.below HRR.out hb4) HTT.out.1 HTT.out.2 HOUT.out.ok)
  clear hb4 x2
  go_wp2_with fail
  refine HL.out.mono ?_
  rintro e w5 ⟨ui, uk, c', rfl, hq, hb5⟩
  obtain ⟨⟨a1, a2, a3, rfl⟩, p1, p2, p3, rfl⟩ := hq.vals
  have hxa := Bx.below HX2d.out hb5 HX2d.out.1
  have hxb := Bx.below HX3d.out hb5 HX3d.out.1
  have k0 := hxa.cell 0 rfl
  have k1 := hxa.cell 1 rfl
  have k2 := hxa.cell 2 rfl
  have f0 := hxa.froz 0 (v := .int .i64 0) rfl
  have f1 := hxa.froz 1 (v := .int .i64 0) rfl
  have f2 := hxa.froz 2 (v := .bool false) rfl
  have j0 := hxb.cell 0 rfl
  have j1 := hxb.cell 1 rfl
  have j2 := hxb.cell 2 rfl
  have g0 := hxb.froz 0 (v := .slice none 0 0) rfl
  have g1 := hxb.froz 1 (v := .slice none 0 0) rfl
  have g2 := hxb.froz 2 (v := .int .i64 0) rfl
  have hl := hxb.1
  have hla := hxa.1
  have hua := Bx.upd3 hxa (.int .i64 k') (.int .i64 z') (.bool b)
  have hxb2 := hxb.upd hua (by omega)
  have hub := Bx.upd3 hxb2 (.slice a1 a2 a3) (.slice p1 p2 p3) (.int .i64 c')
  have hs4 : w.heap.size + 3 < w4.heap.size := HX3d.out.1
  have HQ2 := hidp ((hq.keep (Q' := fun b => w.heap.size + 3 < b ∧ b < w5.heap.size) hua.fr (fun b hb => ⟨fun (h : b = w.heap.size + 2) => by have := hb.1; omega, by have := hb.1; omega, hb.2⟩)).keep (Q' := fun b => w.heap.size ≤ b ∧ b < w5.heap.size) hub.fr (fun b hb => ⟨fun (h : b = w.heap.size + 3) => by have := hb.1; omega, by have := hb.1; omega, hb.2⟩))
  have HSS := hidp (hub.size.trans hua.size)
  have HB5 := hidp (HB4.out.trans (hb5.mono HB4.out.size))
  have hne : w.heap.size + 2 ≠ w.heap.size + 3 := by omega
  clear hq hb5 hxa hxb HL hxb2 hua hub
  go_wp2
  refine bodyPost_ret (v := .tuple #[.agg #[.int .i64 k', .int .i64 z', .bool b], .agg #[.slice a1 a2 a3, .slice p1 p2 p3, .int .i64 c']]) (by simp [results, Try.results25, go_sem, k0, k1, k2, f0, f1, f2, j0, j1, j2, g0, g1, g2]) rfl ?_
  refine ⟨h', t', _, _, c', rfl, HOUT.out, ?_, ?_⟩
  · have h := HQ2.out
    exact h.mono (fun b hb => ⟨hb.1, Nat.lt_of_lt_of_eq hb.2 HSS.out.symm⟩)
  · exact (((((HB5.out.setCell (by show w.heap.size ≤ w.heap.size + 2; omega) _).setCell (by show w.heap.size ≤ w.heap.size + 2; omega) _).setCell (by show w.heap.size ≤ w.heap.size + 2; omega) _).setCell (by show w.heap.size ≤ w.heap.size + 3; omega) _).setCell (by show w.heap.size ≤ w.heap.size + 3; omega) _).setCell (by show w.heap.size ≤ w.heap.size + 3; omega) _
end Go.Proofs.Ytehnobbiiokcgaa.Bt.ND
