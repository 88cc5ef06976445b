/- Maps from numbers to numbers: entries, MSet, MDescend, MAscend, slices.Clone of items. -/
import Derived.Test.YtehnobbiiokcgaaBtBb
import Derived.Test.YtehnobbiiokcgaaBtIIu
import Derived.Test.YtehnobbiiokcgaaBtIIvd
import Derived.Lib.SliceRun
namespace Go.Proofs.Ytehnobbiiokcgaa.Bt.II
set_option linter.unusedVariables false
set_option linter.unusedSimpArgs false
open Go Go.RowKit Go.Proofs.Ytehnobbiiokcgaa.Bt
section
variable {S : Nat → Prop} {s : Sto It} {f : Nat} {lb : Array Value} {G : World → World → Prop} {Q : List It → World → Prop} {M : Nat} {w : World}

set_option maxRecDepth 100000 in
/-- 'scan' with a function that does not stop. -/
theorem scanF_is {go : List It → Bool} (F : Fn S s f lb G Q go M) {D : Nat} (hD2 : D ≤ 400) {l : List It} (m : MapIs D S w s l) (hQ : Q [] w) (hl : l.length ≤ M) :
    Calls Try.prog 116 #[.pointer (some ⟨s.m, 0, none⟩), .func (.func f) #[] lb, .bool false] w (AscPost G Q go w l) := by
  have m2 := (mcell m.rep).2.2.2.1
  rcases m.tree with ⟨hr, rfl⟩ | ⟨h, n, t, ids, hr, T, hd, hok, rfl⟩
  · have m2' : w.cell? ⟨s.m, 2, none⟩ = some (.pointer none) := by rw [m2, hr]; rfl
    have HX := hidp (And.intro hQ (F.refl w))
    clear m m2 hQ F
    go_enter Try.func116, Try.ntmps116
    go_wp2
    go_end0
    exact ⟨rfl, HX.out.1, HX.out.2⟩
  · have m2' : w.cell? ⟨s.m, 2, none⟩ = some (.pointer (some ⟨n, 0, none⟩)) := by rw [m2, hr]; rfl
    have HC := hidp (scan_tr F h m.rep (A := ⟨s.m, 2, none⟩) m2' T hok (by omega) hQ (by simpa using hl))
    clear m m2 hQ F hr T hd hok
    go_enter Try.func116, Try.ntmps116
    go_wp2_with fail
    refine HC.out.mono ?_
    rintro e w' ⟨rfl, hQ', hG'⟩
    have HX := hidp (And.intro hQ' hG')
    clear hQ' hG' HC
    go_wp2
    go_end0
    exact ⟨rfl, HX.out.1, HX.out.2⟩
/-- 'Scan' -/
theorem ScanF_is {go : List It → Bool} (F : Fn S s f lb G Q go M) {D : Nat} (hD2 : D ≤ 400) {l : List It} (m : MapIs D S w s l) (hQ : Q [] w) (hl : l.length ≤ M) :
    Calls Try.prog 106 #[.pointer (some ⟨s.m, 0, none⟩), .func (.func f) #[] lb] w (AscPost G Q go w l) := by
  have HC := hidp (scanF_is F hD2 m hQ hl)
  clear m hQ F
  go_enter Try.func106, Try.ntmps106
  go_wp2_with fail
  refine HC.out.mono ?_
  rintro e w' ⟨rfl, hQ', hG'⟩
  have HX := hidp (And.intro hQ' hG')
  clear hQ' hG' HC
  go_wp2
  go_end0
  exact ⟨rfl, HX.out.1, HX.out.2⟩
end
end Go.Proofs.Ytehnobbiiokcgaa.Bt.II

namespace Go.Proofs.Ytehnobbiiokcgaa.Bt.P
set_option linter.unusedVariables false
set_option linter.unusedSimpArgs false
open Go Go.RowKit Go.Proofs.Ytehnobbiiokcgaa.Bt
open Go.Proofs.Ytehnobbiiokcgaa.Bt.ND (Im Its EI hidp step_row fdv pair_is)
open Go.Proofs.Ytehnobbiiokcgaa.Bt.II (MapIs ins flr from_)

variable {w : World}

/-- A list of items of the call's own. -/
def RowPost (w : World) (l : List Im) (e : Ending) (w' : World) : Prop :=
  ∃ u g, e = .returned u ∧ Row 2 w' u l.length (itemCells EI l) g ∧ (∀ b, g = some b → w.heap.size ≤ b) ∧ Below w.heap.size w w'

set_option maxHeartbeats 1000000 in
set_option maxRecDepth 100000 in
/-- 'entries' -/
theorem entries_is {D : Nat} (hD2 : D ≤ 400) {S : Nat → Prop} {s : Sto II.It} {l : List Im} (hM : MapIs D S w s l) (hl : l.length ≤ 1000000000000) :
    Calls Try.prog 74 #[.pointer (some ⟨s.m, 0, none⟩)] w (RowPost w l) := by
  obtain ⟨w1, hw1⟩ : ∃ w1, w.alloc (.cells #[.slice none 0 0] 22) = w1 := ⟨_, rfl⟩
  have hF1 : Fr (fun _ => False) w w1 := by rw [← hw1]; exact (Fr.refl _ w).alloc _
  have hsz : w1.heap.size = w.heap.size + 1 := by rw [← hw1]; simp
  have hbx : Bx w1 w.heap.size [.slice none 0 0] := by rw [← hw1]; exact Bx.new w [.slice none 0 0] 22
  have hM1 := hM.keep hF1 (fun _ _ h => h)
  have HPS := hidp (pairs_is (w := w1) (bo := w.heap.size) false (by omega))
  have HM := hidp (And.intro hM1 (And.intro hbx hF1))
  have hSl : ∀ i, S i → i < w.heap.size := fun i hi => hM.rep.rep.lt i hi
  have HSL := hidp hSl
  clear hM hF1 hbx hM1 hSl
  simp only [nOne, Bool.false_eq_true, if_false] at HPS
  go_enter Try.func74, Try.ntmps74
  go_wp2_with fail
  try rw [hw1]
  clear hw1
  refine HPS.out.mono ?_
  rintro e w2 ⟨bt, rfl, hW, hF⟩
  have hs2 : w1.heap.size ≤ w2.heap.size := hF.size
  have hM2 := HM.out.1.keep hF (fun _ _ h => h)
  have hT : Tk w2.heap.size w.heap.size w2 [] := Tk.start (by omega) HM.out.2.1 hF
  have hSS : ∀ i, S i → i < w2.heap.size ∧ i ≠ w.heap.size := fun i hi => by have := HSL.out i hi; omega
  have HSC := hidp (II.ScanF_is (w := w2) (pairs_fn (one := false) (s := s) (bt := bt) hSS) hD2 hM2 ⟨hT, hW⟩ hl)
  have HF2 := hidp ((HM.out.2.2.trans hF (fun _ h => .inl h)).below (Nat.le_refl _) (fun _ h => h.elim))
  clear hW hF hM2 hT hSS HPS HM
  go_wp2_with fail
  refine HSC.out.mono ?_
  rintro e w3 ⟨rfl, ⟨hT3, _⟩, hF3⟩
  have hva : (II.visit (fun _ => !false) [] l).1 = l := by
    have h := visit_all l []
    simp only [List.nil_append] at h
    show (II.visit (fun _ => true) [] l).1 = l
    rw [h]
  rw [hva] at hT3
  obtain ⟨_, _, u, g, hu, hr, hg⟩ := hT3
  have cu := hu.cell 0 rfl
  have HX := hidp (And.intro hr (And.intro hg (HF2.out.trans (Fr.below hF3 (by omega) (fun i hi => hi.elim (fun e => by omega) (fun e => by omega))))))
  obtain ⟨a, cap, rfl⟩ := hr.len
  clear hu hr hg hF3 HSC HF2 hva
  go_wp2
  go_ret
  exact ⟨_, g, rfl, HX.out.1, fun b hb => by have := HX.out.2.1 b hb; omega, HX.out.2.2⟩

theorem mapIs_below {D : Nat} {S : Nat → Prop} {s : Sto II.It} {l : List Im} {w' : World} (m : MapIs D S w s l) (hb : Below w.heap.size w w') : MapIs D S w' s l := ⟨ND.RepS.below m.rep hb, m.srt, m.cnt, m.mm, m.tree⟩
theorem fdv_form (k v : Int) (b : Bool) : ∃ f1 f2 f3, fdv k v b = .agg #[.int .i64 f1, .int .i64 f2, .bool f3] := by
  cases b <;> exact ⟨_, _, _, rfl⟩
theorem infoFd : (Try.prog.info? 37).map (fun i => (i.zero, i.size, i.bytes)) = some (some (.agg #[.int .i64 0, .int .i64 0, .bool false]), 3, 24) := by kernel_rfl

/-- Two lists: of what was found (whatever), and of items. -/
def TwoPost (w : World) (l : List Im) (e : Ending) (w' : World) : Prop :=
  ∃ v u g, e = .returned (.tuple #[v, u]) ∧ Row 2 w' u l.length (itemCells EI l) g ∧ (∀ b, g = some b → w.heap.size ≤ b) ∧ Below w.heap.size w w'

set_option maxHeartbeats 2000000 in
set_option maxRecDepth 100000 in
/-- 'MSet' -/
theorem mset_is {D : Nat} (hD : 2 ≤ D) (hD2 : D ≤ 400) {v : Value} {l : List Im} (hv : Its w v l) (hl : l.length ≤ 4294967296) :
    Calls Try.prog 37 #[.int .i64 D, v] w (TwoPost w (ins l)) := by
  obtain ⟨a, cap, rfl, _, hc⟩ := its_get hv
  have HC := hidp hc
  have HG := hidp (grow_is (w := w) hD hD2 (v := .slice none 0 0) (l := []) ⟨none, 0, rfl, Nat.le_refl _, fun j x hx => by simp at hx⟩ (by simp))
  obtain ⟨i0, hi0, hz0, hz1, hz2⟩ := info_parts infoFd
  have HI0 := hidp hi0
  have HZ0 := hidp hz0
  have HZ1 := hidp hz1
  have HZ2 := hidp hz2
  clear hc hv hi0 hz0 hz1 hz2
  go_enter Try.func37, Try.ntmps37
  go_wp2_with fail
  refine HG.out.mono ?_
  rintro e w1 ⟨S1, s1, rfl, hM1, hb1, hS1⟩
  have HM1 := hidp (And.intro hM1 (And.intro hb1 hS1))
  obtain ⟨mb, hmb⟩ : ∃ mb, mb = s1.m := ⟨_, rfl⟩
  rw [← hmb]
  have HMB := hidp hmb
  clear hM1 hb1 hS1 HG hmb
  go_wp2
  go_loopw [16, 7] (fun i o wr => ∃ j : Nat, j ≤ l.length ∧ i = .int .i64 j ∧ Hid (∃ S s xs g, s.m = mb ∧ (∀ i, S i → w.heap.size ≤ i) ∧ MapIs D S wr s (ins (l.take j)) ∧ Below w.heap.size w wr ∧ Row 3 wr o j xs g ∧ ∀ b, g = some b → w.heap.size ≤ b ∧ ¬ S b)) (fun i _ _ => l.length - (intOf i).toNat)
  case atStart => exact ⟨0, Nat.zero_le _, rfl, hidp ⟨S1, s1, [], none, HMB.out.symm, HM1.out.2.2, HM1.out.1, HM1.out.2.1, Row.nil _ _, fun b h => by cases h⟩⟩
  case round =>
    obtain ⟨j, hj, rfl, HR⟩ := hrel
    obtain ⟨S, s, xs, g, hm, hS, hM, hb, hrow, hg⟩ := HR.out
    clear HR
    by_cases hlt : j < l.length
    · obtain ⟨x, hx⟩ : ∃ x, l[j]? = some x := ⟨l[j], List.getElem?_eq_getElem hlt⟩
      obtain ⟨b, off, rfl, cx', cy'⟩ := HC.out wr hb j x hx
      have hlen : (ins (l.take j)).length ≤ 100000000000 := by
        have := II.ins_length (l.take j)
        simp only [List.length_take] at this; omega
      have hM2 : MapIs D S (wr.alloc (.cells #[.int .i64 x.1, .int .i64 x.2] 35)) s (ins (l.take j)) := ⟨hM.rep.alloc _, hM.srt, hM.cnt, hM.mm, hM.tree⟩
      have hbxi := Bx.new wr [.int .i64 x.1, .int .i64 x.2] 35
      have hnS : ¬ S wr.heap.size := fun h => by have := hM.rep.rep.lt _ h; omega
      have hins := II.set_is hD hD2 hM2 hlen x
      rw [hm] at hins
      have HI := hidp hins
      have HT : Hid (put II.lt (ins (l.take j)) x = ins (l.take (j + 1))) := hidp (II.ins_take hx).symm
      have HMm := hidp hm
      have HS := hidp hS
      have HROW := hidp (And.intro (hrow.alloc (.cells #[.int .i64 x.1, .int .i64 x.2] 35)) (And.intro hg (And.intro hbxi hnS)))
      have hgl : ∀ k, g = some k → k < wr.heap.size := fun k hk => by rw [hk] at hrow; exact hrow.lt
      have HGL := hidp hgl
      have HBL := hidp (hb.alloc hb.size (.cells #[.int .i64 x.1, .int .i64 x.2] 35))
      have jlt : (j : Int) < (l.length : Int) := by omega
      have hsz : w.heap.size ≤ wr.heap.size := hb.size
      obtain ⟨oa, ocap, ho⟩ := hrow.len
      subst ho
      clear hS hM hM2 hb hins hx hlen hm hrow hg hbxi hnS hgl
      go_wp2_with fail
      refine HI.out.mono ?_
      intro e w2 hp
      obtain ⟨vv, bb, rfl⟩ := hp.form
      obtain ⟨S', s', _, hE, hM', hm', _⟩ := hp
      have hS' : ∀ i, S' i → w.heap.size ≤ i := fun i hi => (hE.new i hi).elim (HS.out i) (fun h => by rw [World.size_alloc] at h; omega)
      have hB2 := HBL.out.trans (hE.below (by rw [World.size_alloc]; omega) HS.out)
      have hR2 := HROW.out.1.keep hE.fr (fun b hb => (HROW.out.2.1 b hb).2)
      have hg2 : ∀ b, g = some b → w.heap.size ≤ b ∧ ¬ S' b := fun b hb => ⟨(HROW.out.2.1 b hb).1, hE.notin (by rw [World.size_alloc]; have := HGL.out b hb; omega) (HROW.out.2.1 b hb).2⟩
      have hbx2 := hE.bx HROW.out.2.2.1 HROW.out.2.2.2
      have k0 := hbx2.cell 0 rfl
      have hs2 := hE.fr.size
      rw [World.size_alloc] at hs2
      have HN := hidp (And.intro hM' (And.intro hm' (And.intro hS' (And.intro hB2 (And.intro hR2 hg2)))))
      have HP := hidp (pair_is w2 x.1 vv bb)
      clear hE hM' hm' hS' HI hB2 hR2 hg2 hbx2 HBL HROW HGL
      go_wp2_with fail
      refine HP.out.mono ?_
      rintro e w3 ⟨rfl, hb3⟩
      obtain ⟨f1, f2, f3, hf⟩ := fdv_form x.1 vv bb
      rw [hf]
      have hs3 := hb3.size
      have HN3 := hidp (And.intro (mapIs_below HN.out.1 hb3) (And.intro (ND.Row.below HN.out.2.2.2.2.1 hb3) (HN.out.2.2.2.1.trans (hb3.mono (by have := HN.out.2.2.2.1.size; omega)))))
      clear hb3 HP hf k0
      go_wp2_with (at_builtin; go_must (refine wpList_row rfl (.tmp 29) (.tmp 35) _ rfl 37 i0 _ 3 24 Try.underlying66 HI0.out HZ0.out HZ1.out HZ2.out rfl (by decide) (.slice oa j ocap) j xs g rfl (HN3.out.2.1.alloc _) ⟨w3.heap.size, 0, none⟩ 1 1 [.int .i64 f1, .int .i64 f2, .bool f3] rfl (by decide) rfl (fun q u hq => by rw [Addr.add_lit, Nat.zero_add]; exact (Bx.new w3 [.int .i64 f1, .int .i64 f2, .bool f3] 37).cell q hq) (by simp [Value.oneCell']) (by unfold maxLen; omega) (by omega) ?_))
      intro v4 w4 g4 hr4 hg4 hF4
      have hM4 : MapIs D S' w4 s' (ins (l.take (j + 1))) := by
        rw [← HT.out]
        have h1 : MapIs D S' (w3.alloc (.cells #[.int .i64 f1, .int .i64 f2, .bool f3] 37)) s' (put II.lt (ins (l.take j)) x) := HN3.out.1.keep ((Fr.refl (fun _ => False) w3).alloc _) (fun _ _ h => h)
        exact h1.keep hF4 (fun i hi hgi => (HN.out.2.2.2.2.2 i hgi).2 hi)
      have hg4' : ∀ b, some g4 = some b → w.heap.size ≤ b ∧ ¬ S' b := fun b hb => by
        obtain rfl := Option.some.inj hb
        rcases hg4 with h | h
        · exact HN.out.2.2.2.2.2 _ h
        · try rw [World.size_alloc] at h
          exact ⟨by have := HN3.out.2.2.size; omega, fun hs => by have := HN3.out.1.rep.rep.lt _ hs; omega⟩
      have hB4 : Below w.heap.size w w4 := (HN3.out.2.2.alloc HN3.out.2.2.size _).trans (hF4.below (by rw [World.size_alloc]; have := HN3.out.2.2.size; omega) (fun i hi => (HN.out.2.2.2.2.2 i hi).1))
      have HF := hidp (And.intro hM4 (And.intro hr4 (And.intro hg4' hB4)))
      clear hM4 hr4 hg4 hg4' hB4 hF4
      go_wp2
      go_roundw
      case rel => exact ⟨j + 1, by omega, by go_num, hidp ⟨S', s', _, some g4, HN.out.2.1.trans HMm.out, HN.out.2.2.1, HF.out.1, HF.out.2.2.2, HF.out.2.1, HF.out.2.2.1⟩⟩
      case measure => simp [intOf]; omega
    · obtain rfl : j = l.length := by omega
      rw [List.take_length] at hM
      have hlen : (ins l).length ≤ 1000000000000 := by have := II.ins_length l; omega
      have hent := entries_is hD2 hM hlen
      rw [hm] at hent
      have HE := hidp hent
      have HF := hidp hb
      clear hm hM hb hS hrow hg hent
      go_wp2_with fail
      refine HE.out.mono ?_
      rintro e w2 ⟨u, g2, rfl, hr2, hg2, hb2⟩
      have HX := hidp (And.intro hr2 (And.intro (fun b hb => Nat.le_trans HF.out.size (hg2 b hb)) (HF.out.trans (hb2.mono HF.out.size))))
      clear hr2 hg2 hb2 HE
      go_wp2
      go_ret2
      exact ⟨_, u, g2, rfl, HX.out.1, HX.out.2.1, HX.out.2.2⟩

set_option maxHeartbeats 1000000 in
set_option maxRecDepth 100000 in
/-- 'MDescend' of one item. -/
theorem mdescend_is {D : Nat} (hD : 2 ≤ D) (hD2 : D ≤ 400) {v : Value} {l : List Im} (hv : Its w v l) (hl : l.length ≤ 4294967296) (x : Int) :
    Calls Try.prog 33 #[.int .i64 D, v, .int .i64 x, .int .i64 1] w (RowPost w (flr (ins l) (x, 0)).toList) := by
  have hz : Below w.heap.size w (w.alloc (.cells #[.slice none 0 0] 22)) := (Below.refl _ _).alloc (Nat.le_refl _) _
  have HZ := hidp hz
  have HB := hidp (Bx.new w [.slice none 0 0] 22)
  have HG := hidp (grow_is (w := w.alloc (.cells #[.slice none 0 0] 22)) hD hD2 (hv.below hz) hl)
  clear hv hz
  go_enter Try.func33, Try.ntmps33
  go_wp2_with fail
  refine HG.out.mono ?_
  rintro e w1 ⟨S, s, rfl, hM, hb, hS⟩
  rw [World.size_alloc] at hb hS
  have hs1 : w.heap.size + 1 ≤ w1.heap.size := by have := hb.size; rwa [World.size_alloc] at this
  have HM := hidp (And.intro hM (And.intro hb hS))
  have HPS := hidp (pairs_is (w := w1) (bo := w.heap.size) true (by omega))
  simp only [nOne, if_true] at HPS
  clear hM hb hS HG
  go_wp2_with fail
  refine HPS.out.mono ?_
  rintro e w2 ⟨bt, rfl, hW, hF⟩
  have hs2 : w1.heap.size ≤ w2.heap.size := hF.size
  have hM2 := HM.out.1.keep hF (fun _ _ h => h)
  have hbx : Bx w1 w.heap.size [.slice none 0 0] := ⟨by omega, fun j v hj => by rw [M_block (HM.out.2.1.block _ (Nat.lt_succ_self _))]; exact HB.out.2 j v hj⟩
  have hT : Tk w2.heap.size w.heap.size w2 [] := Tk.start (by omega) hbx hF
  have hSS : ∀ i, S i → i < w2.heap.size ∧ i ≠ w.heap.size := fun i hi => ⟨hM2.rep.rep.lt i hi, fun e => by have := HM.out.2.2 i hi; omega⟩
  have HSC := hidp (II.Descend_is (w := w2) (pairs_fn (one := true) (s := s) (bt := bt) hSS) hD2 hM2 ⟨hT, hW⟩ (by decide) (x, 0))
  have HF2 := hidp ((HZ.out.trans (HM.out.2.1.mono (by omega))).trans (hF.below (by omega) (fun _ h => h.elim)))
  clear hW hF hM2 hbx hT hSS HPS HM
  go_wp2_with fail
  refine HSC.out.mono ?_
  rintro e w3 ⟨rfl, ⟨⟨_, _, u, g, hu, hr, hg⟩, _⟩, hF3⟩
  have cu := hu.cell 0 rfl
  have HX := hidp (And.intro hr (And.intro hg (HF2.out.trans (Fr.below hF3 (by omega) (fun i hi => hi.elim (fun e => by omega) (fun e => by omega))))))
  obtain ⟨a, cap, rfl⟩ := hr.len
  clear hu hr hg hF3 HSC HF2
  go_wp2
  go_ret
  exact ⟨_, g, rfl, HX.out.1, fun b hb => by have := HX.out.2.1 b hb; omega, HX.out.2.2⟩

theorem visit_one (l : List Im) : (II.visit (fun _ => false) [] l).1 = l.take 1 := by
  cases l with
  | nil => rfl
  | cons y l => simp [II.visit]
/-- What MAscend hands on. -/
def asc (one : Bool) (l : List Im) (x : Int) : List Im := if one then (from_ l (x, 0)).take 1 else from_ l (x, 0)
theorem visit_asc (one : Bool) (l : List Im) (x : Int) : (II.visit (fun _ => !one) [] (from_ l (x, 0))).1 = asc one l x := by
  cases one with
  | true => exact visit_one _
  | false =>
    have h := visit_all (from_ l (x, 0)) []
    simp only [List.nil_append] at h
    show (II.visit (fun _ => true) [] (from_ l (x, 0))).1 = _
    rw [h]; rfl

set_option maxHeartbeats 1000000 in
set_option maxRecDepth 100000 in
/-- 'MAscend' -/
theorem mascend_is (one : Bool) {D : Nat} (hD : 2 ≤ D) (hD2 : D ≤ 400) {v : Value} {l : List Im} (hv : Its w v l) (hl : l.length ≤ 4294967296) (x : Int) :
    Calls Try.prog 34 #[.int .i64 D, v, .int .i64 x, .int .i64 (nOne one)] w (RowPost w (asc one (ins l) x)) := by
  have hz : Below w.heap.size w (w.alloc (.cells #[.slice none 0 0] 22)) := (Below.refl _ _).alloc (Nat.le_refl _) _
  have HZ := hidp hz
  have HB := hidp (Bx.new w [.slice none 0 0] 22)
  have HG := hidp (grow_is (w := w.alloc (.cells #[.slice none 0 0] 22)) hD hD2 (hv.below hz) hl)
  clear hv hz
  go_enter Try.func34, Try.ntmps34
  go_wp2_with fail
  refine HG.out.mono ?_
  rintro e w1 ⟨S, s, rfl, hM, hb, hS⟩
  rw [World.size_alloc] at hb hS
  have hs1 : w.heap.size + 1 ≤ w1.heap.size := by have := hb.size; rwa [World.size_alloc] at this
  have HM := hidp (And.intro hM (And.intro hb hS))
  have HPS := hidp (pairs_is (w := w1) (bo := w.heap.size) one (by omega))
  clear hM hb hS HG
  go_wp2_with fail
  refine HPS.out.mono ?_
  rintro e w2 ⟨bt, rfl, hW, hF⟩
  have hs2 : w1.heap.size ≤ w2.heap.size := hF.size
  have hM2 := HM.out.1.keep hF (fun _ _ h => h)
  have hbx : Bx w1 w.heap.size [.slice none 0 0] := ⟨by omega, fun j v hj => by rw [M_block (HM.out.2.1.block _ (Nat.lt_succ_self _))]; exact HB.out.2 j v hj⟩
  have hT : Tk w2.heap.size w.heap.size w2 [] := Tk.start (by omega) hbx hF
  have hSS : ∀ i, S i → i < w2.heap.size ∧ i ≠ w.heap.size := fun i hi => ⟨hM2.rep.rep.lt i hi, fun e => by have := HM.out.2.2 i hi; omega⟩
  have hlen : (ins l).length ≤ 1000000000000 := by have := II.ins_length l; omega
  have HSC := hidp (II.Ascend_is (w := w2) (pairs_fn (one := one) (s := s) (bt := bt) hSS) hD2 hM2 ⟨hT, hW⟩ hlen (x, 0))
  have HF2 := hidp ((HZ.out.trans (HM.out.2.1.mono (by omega))).trans (hF.below (by omega) (fun _ h => h.elim)))
  clear hW hF hM2 hbx hT hSS HPS HM hlen
  go_wp2_with fail
  refine HSC.out.mono ?_
  rintro e w3 ⟨rfl, ⟨hT3, _⟩, hF3⟩
  rw [visit_asc] at hT3
  obtain ⟨_, _, u, g, hu, hr, hg⟩ := hT3
  have cu := hu.cell 0 rfl
  have HX := hidp (And.intro hr (And.intro hg (HF2.out.trans (Fr.below hF3 (by omega) (fun i hi => hi.elim (fun e => by omega) (fun e => by omega))))))
  obtain ⟨a, cap, rfl⟩ := hr.len
  clear hu hr hg hF3 HSC HF2
  go_wp2
  go_ret
  exact ⟨_, g, rfl, HX.out.1, fun b hb => by have := HX.out.2.1 b hb; omega, HX.out.2.2⟩

set_option maxHeartbeats 1000000 in
set_option maxRecDepth 100000 in
/-- 'slices.Clone' of items. -/
theorem clone_is {v : Value} {l : List Im} (hv : Its w v l) (hl : l.length ≤ 4294967296) :
    Calls Try.prog 38 #[v] w (RowPost w l) := by
  obtain ⟨a, cap, rfl, hlc, hi⟩ := hv.flat
  obtain ⟨i0, hi0, hz0, hz1, hz2⟩ := info_parts ND.infoM
  have HI0 := hidp hi0
  have HZ0 := hidp hz0
  have HZ1 := hidp hz1
  have HZ2 := hidp hz2
  have q22 : ∀ (w : World) (a : Option Addr) (n c n' c' : Nat), (binOp .eql 22 (.slice a n c) (.slice none n' c')).run Try.prog w = .ok (.bool a.isNone) w := fun w a n c n' c' => Lib.run_eql_slice_nil w _ _ a n c n' c' Try.underlying22
  have HI := hidp hi
  have HOC : Hid (∀ u ∈ itemCells EI l, u.oneCell' = true) := hidp (itemCells_one (E := EI) l)
  have HLN : Hid ((itemCells EI l).length = l.length * 2) := hidp (itemCells_length (E := EI) l)
  clear hi0 hz0 hz1 hz2 hi hv
  cases a with
  | none =>
    have h0 : l = [] := by
      cases l with
      | nil => rfl
      | cons y l =>
        obtain ⟨b, off, h, _⟩ := HI.out (by simp)
        cases h
    subst h0
    go_enter Try.func38, Try.ntmps38
    go_wp2
    go_ret
    exact ⟨_, none, rfl, Row.nil _ _, (fun b h => by cases h), Below.refl _ _⟩
  | some A =>
    have HCC : Hid (∀ j u, (itemCells EI l)[j]? = some u → (w.alloc (.cells #[] 35)).cell? (A.add j) = some u) := hidp fun j u hu => by
      have hb : Below w.heap.size w (w.alloc (.cells #[] 35)) := (Below.refl _ _).alloc (Nat.le_refl _) _
      have hjl := (List.getElem?_eq_some_iff.1 hu).1
      rw [HLN.out] at hjl
      obtain ⟨b, off, h, hlt, hcell⟩ := HI.out (by omega)
      injection h with h
      subst h
      rw [Addr.add_lit]
      exact (hb.cell (p := ⟨b, off + j, none⟩) hlt).trans (hcell j u hu)
    go_enter Try.func38, Try.ntmps38
    go_wp2_with (at_builtin; go_must (refine wpList_rows rfl (.tmp 5) (.tmp 6) _ rfl 35 i0 _ 2 16 Try.underlying22 HI0.out HZ0.out HZ1.out HZ2.out rfl (by decide) (.slice (some ⟨w.heap.size, 0, none⟩) 0 0) 0 [] w.heap.size rfl (Row.empty 2 w #[] 35) A l.length cap (itemCells EI l) ⟨_, rfl, fun _ => rfl⟩ HLN.out HCC.out HOC.out (by unfold maxLen; omega) (by omega) ?_))
    intro v2 w2 g2 hr2 hg2 hF2
    have hB : Below w.heap.size w w2 := ((Below.refl _ _).alloc (Nat.le_refl _) _).trans (hF2.below (by rw [World.size_alloc]; omega) (fun i hi => Nat.le_of_eq hi.symm))
    have hg3 : w.heap.size ≤ g2 := by
      rcases hg2 with h | h
      · omega
      · try rw [World.size_alloc] at h
        omega
    try simp only [Nat.zero_add, List.nil_append] at hr2
    have HX := hidp (And.intro hr2 (And.intro hg3 hB))
    obtain ⟨a3, c3, rfl⟩ := hr2.len
    clear hr2 hg2 hF2 hB hg3
    go_wp2
    go_ret
    exact ⟨_, some g2, rfl, HX.out.1, fun b hb => by obtain rfl := Option.some.inj hb; exact HX.out.2.1, HX.out.2.2⟩
end Go.Proofs.Ytehnobbiiokcgaa.Bt.P
