/- Maps from numbers to numbers: Descend with a function value that stops at once. -/
import Derived.Test.YtehnobbiiokcgaaBtIIs
import Derived.Deep.DeepCutAuto
namespace Go.Proofs.Ytehnobbiiokcgaa.Bt.II
set_option linter.unusedVariables false
set_option linter.unusedSimpArgs false
open Go Go.RowKit Go.Proofs.Ytehnobbiiokcgaa.Bt

/-! ### plain: the last item that does not come behind x -/
def flr (l : List It) (x : It) : Option It := if fnd lt l x then l[pos lt l x]? else if pos lt l x = 0 then none else l[pos lt l x - 1]?
/-- What a node hands on, whose child at x's place hands on z. -/
def flrN (l : List It) (x : It) (z : Option It) : Option It := if fnd lt l x then l[pos lt l x]? else match z with
  | some y => some y
  | none => if pos lt l x = 0 then none else l[pos lt l x - 1]?
theorem flr_look {l : List It} {x y : It} (h : look lt l x = some y) : flr l x = some y := by
  unfold flr
  rw [fnd_some h, if_pos rfl]; exact (look_some h).1
theorem flr_kid {xs : List It} {ls : List (List It)} {L : List It} {x : It} (hl : ls.length = xs.length + 1) (hs : Srt lt (weave xs ls)) (hL : ls[pos lt xs x]? = some L) : flr (weave xs ls) x = flrN xs x (flr L x) := by
  have hp := pos_le (lt := lt) xs x
  cases hk : look lt xs x with
  | some y =>
    rw [flr_look (look_its ord hl hs hk).1]
    unfold flrN
    rw [fnd_some hk, if_pos rfl]; exact (look_some hk).1.symm
  | none =>
    have e1 := (look_kid ord hl hs hk hL).1
    unfold flrN
    rw [fnd_none hk]
    simp only [Bool.false_eq_true, if_false]
    cases hkL : look lt L x with
    | some y =>
      rw [flr_look (e1.trans hkL), flr_look hkL]
    | none =>
      obtain ⟨hA, hB⟩ := around ord hl hL hs (hs.sublist (weave_sub xs ls)) hk
      have hpw : pos lt (weave xs ls) x = (wpre (pos lt xs x) xs ls).length + pos lt L x := by
        rw [weave_at _ _ _ _ hp hL, pos_mid hA (around' ord hB)]
      have hpl := pos_le (lt := lt) L x
      have hw := weave_at _ _ _ _ hp hL
      have e2 : flr L x = if pos lt L x = 0 then none else L[pos lt L x - 1]? := by unfold flr; rw [fnd_none hkL]; simp
      have e3 : flr (weave xs ls) x = if pos lt (weave xs ls) x = 0 then none else (weave xs ls)[pos lt (weave xs ls) x - 1]? := by unfold flr; rw [fnd_none (e1.trans hkL)]; simp
      rw [e2, e3, hpw]
      by_cases h0 : pos lt L x = 0
      · rw [if_pos h0, h0, Nat.add_zero]
        by_cases hx0 : pos lt xs x = 0
        · rw [hx0]; simp [wpre]
        · obtain ⟨j, hj⟩ : ∃ j, pos lt xs x = j + 1 := ⟨pos lt xs x - 1, by omega⟩
          obtain ⟨y, hy⟩ : ∃ y, xs[j]? = some y := ⟨xs[j]'(by omega), List.getElem?_eq_getElem _⟩
          obtain ⟨A, hAw⟩ := wpre_last j xs ls y (by omega) hy
          rw [hj] at hw ⊢
          rw [hw, hAw]
          simp [hy]
      · rw [if_neg h0, if_neg (by omega), hw, List.getElem?_append_right (by omega), show (wpre (pos lt xs x) xs ls).length + pos lt L x - 1 - (wpre (pos lt xs x) xs ls).length = pos lt L x - 1 by omega, List.getElem?_append_left (by omega), List.getElem?_eq_getElem (by omega)]

section
variable {S : Nat → Prop} {s : Sto It} {f : Nat} {lb : Array Value} {G : World → World → Prop} {Q : List It → World → Prop} {M : Nat} {w : World}

/-- What Descend of a node leaves, that hands on z at most. -/
def DePost (G : World → World → Prop) (Q : List It → World → Prop) (w : World) (xs : List It) (z : Option It) (e : Ending) (w' : World) : Prop :=
  e = .returned (.bool z.isNone) ∧ Q (xs ++ z.toList) w' ∧ G w w'

set_option maxHeartbeats 4000000 in
set_option maxRecDepth 100000 in
/-- 'nodeDescend' of a node, whose child at x's place hands on z. -/
theorem desc_node (F : Fn S s f lb G Q (fun _ => false) M) (R : RepS E S w s) {A : Addr} {n : Nat} {r : NodeR It} (hA : w.cell? A = some (pv (some n))) (hn : s.nd n = some r) (hi : r.iso = s.mp.iso) (hsrt : Srt lt r.items) {xs : List It} (hQ : Q xs w) (hlen : xs.length < M) (hl9 : r.items.length ≤ 100000) (x : It) {z : Option It} (hz : r.kids = none → z = none)
    (hkid : ∀ k, r.kids = some k → k.kids.length = r.items.length + 1 ∧ ∃ pc : Nat, k.kids[pos lt r.items x]? = some (some pc) ∧ ∀ (kb ko : Nat) w', k.base = some (kb, ko) → RepS E S w' s → Q xs w' → Calls Try.prog 113 #[.pointer (some ⟨s.m, 0, none⟩), .pointer (some ⟨kb, ko + pos lt r.items x, none⟩), Value.int .i64 x.1, .func (.func f) #[] lb, .bool false] w' (DePost G Q w' xs z)) :
    Calls Try.prog 113 #[.pointer (some ⟨s.m, 0, none⟩), .pointer (some A), Value.int .i64 x.1, .func (.func f) #[] lb, .bool false] w (DePost G Q w xs (flrN r.items x z)) := by
  have HISO := hidp (isoLoad_own R hA hn hi false)
  have HR := hidp R
  have HN := hidp hn
  have HF := hidp F
  have HQ0 := hidp hQ
  have HSRT := hidp hsrt
  have HZ := hidp hz
  have HKID := hidp hkid
  have eg := F.eg
  have hpl := pos_le (lt := lt) r.items x
  clear R hn hQ hA hi F hsrt hz hkid
  obtain ⟨o, ho⟩ : ∃ o, flrN r.items x z = o := ⟨_, rfl⟩
  rw [ho]
  unfold flrN at ho
  obtain ⟨p, hp⟩ : ∃ p, pos lt r.items x = p := ⟨_, rfl⟩
  obtain ⟨fd, hfd⟩ : ∃ fd, fnd lt r.items x = fd := ⟨_, rfl⟩
  rw [hp] at hpl HKID
  rw [hp, hfd] at ho
  have HO := hidp ho
  have HPF := hidp (And.intro hp hfd)
  have hfl : fd = true → p < r.items.length := fun h => by
    have h1 : (look lt r.items x).isSome = true := by rw [← fnd_look, hfd, h]
    obtain ⟨y, hy⟩ := Option.isSome_iff_exists.1 h1
    have := (look_some hy).2.2
    omega
  have HFL := hidp hfl
  clear hp hfd ho hfl
  obtain ⟨q, hq⟩ : ∃ q : Int, q = if fd then (p : Int) else (p : Int) - 1 := ⟨_, rfl⟩
  have HQQ := hidp hq
  clear hq
  go_enter Try.func113, Try.ntmps113
  go_wp2_with fail
  refine HISO.out.mono ?_
  rintro e w' ⟨rfl, a1, rfl⟩
  have HSE := hidp (search_is (HR.out.drewN a1) HN.out HSRT.out (by omega) x)
  rw [HPF.out.1, HPF.out.2] at HSE
  go_wp2_with fail
  refine HSE.out.mono ?_
  rintro e w' ⟨rfl, a2, rfl⟩
  have HB0 : Hid (Q xs ((w.drewN a1).drewN a2) ∧ G w ((w.drewN a1).drewN a2)) := hidp ⟨HF.out.qdrewN (HF.out.qdrewN HQ0.out a1) a2, HF.out.drewN (HF.out.drewN (HF.out.refl w) a1) a2⟩
  clear HQ0 HISO HSE
  generalize ((w.drewN a1).drewN a2) = wb at HB0 ⊢
  have HRb := hidp (HF.out.keep _ _ HR.out HB0.out.2)
  cases hk : r.kids with
  | none =>
    have hz0 := HZ.out hk
    subst hz0
    have n3 : wb.cell? ⟨n, 3, none⟩ = some (pv none) := by rw [(ncell HRb.out HN.out).2.2.2.2, hk]; rfl
    have HK := hidp hk
    clear hk HKID HZ
    go_upto_if 26 with (fail)
    go_cut [12] from 25 to 45 (fun u wx => u = .int .i64 q ∧ Hid (Q xs wx ∧ G w wx))
    case first =>
      cases fd with
      | true =>
        go_wp2
        go_meet
        exact ⟨by rw [HQQ.out]; simp, HB0⟩
      | false =>
        have hw1 : IntKind.i64.wrap ((p : Int) - 1) = (p : Int) - 1 := by rw [Last.i64_w, IntWalk.wrap64_in _ ⟨by omega, by omega⟩]
        go_wp2_with fail
        refine (leaf_raw n3).mono ?_
        rintro e w' ⟨rfl, rfl⟩
        clear n3
        go_wp2
        go_meet
        exact ⟨by rw [HQQ.out]; simp, HB0⟩
    case rest =>
      obtain ⟨rfl, HB1⟩ := hcut
      clear HB0 n3 HRb
      have HR1 := hidp (HF.out.keep _ _ HR.out HB1.out.2)
      go_wp2
      go_loopw [12] (fun i wr => i = .int .i64 q ∧ wr = wc) (fun _ _ => (0 : Nat))
      case atStart => exact ⟨rfl, rfl⟩
      case round =>
        obtain ⟨rfl, rfl⟩ := hrel
        by_cases hneg : fd = false ∧ p = 0
        · obtain ⟨rfl, rfl⟩ := hneg
          have ho := HO.out
          skip
          simp only [Bool.false_eq_true, if_false, if_true] at ho
          subst ho
          have hng : ¬ (0 : Int) ≤ q := by rw [HQQ.out]; simp
          go_wp2
          go_ret
          exact ⟨rfl, by simpa using HB1.out.1, HB1.out.2⟩
        · obtain ⟨j, hj, hjl⟩ : ∃ j : Nat, q = (j : Int) ∧ j < r.items.length ∧ r.items[j]? = o := by
            have ho := HO.out
            cases fd with
            | true => exact ⟨p, by rw [HQQ.out]; simp, HFL.out rfl, by simpa using ho⟩
            | false =>
              skip
              have hp9 : p ≠ 0 := fun h => hneg ⟨rfl, h⟩
              simp only [Bool.false_eq_true, if_false, if_neg hp9] at ho
              exact ⟨p - 1, by rw [HQQ.out]; simp; omega, by omega, ho⟩
          subst hj
          have HJ := hidp True.intro
          clear hneg
          obtain ⟨hlt, hoj⟩ := hjl
          obtain ⟨b, of, hb⟩ := HR1.out.ib_some HN.out (fun e => by rw [e] at hlt; simp at hlt)
          obtain ⟨y, hy⟩ : ∃ y, r.items[j]? = some y := ⟨r.items[j], List.getElem?_eq_getElem hlt⟩
          obtain rfl : o = some y := by rw [← hoj, hy]
          have cy := (icell HR1.out HN.out hb hy).2
          have cv := (icell HR1.out HN.out hb hy).1
          have n2' : wr.cell? ⟨n, 2, none⟩ = some (.slice (some ⟨b, of, none⟩) r.items.length r.icap) := by rw [(ncell HR1.out HN.out).2.2.2.1, hb]; rfl
          have jlt : (j : Int) < (r.items.length : Int) := by omega
          have jl0 : (0 : Int) ≤ (j : Int) := by omega
          have HC := hidp (HF.out.call xs y wr.drew (HF.out.qdrew _ _ HB1.out.1) HR1.out.drew hlen)
          have HBB := hidp hb
          have HY := hidp hy
          have HFA : Hid (∀ w2, G wr.drew w2 → w2.cell? ⟨n, 2, none⟩ = some (.slice (some ⟨b, of, none⟩) r.items.length r.icap) ∧ w2.cell? ⟨b, of + j * 2, none⟩ = some (Value.int .i64 y.2) ∧ w2.cell? ⟨b, of + j * 2 + 1, none⟩ = some (Value.int .i64 y.1)) := hidp fun w2 hb2 => by
            have R2 := HF.out.keep _ _ HR1.out.drew hb2
            exact ⟨by rw [(ncell R2 HN.out).2.2.2.1, HBB.out]; rfl, (icell R2 HN.out HBB.out HY.out).1, (icell R2 HN.out HBB.out HY.out).2⟩
          clear hb hy hoj HJ
          go_wp2_with fail
          go_region_held3 (fun w' => w'.cell? ⟨n, 2, none⟩ = some (.slice (some ⟨b, of, none⟩) r.items.length r.icap) ∧ w'.cell? ⟨b, of + j * 2, none⟩ = some (Value.int .i64 y.2) ∧ w'.cell? ⟨b, of + j * 2 + 1, none⟩ = some (Value.int .i64 y.1)) (go_keep)
            ((go_at_fn f
              refine HC.out.mono ?_
              rintro e w2 ⟨rfl, hQ2, hG2⟩
              have HX := hidp (And.intro hQ2 (HF.out.trans _ _ _ HB1.out.2 (HF.out.trans _ _ _ (HF.out.drew _ _ (HF.out.refl wr)) hG2)))
              obtain ⟨k1, k2, k3⟩ := HFA.out w2 hG2
              clear hQ2 hG2))
          go_wp2
          go_ret
          exact ⟨rfl, HX.out.1, HX.out.2⟩
  | some k =>
    obtain ⟨hkc, pc, hpc, hch⟩ := HKID.out k hk
    obtain ⟨kb, ko, hkb⟩ := HRb.out.kb_some HN.out hk (by intro e; rw [e] at hkc; simp at hkc)
    have HCH := hidp hch
    have HK := hidp hk
    have HKB := hidp hkb
    have n3 : wb.cell? ⟨n, 3, none⟩ = some (.pointer (some ⟨k.hdr, 0, none⟩)) := by rw [(ncell HRb.out HN.out).2.2.2.2, hk]; rfl
    have h0 : wb.cell? ⟨k.hdr, 0, none⟩ = some (.slice (some ⟨kb, ko, none⟩) (r.items.length + 1) k.cap) := by
      have := (HRb.out.hdr HN.out hk).cell 0 rfl
      rw [hkb, hkc] at this; exact this
    have c0 : wb.cell? ⟨kb, ko + p, none⟩ = some (.pointer (some ⟨pc, 0, none⟩)) := M_cell (HRb.out.kid HN.out hk hkb hpc)
    have hp0 : (0 : Int) ≤ (p : Int) := by omega
    have hp1 : (p : Int) < ((r.items.length + 1 : Nat) : Int) := by omega
    clear hk hch hkb hkc hpc HKID HZ
    by_cases hstop : fd = false ∧ z.isSome = true
    · obtain ⟨rfl, hzs⟩ := hstop
      obtain ⟨y, rfl⟩ := Option.isSome_iff_exists.1 hzs
      have hoy := HO.out
      simp only [Bool.false_eq_true, if_false] at hoy
      subst hoy
      have hc := HCH.out kb ko wb HKB.out HRb.out HB0.out.1
      unfold DePost at hc
      simp only [Option.isNone_some] at hc
      have HC := hidp hc
      clear hc hzs HCH
      go_wp2_with fail
      refine (leaf_raw (p := some k.hdr) n3).mono ?_
      rintro e w' ⟨rfl, rfl⟩
      go_wp2_with fail
      refine HC.out.mono ?_
      rintro e w2 ⟨rfl, hQ2, hG2⟩
      have HX := hidp (And.intro hQ2 (HF.out.trans _ _ _ HB0.out.2 hG2))
      clear hQ2 hG2 HC
      go_wp2
      go_ret
      exact ⟨rfl, HX.out.1, HX.out.2⟩
    · have hzn : fd = false → z = none := fun h => by
        cases z with
        | none => rfl
        | some y => exact absurd ⟨h, rfl⟩ hstop
      have HZN := hidp hzn
      clear hstop hzn
      go_upto_if 26 with (fail)
      go_cut [12] from 25 to 45 (fun u wx => u = .int .i64 q ∧ Hid (Q xs wx ∧ G w wx))
      case first =>
        cases fd with
        | true =>
          go_wp2
          go_meet
          exact ⟨by rw [HQQ.out]; simp, HB0⟩
        | false =>
          have hzz := HZN.out rfl
          subst hzz
          have hw1 : IntKind.i64.wrap ((p : Int) - 1) = (p : Int) - 1 := by rw [Last.i64_w, IntWalk.wrap64_in _ ⟨by omega, by omega⟩]
          have hc := HCH.out kb ko wb HKB.out HRb.out HB0.out.1
          unfold DePost at hc
          simp only [Option.isNone_none, Option.toList_none, List.append_nil] at hc
          have HC := hidp hc
          clear hc HCH
          go_wp2_with fail
          refine (leaf_raw (p := some k.hdr) n3).mono ?_
          rintro e w' ⟨rfl, rfl⟩
          go_wp2_with fail
          refine HC.out.mono ?_
          rintro e w2 ⟨rfl, hQ2, hG2⟩
          have HX := hidp (And.intro hQ2 (HF.out.trans _ _ _ HB0.out.2 hG2))
          clear hQ2 hG2 HC n3 h0 c0
          go_wp2
          go_meet
          exact ⟨by rw [HQQ.out]; simp, HX⟩
      case rest =>
        obtain ⟨rfl, HB1⟩ := hcut
        clear HB0 n3 HRb h0 c0 HCH HKB
        have HR1 := hidp (HF.out.keep _ _ HR.out HB1.out.2)
        go_wp2
        go_loopw [12] (fun i wr => i = .int .i64 q ∧ wr = wc) (fun _ _ => (0 : Nat))
        case atStart => exact ⟨rfl, rfl⟩
        case round =>
          obtain ⟨rfl, rfl⟩ := hrel
          by_cases hneg : fd = false ∧ p = 0
          · obtain ⟨rfl, rfl⟩ := hneg
            have ho := HO.out
            have hzz := HZN.out rfl; subst hzz
            simp only [Bool.false_eq_true, if_false, if_true] at ho
            subst ho
            have hng : ¬ (0 : Int) ≤ q := by rw [HQQ.out]; simp
            go_wp2
            go_ret
            exact ⟨rfl, by simpa using HB1.out.1, HB1.out.2⟩
          · obtain ⟨j, hj, hjl⟩ : ∃ j : Nat, q = (j : Int) ∧ j < r.items.length ∧ r.items[j]? = o := by
              have ho := HO.out
              cases fd with
              | true => exact ⟨p, by rw [HQQ.out]; simp, HFL.out rfl, by simpa using ho⟩
              | false =>
                have hzz := HZN.out rfl; subst hzz
                have hp9 : p ≠ 0 := fun h => hneg ⟨rfl, h⟩
                simp only [Bool.false_eq_true, if_false, if_neg hp9] at ho
                exact ⟨p - 1, by rw [HQQ.out]; simp; omega, by omega, ho⟩
            subst hj
            have HJ := hidp True.intro
            clear hneg
            obtain ⟨hlt, hoj⟩ := hjl
            obtain ⟨b, of, hb⟩ := HR1.out.ib_some HN.out (fun e => by rw [e] at hlt; simp at hlt)
            obtain ⟨y, hy⟩ : ∃ y, r.items[j]? = some y := ⟨r.items[j], List.getElem?_eq_getElem hlt⟩
            obtain rfl : o = some y := by rw [← hoj, hy]
            have cy := (icell HR1.out HN.out hb hy).2
            have cv := (icell HR1.out HN.out hb hy).1
            have n2' : wr.cell? ⟨n, 2, none⟩ = some (.slice (some ⟨b, of, none⟩) r.items.length r.icap) := by rw [(ncell HR1.out HN.out).2.2.2.1, hb]; rfl
            have jlt : (j : Int) < (r.items.length : Int) := by omega
            have jl0 : (0 : Int) ≤ (j : Int) := by omega
            have HC := hidp (HF.out.call xs y wr.drew (HF.out.qdrew _ _ HB1.out.1) HR1.out.drew hlen)
            have HBB := hidp hb
            have HY := hidp hy
            have HFA : Hid (∀ w2, G wr.drew w2 → w2.cell? ⟨n, 2, none⟩ = some (.slice (some ⟨b, of, none⟩) r.items.length r.icap) ∧ w2.cell? ⟨b, of + j * 2, none⟩ = some (Value.int .i64 y.2) ∧ w2.cell? ⟨b, of + j * 2 + 1, none⟩ = some (Value.int .i64 y.1)) := hidp fun w2 hb2 => by
              have R2 := HF.out.keep _ _ HR1.out.drew hb2
              exact ⟨by rw [(ncell R2 HN.out).2.2.2.1, HBB.out]; rfl, (icell R2 HN.out HBB.out HY.out).1, (icell R2 HN.out HBB.out HY.out).2⟩
            clear hb hy hoj HJ
            go_wp2_with fail
            go_region_held3 (fun w' => w'.cell? ⟨n, 2, none⟩ = some (.slice (some ⟨b, of, none⟩) r.items.length r.icap) ∧ w'.cell? ⟨b, of + j * 2, none⟩ = some (Value.int .i64 y.2) ∧ w'.cell? ⟨b, of + j * 2 + 1, none⟩ = some (Value.int .i64 y.1)) (go_keep)
              ((go_at_fn f
                refine HC.out.mono ?_
                rintro e w2 ⟨rfl, hQ2, hG2⟩
                have HX := hidp (And.intro hQ2 (HF.out.trans _ _ _ HB1.out.2 (HF.out.trans _ _ _ (HF.out.drew _ _ (HF.out.refl wr)) hG2)))
                obtain ⟨k1, k2, k3⟩ := HFA.out w2 hG2
                clear hQ2 hG2))
            go_wp2
            go_ret
            exact ⟨rfl, HX.out.1, HX.out.2⟩
end

section
variable {S : Nat → Prop} {s : Sto It} {f : Nat} {lb : Array Value} {G : World → World → Prop} {Q : List It → World → Prop} {M : Nat} {w : World}

/-- 'nodeDescend' -/
theorem desc_tr (F : Fn S s f lb G Q (fun _ => false) M) : ∀ (h : Nat) {w : World} (_ : RepS E S w s) {A : Addr} {n : Nat} {t : BT It h} {ids : List Nat} (_ : w.cell? A = some (pv (some n))) (_ : Tr s.nd s.mp.iso h n t ids) {mn mx lo : Nat} (_ : BT.ok mn mx lo h t) (_ : mx ≤ 100000) (_ : Srt lt (BT.all h t)) {xs : List It} (_ : Q xs w) (_ : xs.length < M) (x : It),
    Calls Try.prog 113 #[.pointer (some ⟨s.m, 0, none⟩), .pointer (some A), Value.int .i64 x.1, .func (.func f) #[] lb, .bool false] w (DePost G Q w xs (flr (BT.all h t) x))
  | 0, w, R, A, n, t, ids, hA, T, mn, mx, lo, hok, hmx, hs, xs, hQ, hlen, x => by
    obtain ⟨_, r, h1, h2, h3, h4, _⟩ := T
    subst h3
    have e : flr (BT.all 0 r.items) x = flrN r.items x none := rfl
    rw [e]
    exact desc_node F R hA h1 h2 hs hQ hlen (Nat.le_trans hok.2 hmx) x (fun _ => rfl) (fun k hk => by rw [h4] at hk; cases hk)
  | h + 1, w, R, A, n, t, ids, hA, T, mn, mx, lo, hok, hmx, hs, xs, hQ, hlen, x => by
    obtain ⟨r, k, ps, idss, hn, a2, a3, a4, a5, a6, a7, a8, a9, a10⟩ := T
    have hkl2 := hok.2.2.1
    have hkk : k.kids.length = t.2.length := by rw [a5, List.length_map, a7]
    have hpl := pos_le (lt := lt) t.1 x
    have hll : (t.2.map (BT.all h)).length = t.1.length + 1 := by rw [List.length_map]; exact hkl2
    obtain ⟨p, hp⟩ : ∃ p, ps[pos lt t.1 x]? = some p := ⟨ps[pos lt t.1 x]'(by omega), List.getElem?_eq_getElem _⟩
    obtain ⟨c, hc⟩ : ∃ c, t.2[pos lt t.1 x]? = some c := ⟨t.2[pos lt t.1 x]'(by omega), List.getElem?_eq_getElem _⟩
    obtain ⟨is, his⟩ : ∃ is, idss[pos lt t.1 x]? = some is := ⟨idss[pos lt t.1 x]'(by omega), List.getElem?_eq_getElem _⟩
    have hL : (t.2.map (BT.all h))[pos lt t.1 x]? = some (BT.all h c) := by rw [List.getElem?_map, hc]; rfl
    have hs' : Srt lt (weave t.1 (t.2.map (BT.all h))) := hs
    have e : flr (BT.all (h + 1) t) x = flrN r.items x (flr (BT.all h c) x) := by
      show flr (weave t.1 (t.2.map (BT.all h))) x = _
      rw [flr_kid hll hs' hL, a3]
    rw [e]
    have hxs : Srt lt r.items := by rw [a3]; exact hs'.sublist (weave_sub _ _)
    refine desc_node F R hA hn a2 hxs hQ hlen (by rw [a3]; exact Nat.le_trans hok.2.1 hmx) x (fun hk => by rw [a4] at hk; cases hk) (fun k' hk' => ?_)
    rw [a4] at hk'
    obtain rfl := Option.some.inj hk'
    rw [a3]
    have hkp : k.kids[pos lt t.1 x]? = some (some p) := by rw [a5, List.getElem?_map, hp]; rfl
    refine ⟨by omega, p, hkp, fun kb ko w' hkb R' hQ' => ?_⟩
    have hsub : (BT.all h c).Sublist (weave t.1 (t.2.map (BT.all h))) := weave_kid hpl hL
    exact desc_tr F h R' (A := ⟨kb, ko + pos lt t.1 x, none⟩) (M_cell (R'.kid hn a4 hkb hkp)) (a10 _ p c is hp hc his) (hok.2.2.2 c (List.mem_of_getElem? hc)) hmx (hs'.sublist hsub) hQ' hlen x
end

variable {S : Nat → Prop} {s : Sto It} {f : Nat} {lb : Array Value} {G : World → World → Prop} {Q : List It → World → Prop} {M : Nat} {w : World}

/-- What 'Descend' leaves. -/
def DescPost (G : World → World → Prop) (Q : List It → World → Prop) (w : World) (z : Option It) (e : Ending) (w' : World) : Prop :=
  e = .returned (.tuple #[]) ∧ Q z.toList w' ∧ G w w'

set_option maxRecDepth 100000 in
/-- 'descend' -/
theorem descend_is (F : Fn S s f lb G Q (fun _ => false) M) {D : Nat} (hD2 : D ≤ 400) {l : List It} (m : MapIs D S w s l) (hQ : Q [] w) (hl : 0 < M) (x : It) :
    Calls Try.prog 102 #[.pointer (some ⟨s.m, 0, none⟩), Value.int .i64 x.1, .func (.func f) #[] lb, .bool false] w (DescPost G Q w (flr l x)) := by
  have m2 := (mcell m.rep).2.2.2.1
  rcases m.tree with ⟨hr, rfl⟩ | ⟨h, n, t, ids, hr, T, hd, hok, rfl⟩
  · have m2' : w.cell? ⟨s.m, 2, none⟩ = some (.pointer none) := by rw [m2, hr]; rfl
    have e0 : flr ([] : List It) x = none := rfl
    rw [e0]
    have HX := hidp (And.intro hQ (F.refl w))
    clear m m2 hQ F
    go_enter Try.func102, Try.ntmps102
    go_wp2
    go_end0
    exact ⟨rfl, HX.out.1, HX.out.2⟩
  · have m2' : w.cell? ⟨s.m, 2, none⟩ = some (.pointer (some ⟨n, 0, none⟩)) := by rw [m2, hr]; rfl
    have HC := hidp (desc_tr F h m.rep (A := ⟨s.m, 2, none⟩) m2' T hok (by omega) m.srt hQ (by simpa using hl) x)
    clear m m2 hQ F hr T hd hok
    go_enter Try.func102, Try.ntmps102
    go_wp2_with fail
    refine HC.out.mono ?_
    rintro e w' ⟨rfl, hQ', hG'⟩
    have HX := hidp (And.intro hQ' hG')
    clear hQ' hG' HC
    go_wp2
    go_end0
    exact ⟨rfl, HX.out.1, HX.out.2⟩
/-- 'Descend' -/
theorem Descend_is (F : Fn S s f lb G Q (fun _ => false) M) {D : Nat} (hD2 : D ≤ 400) {l : List It} (m : MapIs D S w s l) (hQ : Q [] w) (hl : 0 < M) (x : It) :
    Calls Try.prog 71 #[.pointer (some ⟨s.m, 0, none⟩), Value.int .i64 x.1, .func (.func f) #[] lb] w (DescPost G Q w (flr l x)) := by
  have HC := hidp (descend_is F hD2 m hQ hl x)
  clear m hQ F
  go_enter Try.func71, Try.ntmps71
  go_wp2_with fail
  refine HC.out.mono ?_
  rintro e w' ⟨rfl, hQ', hG'⟩
  have HX := hidp (And.intro hQ' hG')
  clear hQ' hG' HC
  go_wp2
  go_end0
  exact ⟨rfl, HX.out.1, HX.out.2⟩
end Go.Proofs.Ytehnobbiiokcgaa.Bt.II
