/- Maps from strings: nodeReverse with the function that keeps the words; WReverse. -/
import Derived.Test.YtbfaldccnaekeaaBtWt
namespace Go.Proofs.Ytbfaldccnaekeaa.Bt
set_option linter.unusedVariables false
set_option linter.unusedSimpArgs false
variable {I : Type}
/-- What lies behind the first m pairs. -/
def wsuf (m : Nat) (xs : List I) (ls : List (List I)) : List I := weave (xs.drop m) (ls.drop m)
theorem wsuf_step {m : Nat} {xs : List I} {ls : List (List I)} {x : I} {l : List I} (hx : xs[m]? = some x) (hl : ls[m]? = some l) : wsuf m xs ls = l ++ x :: wsuf (m + 1) xs ls := by
  unfold wsuf
  rw [List.drop_eq_getElem_cons' hx, List.drop_eq_getElem_cons' hl]; rfl
theorem wsuf_end {xs : List I} {ls : List (List I)} {l : List I} (h : ls.length = xs.length + 1) (hl : ls[xs.length]? = some l) : wsuf xs.length xs ls = l := by
  unfold wsuf
  rw [List.drop_eq_getElem_cons' hl, List.drop_eq_nil_of_le (by omega), List.drop_eq_nil_of_le (by omega)]
  simp [weave]
theorem wsuf_zero (xs : List I) (ls : List (List I)) : wsuf 0 xs ls = weave xs ls := rfl
end Go.Proofs.Ytbfaldccnaekeaa.Bt
namespace Go.Proofs.Ytbfaldccnaekeaa.Bt.SI
open Go Go.RowKit Go.Proofs.Ytbfaldccnaekeaa.Bt
open Go.Proofs.Ytbfaldccnaekeaa.Bt.W (Tk Wf FrT TkPost word_is)

variable {S : Nat → Prop} {w : World} {s : Sto It}

set_option maxHeartbeats 2000000 in
set_option maxRecDepth 100000 in
/-- 'nodeReverse' of a leaf. -/
theorem rv_leaf (R : RepS E S w s) {B bo bt : Nat} (hS : ∀ i, S i → i < B ∧ i ≠ bo) {A : Addr} {n : Nat} {r : NodeR It} (hA : w.cell? A = some (pv (some n))) (hn : s.nd n = some r) (hi : r.iso = s.mp.iso) (hk : r.kids = none) {xs : List It} (hT : Tk B bo w xs) (hW : Wf B bo bt w) (hlen : xs.length + r.items.length ≤ 1000000000000) :
    Calls Try.prog 156 #[.pointer (some ⟨s.m, 0, none⟩), .pointer (some A), .func (.func 110) #[] #[.pointer (some ⟨bt, 0, none⟩)], .bool false] w (TkPost B bo w (xs ++ r.items.reverse)) := by
  have hB := hT.2.1
  have HISO := hidp (isoLoad_own R hA hn hi false)
  have HR := hidp R
  have HN := hidp hn
  have HS := hidp hS
  have HT0 := hidp hT
  have HW := hidp hW
  have HK := hidp hk
  clear R hn hS hT hW hk hA hi
  go_enter Try.func156, Try.ntmps156
  go_wp2_with fail
  refine HISO.out.mono ?_
  rintro e w' ⟨rfl, a1, rfl⟩
  have n3 : (w.drewN a1).cell? ⟨n, 3, none⟩ = some (pv none) := by rw [(ncell (HR.out.drewN a1) HN.out).2.2.2.2, HK.out]; rfl
  have HB0 : Hid (Tk B bo (w.drewN a1) xs ∧ FrT B bo w (w.drewN a1)) := hidp ⟨HT0.out.drewN a1, (Fr.refl _ w).drewN a1⟩
  clear HT0 HISO
  go_wp2_with fail
  refine (leaf_raw n3).mono ?_
  rintro e w' ⟨rfl, rfl⟩
  clear n3
  generalize w.drewN a1 = wb at HB0 ⊢
  obtain ⟨bz, nz⟩ : ∃ ba, wb.cell? ⟨n, 2, none⟩ = some (.slice ba r.items.length r.icap) := ⟨_, (ncell (keepT HR.out HS.out HB0.out.2) HN.out).2.2.2.1⟩
  have hwz : IntKind.i64.wrap ((r.items.length : Int) - 1) = (r.items.length : Int) - 1 := by rw [Last.i64_w, IntWalk.wrap64_in _ ⟨by omega, by omega⟩]
  go_wp2
  go_loopw [10] (fun i wr => ∃ j : Nat, j ≤ r.items.length ∧ i = .int .i64 ((j : Int) - 1) ∧ Hid (Tk B bo wr (xs ++ (r.items.drop j).reverse) ∧ FrT B bo w wr)) (fun i _ => (intOf i + 1).toNat)
  case atStart => exact ⟨r.items.length, Nat.le_refl _, by go_num, hidp ⟨by simpa using HB0.out.1, HB0.out.2⟩⟩
  case round =>
    obtain ⟨j, hj, rfl, HL⟩ := hrel
    have HR1 := hidp (keepT HR.out HS.out HL.out.2)
    have HW1 := hidp (HW.out.fr hB HL.out.2)
    rcases j with _ | j
    · have HF := hidp HL.out
      have hneg : ¬ (0 : Int) ≤ ((0 : Nat) : Int) - 1 := by omega
      clear HL HR1 HW1 nz
      go_wp2
      go_ret
      refine ⟨rfl, ?_, HF.out.2⟩
      have := HF.out.1
      rwa [List.drop_zero] at this
    · have hlt : j < r.items.length := by omega
      have e1 : ((j + 1 : Nat) : Int) - 1 = (j : Int) := by omega
      rw [e1]
      obtain ⟨b, o, hb⟩ := HR1.out.ib_some HN.out (fun e => by rw [e] at hlt; simp at hlt)
      obtain ⟨y, hy⟩ : ∃ y, r.items[j]? = some y := ⟨r.items[j], List.getElem?_eq_getElem hlt⟩
      have cy := (icell HR1.out HN.out hb hy).2
      have cv := (icell HR1.out HN.out hb hy).1
      have n2' : wr.cell? ⟨n, 2, none⟩ = some (.slice (some ⟨b, o, none⟩) r.items.length r.icap) := by rw [(ncell HR1.out HN.out).2.2.2.1, hb]; rfl
      have HTK : Hid (xs ++ (r.items.drop j).reverse = (xs ++ (r.items.drop (j + 1)).reverse) ++ [y]) := hidp (by rw [List.drop_eq_getElem_cons' hy]; simp)
      have jlt : (j : Int) < (r.items.length : Int) := by omega
      have j0 : (0 : Int) ≤ (j : Int) := by omega
      have hl1 : (xs ++ (r.items.drop (j + 1)).reverse).length ≤ 1000000000000 := by rw [List.length_append, List.length_reverse, List.length_drop]; omega
      have HC := hidp (word_is (w := wr.drew) HL.out.1.drew HW1.out.drew hl1 y)
      have HFA : Hid (∀ w2, FrT B bo wr.drew w2 → w2.cell? ⟨n, 2, none⟩ = some (.slice (some ⟨b, o, none⟩) r.items.length r.icap) ∧ w2.cell? ⟨b, o + j * 2, none⟩ = some (.int .i64 y.2) ∧ w2.cell? ⟨b, o + j * 2 + 1, none⟩ = some (.string y.1)) := hidp fun w2 hb2 => by
        have R2 := keepT HR1.out.drew HS.out hb2
        exact ⟨by rw [(ncell R2 HN.out).2.2.2.1, hb]; rfl, (icell R2 HN.out hb hy).1, (icell R2 HN.out hb hy).2⟩
      have hwj : IntKind.i64.wrap ((j : Int) - 1) = (j : Int) - 1 := by rw [Last.i64_w, IntWalk.wrap64_in _ ⟨by omega, by omega⟩]
      clear hb hy hl1 HR1 HW1 nz e1
      go_wp2_with fail
      go_region_held3 (fun w' => w'.cell? ⟨n, 2, none⟩ = some (.slice (some ⟨b, o, none⟩) r.items.length r.icap) ∧ w'.cell? ⟨b, o + j * 2, none⟩ = some (.int .i64 y.2) ∧ w'.cell? ⟨b, o + j * 2 + 1, none⟩ = some (.string y.1)) (go_keep)
        ((go_at_call 110
          refine HC.out.mono ?_
          rintro e w2 ⟨rfl, hT2, hF2⟩
          have HX := hidp (And.intro hT2 (FrT.trans HL.out.2 (FrT.trans (Fr.drew (Fr.refl _ wr)) hF2)))
          obtain ⟨k1, k2, k3⟩ := HFA.out w2 hF2
          clear hT2 hF2))
      go_wp2
      go_roundw
      case rel => exact ⟨j, by omega, by go_num, hidp ⟨by rw [HTK.out]; exact HX.out.1, HX.out.2⟩⟩
      case measure => simp [intOf]

def RVIH (h : Nat) : Prop := ∀ {S : Nat → Prop} {w : World} {s : Sto It} (_ : RepS E S w s) {B bo bt : Nat} (_ : ∀ i, S i → i < B ∧ i ≠ bo) {A : Addr} {n : Nat} {t : BT It h} {ids : List Nat} (_ : w.cell? A = some (pv (some n))) (_ : Tr s.nd s.mp.iso h n t ids) {mn mx lo : Nat} (_ : BT.ok mn mx lo h t) {xs : List It} (_ : Tk B bo w xs) (_ : Wf B bo bt w) (_ : xs.length + (BT.all h t).length ≤ 1000000000000),
    Calls Try.prog 156 #[.pointer (some ⟨s.m, 0, none⟩), .pointer (some A), .func (.func 110) #[] #[.pointer (some ⟨bt, 0, none⟩)], .bool false] w (TkPost B bo w (xs ++ (BT.all h t).reverse))

set_option maxHeartbeats 2000000 in
set_option maxRecDepth 100000 in
theorem rv_inner {h : Nat} (IH : RVIH h) : RVIH (h + 1) := by
  intro S w s R B bo bt hS A n t ids hA T mn mx lo hok xs hT0 hW0 hlen
  have hB := hT0.2.1
  obtain ⟨r, k, ps, idss, hn, a2, a3, a4, a5, a6, a7, a8, a9, a10⟩ := T
  have hkl2 := hok.2.2.1
  have hri : r.items.length = t.1.length := by rw [a3]
  have hkk : k.kids.length = t.2.length := by rw [a5, List.length_map, a7]
  obtain ⟨kb, ko, hkb⟩ := R.kb_some hn a4 (by intro e; rw [e] at hkk; simp at hkk; omega)
  have HISO := hidp (isoLoad_own R hA hn a2 false)
  have HR := hidp R
  have HN := hidp hn
  have HS := hidp hS
  have HT0 := hidp hT0
  have HW := hidp hW0
  have HK := hidp a4
  have HKB := hidp hkb
  have HP : Hid (∀ j, j ≤ t.1.length → ∃ p c is, k.kids[j]? = some (some p) ∧ t.2[j]? = some c ∧ (t.2.map (BT.all h))[j]? = some (BT.all h c) ∧ Tr s.nd s.mp.iso h p c is ∧ BT.ok mn mx mn h c) := hidp fun j hj => by
    obtain ⟨p, hp⟩ : ∃ p, ps[j]? = some p := ⟨ps[j]'(by omega), List.getElem?_eq_getElem _⟩
    obtain ⟨c, hc⟩ : ∃ c, t.2[j]? = some c := ⟨t.2[j]'(by omega), List.getElem?_eq_getElem _⟩
    obtain ⟨is, his⟩ : ∃ is, idss[j]? = some is := ⟨idss[j]'(by omega), List.getElem?_eq_getElem _⟩
    exact ⟨p, c, is, by rw [a5, List.getElem?_map, hp]; rfl, hc, by rw [List.getElem?_map, hc]; rfl, a10 j p c is hp hc his, hok.2.2.2 c (List.mem_of_getElem? hc)⟩
  have HA := hidp a3
  have HLEN : Hid (xs.length + (weave t.1 (t.2.map (BT.all h))).length ≤ 1000000000000) := hidp hlen
  have HSUF : Hid (∀ m, (wsuf m t.1 (t.2.map (BT.all h))).length ≤ (weave t.1 (t.2.map (BT.all h))).length) := hidp fun m => by
    induction m with
    | zero => exact Nat.le_refl _
    | succ m ih =>
      refine Nat.le_trans ?_ ih
      rcases Nat.lt_or_ge m t.1.length with hm | hm
      · have hl : m < (t.2.map (BT.all h)).length := by rw [List.length_map]; omega
        rw [wsuf_step (List.getElem?_eq_getElem hm) (List.getElem?_eq_getElem hl)]
        simp only [List.length_append, List.length_cons]; omega
      · unfold wsuf
        rw [List.drop_eq_nil_of_le hm, List.drop_eq_nil_of_le (show t.1.length ≤ m + 1 by omega)]
        show ((t.2.map (BT.all h)).drop (m + 1)).flatten.length ≤ ((t.2.map (BT.all h)).drop m).flatten.length
        rw [← List.drop_drop]
        cases (t.2.map (BT.all h)).drop m with
        | nil => exact Nat.le_refl _
        | cons a l => simp only [List.drop_succ_cons, List.drop_zero, List.flatten_cons, List.length_append]; omega
  have HEND : Hid (∀ c, t.2[t.1.length]? = some c → wsuf t.1.length t.1 (t.2.map (BT.all h)) = BT.all h c) := hidp fun c hc => wsuf_end (by rw [List.length_map]; exact hkl2) (by rw [List.getElem?_map, hc]; rfl)
  have hkc : k.kids.length = t.1.length + 1 := by rw [hkk, hkl2]
  have htl : t.1.length ≤ 1000000000000 := by
    have h1 := (weave_sub t.1 (t.2.map (BT.all h))).length_le
    have h2 := HLEN.out
    omega
  clear R hn hS hT0 hW0 a2 a3 a4 a5 a6 a7 a8 a9 a10 hkb hok hlen hkk hkl2 hA
  show Calls _ _ _ w (TkPost B bo w (xs ++ (weave t.1 (t.2.map (BT.all h))).reverse))
  have HKC := hidp hkc
  have HRI := hidp hri
  clear hkc hri
  go_enter Try.func156, Try.ntmps156
  go_wp2_with fail
  refine HISO.out.mono ?_
  rintro e w' ⟨rfl, a1, rfl⟩
  have n3 : (w.drewN a1).cell? ⟨n, 3, none⟩ = some (pv (some k.hdr)) := by rw [(ncell (HR.out.drewN a1) HN.out).2.2.2.2, HK.out]; rfl
  have HB0 : Hid (Tk B bo (w.drewN a1) xs ∧ FrT B bo w (w.drewN a1)) := hidp ⟨HT0.out.drewN a1, (Fr.refl _ w).drewN a1⟩
  clear HT0 HISO
  go_wp2_with fail
  refine (leaf_raw n3).mono ?_
  rintro e w' ⟨rfl, rfl⟩
  clear n3
  generalize w.drewN a1 = wb at HB0 ⊢
  obtain ⟨p, c, is, hp, hc, hL, Tc, hcok⟩ := HP.out t.1.length (Nat.le_refl _)
  have HRb := hidp (keepT HR.out HS.out HB0.out.2)
  have HWb := hidp (HW.out.fr hB HB0.out.2)
  have c0 : wb.cell? ⟨kb, ko + t.1.length, none⟩ = some (.pointer (some ⟨p, 0, none⟩)) := M_cell (HRb.out.kid HN.out HK.out HKB.out hp)
  have n3 : wb.cell? ⟨n, 3, none⟩ = some (.pointer (some ⟨k.hdr, 0, none⟩)) := by rw [(ncell HRb.out HN.out).2.2.2.2, HK.out]; rfl
  have h0 : wb.cell? ⟨k.hdr, 0, none⟩ = some (.slice (some ⟨kb, ko, none⟩) (t.1.length + 1) k.cap) := by
    have := (HRb.out.hdr HN.out HK.out).cell 0 rfl
    rw [HKB.out, HKC.out] at this; exact this
  have HE := hidp (HEND.out c hc)
  have hcl : (BT.all h c).length ≤ (weave t.1 (t.2.map (BT.all h))).length := by have := HSUF.out t.1.length; rwa [HE.out] at this
  have hxl := HLEN.out
  have HCD := hidp (IH HRb.out.drew HS.out (A := ⟨kb, ko + t.1.length, none⟩) c0 Tc hcok HB0.out.1.drew HWb.out.drew (by omega))
  clear hp hc hL Tc hcok hcl hxl HWb
  obtain ⟨N, hN⟩ : ∃ N, N = t.1.length + 1 := ⟨_, rfl⟩
  rw [← hN] at h0
  have hN1 : (t.1.length : Int) < (N : Int) := by omega
  have hw1 : IntKind.i64.wrap ((N : Int) - 1) = (t.1.length : Int) := by rw [Last.i64_w, IntWalk.wrap64_in _ ⟨by omega, by omega⟩]; omega
  have HFA : Hid (∀ w2, FrT B bo wb.drew w2 → w2.cell? ⟨n, 3, none⟩ = some (.pointer (some ⟨k.hdr, 0, none⟩)) ∧ w2.cell? ⟨k.hdr, 0, none⟩ = some (.slice (some ⟨kb, ko, none⟩) N k.cap)) := hidp fun w2 hb => by
    have R2 := keepT HRb.out.drew HS.out hb
    refine ⟨by rw [(ncell R2 HN.out).2.2.2.2, HK.out]; rfl, ?_⟩
    have := (R2.hdr HN.out HK.out).cell 0 rfl
    rw [HKB.out, HKC.out, ← hN] at this; exact this
  have HNN := hidp hN
  clear hN
  go_wp2_with fail
  go_region_held3 (fun w' => w'.cell? ⟨n, 3, none⟩ = some (.pointer (some ⟨k.hdr, 0, none⟩)) ∧ w'.cell? ⟨k.hdr, 0, none⟩ = some (.slice (some ⟨kb, ko, none⟩) N k.cap)) (go_keep)
    ((go_at_call 156
      refine (HCD.out).mono ?_
      rintro e w2 ⟨rfl, hT2, hF2⟩
      have HC2 := hidp (And.intro hT2 (FrT.trans HB0.out.2 (FrT.trans (Fr.drew (Fr.refl _ wb)) hF2)))
      obtain ⟨k1, k2⟩ := HFA.out w2 hF2
      clear hT2 hF2))
  clear n3 h0 c0 HFA HCD HRb HB0 hN1 hw1
  obtain ⟨bz, nz⟩ : ∃ ba, w2.cell? ⟨n, 2, none⟩ = some (.slice ba t.1.length r.icap) := ⟨r.ib.map fun p => ⟨p.1, p.2, none⟩, by rw [(ncell (keepT HR.out HS.out HC2.out.2) HN.out).2.2.2.1, HRI.out]; rfl⟩
  have hwz : IntKind.i64.wrap ((t.1.length : Int) - 1) = (t.1.length : Int) - 1 := by rw [Last.i64_w, IntWalk.wrap64_in _ ⟨by omega, by omega⟩]
  go_wp2
  go_loopw [11] (fun i wr => ∃ j : Nat, j ≤ t.1.length ∧ i = .int .i64 ((j : Int) - 1) ∧ Hid (Tk B bo wr (xs ++ (wsuf j t.1 (t.2.map (BT.all h))).reverse) ∧ FrT B bo w wr)) (fun i _ => (intOf i + 1).toNat)
  case atStart => exact ⟨t.1.length, Nat.le_refl _, by go_num, hidp ⟨by rw [HE.out]; exact HC2.out.1, HC2.out.2⟩⟩
  case round =>
    obtain ⟨j, hj, rfl, HL⟩ := hrel
    have HR1 := hidp (keepT HR.out HS.out HL.out.2)
    have HW1 := hidp (HW.out.fr hB HL.out.2)
    rcases j with _ | j
    · have HF := hidp HL.out
      have hneg : ¬ (0 : Int) ≤ ((0 : Nat) : Int) - 1 := by omega
      clear HL HR1 HW1 nz k1 k2
      go_wp2
      go_ret
      refine ⟨rfl, ?_, HF.out.2⟩
      have := HF.out.1
      rwa [wsuf_zero] at this
    · have hlt : j < t.1.length := by omega
      have e1 : ((j + 1 : Nat) : Int) - 1 = (j : Int) := by omega
      rw [e1]
      obtain ⟨p, c, is, hp, hc, hL, Tc, hcok⟩ := HP.out j (by omega)
      obtain ⟨y, hy⟩ : ∃ y, t.1[j]? = some y := ⟨t.1[j], List.getElem?_eq_getElem hlt⟩
      have hst := wsuf_step hy hL
      have hsl := HSUF.out j
      have hxl := HLEN.out
      rw [hst, List.length_append, List.length_cons] at hsl
      have HTK : Hid (xs ++ (wsuf j t.1 (t.2.map (BT.all h))).reverse = ((xs ++ (wsuf (j + 1) t.1 (t.2.map (BT.all h))).reverse) ++ [y]) ++ (BT.all h c).reverse) := hidp (by rw [hst]; simp)
      have hl2 : (xs ++ (wsuf (j + 1) t.1 (t.2.map (BT.all h))).reverse).length ≤ 1000000000000 := by rw [List.length_append, List.length_reverse]; omega
      have hl3 : ((xs ++ (wsuf (j + 1) t.1 (t.2.map (BT.all h))).reverse) ++ [y]).length + (BT.all h c).length ≤ 1000000000000 := by rw [List.length_append, List.length_append, List.length_reverse]; simp only [List.length_cons, List.length_nil]; omega
      have HY : Hid (r.items[j]? = some y) := hidp (by rw [HA.out]; exact hy)
      have jlt : (j : Int) < (t.1.length : Int) := by omega
      have jlt2 : (j : Int) < (N : Int) := by have := HNN.out; omega
      have j0 : (0 : Int) ≤ (j : Int) := by omega
      have hwj : IntKind.i64.wrap ((j : Int) - 1) = (j : Int) - 1 := by rw [Last.i64_w, IntWalk.wrap64_in _ ⟨by omega, by omega⟩]
      have hz : 0 < r.items.length := by have := HRI.out; omega
      obtain ⟨b, o, hb⟩ := HR1.out.ib_some HN.out (fun e => by rw [e] at hz; simp at hz)
      have HBB := hidp hb
      have HPC := hidp (And.intro hp (And.intro Tc hcok))
      have cv := (icell HR1.out HN.out hb HY.out).1
      have cy := (icell HR1.out HN.out hb HY.out).2
      have n2' : wr.cell? ⟨n, 2, none⟩ = some (.slice (some ⟨b, o, none⟩) t.1.length r.icap) := by rw [(ncell HR1.out HN.out).2.2.2.1, HBB.out, HRI.out]; rfl
      have HC := hidp (word_is (w := wr.drew) HL.out.1.drew HW1.out.drew hl2 y)
      have HFA : Hid (∀ w3, FrT B bo wr.drew w3 → w3.cell? ⟨n, 2, none⟩ = some (.slice (some ⟨b, o, none⟩) t.1.length r.icap) ∧ w3.cell? ⟨b, o + j * 2, none⟩ = some (.int .i64 y.2) ∧ w3.cell? ⟨b, o + j * 2 + 1, none⟩ = some (.string y.1)) := hidp fun w3 hb2 => by
        have R2 := keepT HR1.out.drew HS.out hb2
        exact ⟨by rw [(ncell R2 HN.out).2.2.2.1, HBB.out, HRI.out]; rfl, (icell R2 HN.out HBB.out HY.out).1, (icell R2 HN.out HBB.out HY.out).2⟩
      clear hp hc hL Tc hcok hst hsl hxl hy hb hz hl2 k1 k2 nz e1
      generalize hgk : (xs ++ (wsuf (j + 1) t.1 (t.2.map (BT.all h))).reverse) ++ [y] = zk at *
      clear hgk
      go_wp2_with fail
      go_region_held3 (fun w' => w'.cell? ⟨n, 2, none⟩ = some (.slice (some ⟨b, o, none⟩) t.1.length r.icap) ∧ w'.cell? ⟨b, o + j * 2, none⟩ = some (.int .i64 y.2) ∧ w'.cell? ⟨b, o + j * 2 + 1, none⟩ = some (.string y.1)) (go_keep)
        ((go_at_call 110
          refine HC.out.mono ?_
          rintro e w3 ⟨rfl, hT3, hF3⟩
          have HX := hidp (And.intro hT3 (FrT.trans HL.out.2 (FrT.trans (Fr.drew (Fr.refl _ wr)) hF3)))
          obtain ⟨k1, k2, k3⟩ := HFA.out w3 hF3
          clear hT3 hF3))
      have HR3 := hidp (keepT HR.out HS.out HX.out.2)
      have c0 : w3.cell? ⟨kb, ko + j, none⟩ = some (.pointer (some ⟨p, 0, none⟩)) := M_cell (HR3.out.kid HN.out HK.out HKB.out HPC.out.1)
      have n3 : w3.cell? ⟨n, 3, none⟩ = some (.pointer (some ⟨k.hdr, 0, none⟩)) := by rw [(ncell HR3.out HN.out).2.2.2.2, HK.out]; rfl
      have h0 : w3.cell? ⟨k.hdr, 0, none⟩ = some (.slice (some ⟨kb, ko, none⟩) N k.cap) := by
        have := (HR3.out.hdr HN.out HK.out).cell 0 rfl
        rw [HKB.out, HKC.out, ← HNN.out] at this; exact this
      have HCH := hidp (IH HR3.out HS.out (A := ⟨kb, ko + j, none⟩) c0 HPC.out.2.1 HPC.out.2.2 HX.out.1 (HW.out.fr hB HX.out.2) hl3)
      clear k1 k2 k3 cv cy n2' HFA HC HR1 HW1 HL
      go_wp2_with fail
      refine HCH.out.mono ?_
      rintro e w4 ⟨rfl, hT4, hF4⟩
      have HX4 := hidp (And.intro hT4 (FrT.trans HX.out.2 hF4))
      clear hT4 hF4 n3 h0 c0 HCH HR3 HX
      go_wp2
      go_roundw
      case rel => exact ⟨j, by omega, by go_num, hidp ⟨by rw [HTK.out]; exact HX4.out.1, HX4.out.2⟩⟩
      case measure => simp [intOf]

/-- 'nodeReverse' -/
theorem rv_tr : ∀ h, RVIH h
  | 0 => fun R _ _ _ hS _ _ _ _ hA T _ _ _ _ _ hT hW hlen => by
    obtain ⟨_, r, h1, h2, h3, h4, _⟩ := T
    subst h3
    exact rv_leaf R hS hA h1 h2 h4 hT hW hlen
  | h + 1 => rv_inner (rv_tr h)
end Go.Proofs.Ytbfaldccnaekeaa.Bt.SI
