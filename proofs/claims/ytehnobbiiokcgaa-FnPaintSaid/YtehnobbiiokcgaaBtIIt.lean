/- Maps from numbers to numbers: Ascend with a function value of the caller's. -/
import Derived.Test.YtehnobbiiokcgaaBtIIs
import Derived.Deep.DeepCutAuto
namespace Go.Proofs.Ytehnobbiiokcgaa.Bt.II
set_option linter.unusedVariables false
set_option linter.unusedSimpArgs false
open Go Go.RowKit Go.Proofs.Ytehnobbiiokcgaa.Bt

/-! ### plain: the items from a pivot on -/
/-- The items from x on. -/
def from_ (l : List It) (x : It) : List It := l.drop (pos lt l x)
/-- Items and what lies behind each. -/
def seg : List It → List (List It) → List It
  | y :: xs, l :: ls => y :: (l ++ seg xs ls)
  | _, _ => []
theorem seg_wpost : ∀ (xs : List It) (ls : List (List It)), ls.length = xs.length → wpost xs ls = seg xs ls
  | [], ls, h => by
    obtain rfl : ls = [] := List.eq_nil_of_length_eq_zero (by simpa using h)
    simp [wpost, seg]
  | x :: xs, [], h => by simp at h
  | x :: xs, l :: ls, h => by
    have ih := seg_wpost xs ls (by simpa using h)
    have e : weave xs (l :: ls) = l ++ wpost xs ls := by cases xs <;> simp [weave, wpost]
    show x :: weave xs (l :: ls) = x :: (l ++ seg xs ls)
    rw [e, ih]
theorem seg_take : ∀ (j : Nat) (xs : List It) (ls : List (List It)) (y : It) (l : List It), xs[j]? = some y → ls[j]? = some l → seg (xs.take (j + 1)) (ls.take (j + 1)) = seg (xs.take j) (ls.take j) ++ (y :: l)
  | 0, x :: xs, m :: ls, y, l, h1, h2 => by
    simp at h1 h2
    subst h1; subst h2
    simp [seg]
  | j + 1, x :: xs, m :: ls, y, l, h1, h2 => by
    have ih := seg_take j xs ls y l (by simpa using h1) (by simpa using h2)
    simp [seg, ih]
  | 0, [], _, _, _, h1, _ => by simp at h1
  | 0, _ :: _, [], _, _, _, h2 => by simp at h2
  | j + 1, [], _, _, _, h1, _ => by simp at h1
  | j + 1, _ :: _, [], _, _, _, h2 => by simp at h2
theorem seg_split : ∀ (j : Nat) (xs : List It) (ls : List (List It)), ls.length = xs.length → seg xs ls = seg (xs.take j) (ls.take j) ++ seg (xs.drop j) (ls.drop j)
  | 0, xs, ls, _ => by simp [seg]
  | j + 1, [], [], _ => by simp [seg]
  | j + 1, x :: xs, [], h => by simp at h
  | j + 1, [], _ :: _, h => by simp at h
  | j + 1, x :: xs, l :: ls, h => by
    have ih := seg_split j xs ls (by simpa using h)
    simp [seg, ih]

/-- The items from x on in a node with children. -/
theorem from_none {xs : List It} {ls : List (List It)} {L : List It} {x : It} (hl : ls.length = xs.length + 1) (hL : ls[pos lt xs x]? = some L) (hs : Srt lt (weave xs ls)) (hn : look lt xs x = none) :
    from_ (weave xs ls) x = from_ L x ++ seg (xs.drop (pos lt xs x)) (ls.drop (pos lt xs x + 1)) := by
  have hp := pos_le (lt := lt) xs x
  obtain ⟨hA, hB⟩ := around ord hl hL hs (hs.sublist (weave_sub xs ls)) hn
  unfold from_
  rw [weave_at _ _ _ _ hp hL, pos_mid hA (around' ord hB), seg_wpost _ _ (by rw [List.length_drop, List.length_drop]; omega)]
  have hpl := pos_le (lt := lt) L x
  rw [List.drop_append, List.drop_eq_nil_of_le (by omega), Nat.add_sub_cancel_left, List.drop_append_of_le_length hpl]
  simp
theorem from_some {xs : List It} {ls : List (List It)} {x y : It} (hl : ls.length = xs.length + 1) (hs : Srt lt (weave xs ls)) (hy : look lt xs x = some y) :
    from_ (weave xs ls) x = seg (xs.drop (pos lt xs x)) (ls.drop (pos lt xs x + 1)) := by
  obtain ⟨h1, h2, h3⟩ := look_some hy
  have h4 := pos_at (lt := lt) h1
  obtain ⟨L, hL⟩ : ∃ L, ls[pos lt xs x]? = some L := ⟨ls[pos lt xs x]'(by omega), List.getElem?_eq_getElem _⟩
  have hw := weave_at _ xs ls L (Nat.le_of_lt h3) hL
  have hd : xs.drop (pos lt xs x) = y :: xs.drop (pos lt xs x + 1) := by
    rw [List.drop_eq_getElem_cons h3]
    congr 1
    exact (List.getElem?_eq_some_iff.1 h1).2
  have hw2 : weave xs ls = (wpre (pos lt xs x) xs ls ++ L) ++ ([] ++ seg (xs.drop (pos lt xs x)) (ls.drop (pos lt xs x + 1))) := by
    rw [hw, seg_wpost _ _ (by rw [List.length_drop, List.length_drop]; omega)]; simp
  have hseg : seg (xs.drop (pos lt xs x)) (ls.drop (pos lt xs x + 1)) = y :: (seg (xs.drop (pos lt xs x)) (ls.drop (pos lt xs x + 1))).tail := by
    obtain ⟨m, ms, hm⟩ : ∃ m ms, ls.drop (pos lt xs x + 1) = m :: ms := by
      cases hq : ls.drop (pos lt xs x + 1) with
      | nil => have := congrArg List.length hq; simp at this; omega
      | cons m ms => exact ⟨m, ms, rfl⟩
    rw [hd, hm]; simp [seg]
  have hs2 := hs
  rw [hw2, hseg] at hs2
  have hA : ∀ z ∈ wpre (pos lt xs x) xs ls ++ L, lt z x = true := fun z hz => ord.lt_le ((List.pairwise_append.1 hs2).2.2 z hz y (by simp)) h2
  have hB : ∀ z ∈ seg (xs.drop (pos lt xs x)) (ls.drop (pos lt xs x + 1)), lt z x = false := fun z hz => by
    rw [hseg] at hz
    rcases List.mem_cons.1 hz with rfl | hz
    · exact h4
    · have hyz : lt y z = true := by
        have h5 := (List.pairwise_append.1 hs2).2.1
        rw [List.nil_append] at h5
        exact (List.pairwise_cons.1 h5).1 z hz
      cases hzx : lt z x with
      | false => rfl
      | true =>
        have := ord.tr y z x hyz hzx
        rw [h4] at this; cases this
  unfold from_
  conv => lhs; rw [hw2, pos_mid hA hB]
  have e0 : pos lt ([] : List It) x = 0 := rfl
  rw [e0, Nat.add_zero, List.drop_left]
  simp

section
variable {S : Nat → Prop} {s : Sto It} {f : Nat} {lb : Array Value} {G : World → World → Prop} {Q : List It → World → Prop} {go : List It → Bool} {M : Nat} {w : World}

set_option maxHeartbeats 2000000 in
set_option maxRecDepth 100000 in
/-- 'nodeAscend' of a leaf. -/
theorem asc_leaf (F : Fn S s f lb G Q go M) (R : RepS E S w s) {A : Addr} {n : Nat} {r : NodeR It} (hA : w.cell? A = some (pv (some n))) (hn : s.nd n = some r) (hi : r.iso = s.mp.iso) (hk : r.kids = none) (hsrt : Srt lt r.items) {xs : List It} (hQ : Q xs w) (hlen : xs.length + r.items.length ≤ M) (hl9 : r.items.length ≤ 100000) (x : It) :
    Calls Try.prog 115 #[.pointer (some ⟨s.m, 0, none⟩), .pointer (some A), Value.int .i64 x.1, .func (.func f) #[] lb, .bool false] w (ScPost G Q go w xs (from_ r.items x)) := by
  have HISO := hidp (isoLoad_own R hA hn hi false)
  have HR := hidp R
  have HN := hidp hn
  have HF := hidp F
  have HQ0 := hidp hQ
  have HK := hidp hk
  have HSRT := hidp hsrt
  have eg := F.eg
  have hpl := pos_le (lt := lt) r.items x
  clear R hn hQ hk hA hi F hsrt
  obtain ⟨p, hp⟩ : ∃ p, pos lt r.items x = p := ⟨_, rfl⟩
  obtain ⟨fd, hfd⟩ : ∃ fd, fnd lt r.items x = fd := ⟨_, rfl⟩
  have hfr : from_ r.items x = r.items.drop p := by unfold from_; rw [hp]
  rw [hfr]
  rw [hp] at hpl
  have HPF := hidp (And.intro hp hfd)
  clear hfr hp hfd
  go_enter Try.func115, Try.ntmps115
  go_wp2_with fail
  refine HISO.out.mono ?_
  rintro e w' ⟨rfl, a1, rfl⟩
  have HSE := hidp (search_is (HR.out.drewN a1) HN.out HSRT.out (by omega) x)
  rw [HPF.out.1, HPF.out.2] at HSE
  go_wp2_with fail
  refine HSE.out.mono ?_
  rintro e w' ⟨rfl, a2, rfl⟩
  have n3 : ((w.drewN a1).drewN a2).cell? ⟨n, 3, none⟩ = some (pv none) := by rw [(ncell ((HR.out.drewN a1).drewN a2) HN.out).2.2.2.2, HK.out]; rfl
  have HB0 : Hid (Q xs ((w.drewN a1).drewN a2) ∧ G w ((w.drewN a1).drewN a2)) := hidp ⟨HF.out.qdrewN (HF.out.qdrewN HQ0.out a1) a2, HF.out.drewN (HF.out.drewN (HF.out.refl w) a1) a2⟩
  clear HQ0 HISO HSE
  generalize ((w.drewN a1).drewN a2) = wb at HB0 n3 ⊢
  go_upto_if 26 with (fail)
  go_cut [12] from 25 to 43 (fun u wx => u = .int .i64 p ∧ wx = wb)
  case first =>
    cases fd with
    | true =>
      go_wp2
      go_meet
      exact ⟨rfl, rfl⟩
    | false =>
      go_wp2_with fail
      refine (leaf_raw n3).mono ?_
      rintro e w' ⟨rfl, rfl⟩
      clear n3
      go_wp2
      go_meet
      exact ⟨rfl, rfl⟩
  case rest =>
    obtain ⟨rfl, rfl⟩ := hcut
    clear n3
    go_wp2
    go_loopw [12] (fun i wr => ∃ d j : Nat, p + d = j ∧ j ≤ r.items.length ∧ i = .int .i64 (j : Int) ∧ Hid (visit go xs ((r.items.drop p).take d) = (xs ++ (r.items.drop p).take d, true) ∧ Q (xs ++ (r.items.drop p).take d) wr ∧ G w wr)) (fun i _ => r.items.length - (intOf i).toNat)
    case atStart => exact ⟨0, p, rfl, by omega, rfl, hidp ⟨by simp [visit], by simpa using HB0.out.1, HB0.out.2⟩⟩
    case round =>
      obtain ⟨d, j, hdj, hj, rfl, HL⟩ := hrel
      have HR1 := hidp (HF.out.keep _ _ HR.out HL.out.2.2)
      obtain ⟨ba, n2⟩ : ∃ ba, wr.cell? ⟨n, 2, none⟩ = some (.slice ba r.items.length r.icap) := ⟨_, (ncell HR1.out HN.out).2.2.2.1⟩
      by_cases hlt : j < r.items.length
      · obtain ⟨b, o, hb⟩ := HR1.out.ib_some HN.out (fun e => by rw [e] at hlt; simp at hlt)
        obtain ⟨y, hy⟩ : ∃ y, r.items[j]? = some y := ⟨r.items[j], List.getElem?_eq_getElem hlt⟩
        have cy := (icell HR1.out HN.out hb hy).2
        have cv := (icell HR1.out HN.out hb hy).1
        have n2' : wr.cell? ⟨n, 2, none⟩ = some (.slice (some ⟨b, o, none⟩) r.items.length r.icap) := by rw [(ncell HR1.out HN.out).2.2.2.1, hb]; rfl
        have hyd : (r.items.drop p)[d]? = some y := by rw [List.getElem?_drop, hdj]; exact hy
        have hdl : d < (r.items.drop p).length := by rw [List.length_drop]; omega
        have etk : (r.items.drop p).take (d + 1) = (r.items.drop p).take d ++ [y] := by rw [List.take_add_one, hyd]; rfl
        have hdr : (r.items.drop p) = ((r.items.drop p).take d ++ [y]) ++ (r.items.drop p).drop (d + 1) := by rw [← etk, List.take_append_drop]
        have hsn := visit_snoc (y := y) HL.out.1
        have HTK := hidp (And.intro etk (And.intro hdr hsn))
        have jlt : (j : Int) < (r.items.length : Int) := by omega
        have jl0 : (0 : Int) ≤ (j : Int) := by omega
        have hl1 : (xs ++ (r.items.drop p).take d).length < M := by rw [List.length_append, List.length_take, List.length_drop]; omega
        have hc := HF.out.call (xs ++ (r.items.drop p).take d) y wr.drew (HF.out.qdrew _ _ HL.out.2.1) HR1.out.drew hl1
        have HBB := hidp hb
        have HY := hidp hy
        have HFA : Hid (∀ w2, G wr.drew w2 → w2.cell? ⟨n, 2, none⟩ = some (.slice (some ⟨b, o, none⟩) r.items.length r.icap) ∧ w2.cell? ⟨b, o + j * 2, none⟩ = some (Value.int .i64 y.2) ∧ w2.cell? ⟨b, o + j * 2 + 1, none⟩ = some (Value.int .i64 y.1)) := hidp fun w2 hb2 => by
          have R2 := HF.out.keep _ _ HR1.out.drew hb2
          exact ⟨by rw [(ncell R2 HN.out).2.2.2.1, HBB.out]; rfl, (icell R2 HN.out HBB.out HY.out).1, (icell R2 HN.out HBB.out HY.out).2⟩
        clear hb hy n2 hl1 etk hdr hsn hyd hdl HB0
        have hw2 : IntKind.i64.wrap ((j : Int) + 1) = ((j + 1 : Nat) : Int) := by rw [Last.i64_w, IntWalk.wrap64_in _ ⟨by omega, by omega⟩]; omega
        cases hgo : go (xs ++ (r.items.drop p).take d ++ [y]) with
        | true =>
          rw [hgo] at hc
          have HC := hidp hc
          clear hc
          go_wp2_with fail
          go_region_held3 (fun w' => w'.cell? ⟨n, 2, none⟩ = some (.slice (some ⟨b, o, none⟩) r.items.length r.icap) ∧ w'.cell? ⟨b, o + j * 2, none⟩ = some (Value.int .i64 y.2) ∧ w'.cell? ⟨b, o + j * 2 + 1, none⟩ = some (Value.int .i64 y.1)) (go_keep)
            ((go_at_fn f
              refine HC.out.mono ?_
              rintro e w2 ⟨rfl, hQ2, hG2⟩
              have HX := hidp (And.intro hQ2 (HF.out.trans _ _ _ HL.out.2.2 (HF.out.trans _ _ _ (HF.out.drew _ _ (HF.out.refl wr)) hG2)))
              obtain ⟨k1, k2, k3⟩ := HFA.out w2 hG2
              clear hQ2 hG2))
          have n3 : w2.cell? ⟨n, 3, none⟩ = some (pv none) := by rw [(ncell (HF.out.keep _ _ HR.out HX.out.2) HN.out).2.2.2.2, HK.out]; rfl
          clear HR1
          go_wp2_with fail
          refine (leaf_raw n3).mono ?_
          rintro e w' ⟨rfl, rfl⟩
          clear n3
          go_wp2
          go_roundw
          case rel => exact ⟨d + 1, j + 1, by omega, by omega, by go_num, hidp ⟨by rw [HTK.out.1, HTK.out.2.2, hgo, List.append_assoc], by rw [HTK.out.1, ← List.append_assoc]; exact HX.out.1, HX.out.2⟩⟩
          case measure => simp [intOf]; omega
        | false =>
          rw [hgo] at hc
          have HC := hidp hc
          clear hc
          go_wp2_with fail
          go_region_held3 (fun w' => w'.cell? ⟨n, 2, none⟩ = some (.slice (some ⟨b, o, none⟩) r.items.length r.icap) ∧ w'.cell? ⟨b, o + j * 2, none⟩ = some (Value.int .i64 y.2) ∧ w'.cell? ⟨b, o + j * 2 + 1, none⟩ = some (Value.int .i64 y.1)) (go_keep)
            ((go_at_fn f
              refine HC.out.mono ?_
              rintro e w2 ⟨rfl, hQ2, hG2⟩
              have HX := hidp (And.intro hQ2 (HF.out.trans _ _ _ HL.out.2.2 (HF.out.trans _ _ _ (HF.out.drew _ _ (HF.out.refl wr)) hG2)))
              obtain ⟨k1, k2, k3⟩ := HFA.out w2 hG2
              clear hQ2 hG2))
          go_wp2
          go_ret
          have hst : visit go xs (r.items.drop p) = (xs ++ (r.items.drop p).take d ++ [y], false) := by
            have h1 : (visit go xs ((r.items.drop p).take d ++ [y])).2 = false := by rw [HTK.out.2.2, hgo]
            exact (congrArg (visit go xs) HTK.out.2.1).trans ((visit_stop h1).trans (by rw [HTK.out.2.2, hgo]))
          exact ⟨by rw [hst]; try rfl, by rw [hst]; exact HX.out.1, HX.out.2⟩
      · have hd : j = r.items.length := by omega
        have HF2 := hidp HL.out
        have jge : ¬ (j : Int) < (r.items.length : Int) := by omega
        clear HL HR1
        go_wp2
        go_ret
        obtain ⟨g1, g2, g3⟩ := HF2.out
        rw [List.take_of_length_le (by rw [List.length_drop]; omega)] at g1 g2
        exact ⟨by rw [g1]; try rfl, by rw [g1]; exact g2, g3⟩

def AscIH (S : Nat → Prop) (s : Sto It) (f : Nat) (lb : Array Value) (G : World → World → Prop) (Q : List It → World → Prop) (go : List It → Bool) (M : Nat) (h : Nat) : Prop :=
  ∀ {w : World} (_ : RepS E S w s) {A : Addr} {n : Nat} {t : BT It h} {ids : List Nat} (_ : w.cell? A = some (pv (some n))) (_ : Tr s.nd s.mp.iso h n t ids) {mn mx lo : Nat} (_ : BT.ok mn mx lo h t) (_ : mx ≤ 100000) (_ : Srt lt (BT.all h t)) {xs : List It} (_ : Q xs w) (_ : xs.length + (BT.all h t).length ≤ M) (x : It),
    Calls Try.prog 115 #[.pointer (some ⟨s.m, 0, none⟩), .pointer (some A), Value.int .i64 x.1, .func (.func f) #[] lb, .bool false] w (ScPost G Q go w xs (from_ (BT.all h t) x))

set_option maxHeartbeats 4000000 in
set_option maxRecDepth 100000 in
/-- 'nodeAscend' of a node with children, behind what its first child has handed on (F0). -/
theorem asc_inner (F : Fn S s f lb G Q go M) {h : Nat} (IH : AscIH S s f lb G Q go M h) : AscIH S s f lb G Q go M (h + 1) := by
  intro w R A n t ids hA T mn mx lo hok hmx hsrt xs hQ0 hlen x
  obtain ⟨r, k, ps, idss, hn, a2, a3, a4, a5, a6, a7, a8, a9, a10⟩ := T
  have hkl2 := hok.2.2.1
  have hhi : t.1.length ≤ mx := hok.2.1
  have hri : r.items.length = t.1.length := by rw [a3]
  have hkk : k.kids.length = t.2.length := by rw [a5, List.length_map, a7]
  have hpl := pos_le (lt := lt) t.1 x
  have hxs : Srt lt t.1 := hsrt.sublist (weave_sub _ _)
  have hll : (t.2.map (BT.all h)).length = t.1.length + 1 := by rw [List.length_map]; exact hkl2
  obtain ⟨kb, ko, hkb⟩ := R.kb_some hn a4 (by intro e; rw [e] at hkk; simp at hkk; omega)
  have hchild : ∀ j, j ≤ t.1.length → ∃ p c is, k.kids[j]? = some (some p) ∧ t.2[j]? = some c ∧ (t.2.map (BT.all h))[j]? = some (BT.all h c) ∧ Tr s.nd s.mp.iso h p c is ∧ BT.ok mn mx mn h c ∧ (BT.all h c).Sublist (weave t.1 (t.2.map (BT.all h))) := fun j hj => by
    obtain ⟨p, hp⟩ : ∃ p, ps[j]? = some p := ⟨ps[j]'(by omega), List.getElem?_eq_getElem _⟩
    obtain ⟨c, hc⟩ : ∃ c, t.2[j]? = some c := ⟨t.2[j]'(by omega), List.getElem?_eq_getElem _⟩
    obtain ⟨is, his⟩ : ∃ is, idss[j]? = some is := ⟨idss[j]'(by omega), List.getElem?_eq_getElem _⟩
    have hL : (t.2.map (BT.all h))[j]? = some (BT.all h c) := by rw [List.getElem?_map, hc]; rfl
    exact ⟨p, c, is, by rw [a5, List.getElem?_map, hp]; rfl, hc, hL, a10 j p c is hp hc his, hok.2.2.2 c (List.mem_of_getElem? hc), weave_kid hj hL⟩
  obtain ⟨p0, c0, is0, hp0, hc0, hL0, Tc0, hcok0, hsub0⟩ := hchild (pos lt t.1 x) hpl
  -- what is handed on: F0 of the first child, then the rest
  have hF0 : ∃ F0 : List It, from_ (weave t.1 (t.2.map (BT.all h))) x = F0 ++ seg (t.1.drop (pos lt t.1 x)) ((t.2.map (BT.all h)).drop (pos lt t.1 x + 1)) ∧ ((fnd lt t.1 x = true ∧ F0 = []) ∨ (fnd lt t.1 x = false ∧ F0 = from_ (BT.all h c0) x)) := by
    cases hl : look lt t.1 x with
    | some y => exact ⟨[], from_some hll hsrt hl, .inl ⟨fnd_some hl, rfl⟩⟩
    | none => exact ⟨from_ (BT.all h c0) x, from_none hll hL0 hsrt hl, .inr ⟨fnd_none hl, rfl⟩⟩
  obtain ⟨F0, hfr, hfd⟩ := hF0
  have hlen' : xs.length + (weave t.1 (t.2.map (BT.all h))).length ≤ M := hlen
  have hfl : (from_ (weave t.1 (t.2.map (BT.all h))) x).length ≤ (weave t.1 (t.2.map (BT.all h))).length := by unfold from_; rw [List.length_drop]; omega
  have HISO := hidp (isoLoad_own R hA hn a2 false)
  have HR := hidp R
  have HN := hidp hn
  have HF := hidp F
  have HQ0 := hidp hQ0
  have HK := hidp a4
  have HKB := hidp hkb
  have HP := hidp hchild
  have HA := hidp a3
  have HKC : Hid (k.kids.length = t.1.length + 1) := hidp (by rw [hkk, hkl2])
  have HRI := hidp hri
  have HSRT := hidp hsrt
  have HXS : Hid (Srt lt r.items) := hidp (by rw [a3]; exact hxs)
  have HFR := hidp hfr
  have HLEN : Hid (xs.length + (F0 ++ seg (t.1.drop (pos lt t.1 x)) ((t.2.map (BT.all h)).drop (pos lt t.1 x + 1))).length ≤ M) := hidp (by rw [← hfr]; omega)
  have HC0 : Hid (k.kids[pos lt t.1 x]? = some (some p0) ∧ (fnd lt t.1 x = false → ∀ w', RepS E S w' s → G w w' → Q xs w' → Calls Try.prog 115 #[.pointer (some ⟨s.m, 0, none⟩), .pointer (some ⟨kb, ko + pos lt t.1 x, none⟩), Value.int .i64 x.1, .func (.func f) #[] lb, .bool false] w' (fun e w2 => e = .returned (.bool (visit go xs F0).2) ∧ Q (visit go xs F0).1 w2 ∧ G w' w2))) := hidp ⟨hp0, fun hf w' R' _ hQ' => by
    rcases hfd with ⟨h1, _⟩ | ⟨_, h2⟩
    · rw [hf] at h1; cases h1
    · have hl0 := hsub0.length_le
      have h := IH R' (A := ⟨kb, ko + pos lt t.1 x, none⟩) (M_cell (R'.kid hn a4 hkb hp0)) Tc0 hcok0 hmx (hsrt.sublist hsub0) hQ' (by omega) x
      rw [h2]; exact h⟩
  have HFD : Hid (fnd lt t.1 x = true → F0 = []) := hidp fun h1 => by
    rcases hfd with ⟨_, h2⟩ | ⟨h2, _⟩
    · exact h2
    · rw [h1] at h2; cases h2
  have htl : t.1.length ≤ 100000 := by omega
  have eg := F.eg
  clear R hn hQ0 a2 a4 a5 a6 a7 a8 a9 a10 hkb hok hkk hA F hhi hsrt hxs hchild hp0 hc0 hL0 Tc0 hcok0 hsub0 hfd hlen hlen' hfl hri hkl2
  show Calls _ _ _ w (ScPost G Q go w xs (from_ (weave t.1 (t.2.map (BT.all h))) x))
  rw [hfr]
  have hLS : ((t.2.map (BT.all h)).drop (pos lt t.1 x + 1)).length = (t.1.drop (pos lt t.1 x)).length := by rw [List.length_drop, List.length_drop]; omega
  have HLS := hidp hLS
  clear hfr HFR HSRT hLS hll
  obtain ⟨p, hp⟩ : ∃ p, pos lt t.1 x = p := ⟨_, rfl⟩
  obtain ⟨fd, hfd⟩ : ∃ fd, fnd lt t.1 x = fd := ⟨_, rfl⟩
  rw [hp] at hpl HC0 HLEN HLS ⊢
  rw [hfd] at HC0 HFD
  have HPF := hidp (And.intro hp hfd)
  clear hp hfd
  go_enter Try.func115, Try.ntmps115
  go_wp2_with fail
  refine HISO.out.mono ?_
  rintro e w' ⟨rfl, a1, rfl⟩
  have HSE := hidp (search_is (HR.out.drewN a1) HN.out HXS.out (by rw [HRI.out]; omega) x)
  rw [HA.out, HPF.out.1, HPF.out.2] at HSE
  go_wp2_with fail
  refine HSE.out.mono ?_
  rintro e w' ⟨rfl, a2, rfl⟩
  have HB0 : Hid (Q xs ((w.drewN a1).drewN a2) ∧ G w ((w.drewN a1).drewN a2)) := hidp ⟨HF.out.qdrewN (HF.out.qdrewN HQ0.out a1) a2, HF.out.drewN (HF.out.drewN (HF.out.refl w) a1) a2⟩
  clear HQ0 HISO HSE HXS
  generalize ((w.drewN a1).drewN a2) = wb at HB0 ⊢
  have HRb := hidp (HF.out.keep _ _ HR.out HB0.out.2)
  have n3 : wb.cell? ⟨n, 3, none⟩ = some (.pointer (some ⟨k.hdr, 0, none⟩)) := by rw [(ncell HRb.out HN.out).2.2.2.2, HK.out]; rfl
  have h0 : wb.cell? ⟨k.hdr, 0, none⟩ = some (.slice (some ⟨kb, ko, none⟩) (t.1.length + 1) k.cap) := by
    have := (HRb.out.hdr HN.out HK.out).cell 0 rfl
    rw [HKB.out, HKC.out] at this; exact this
  have hp0 : (0 : Int) ≤ (p : Int) := by omega
  have hp1 : (p : Int) < ((t.1.length + 1 : Nat) : Int) := by omega
  by_cases hstop : fd = false ∧ (visit go xs F0).2 = false
  · obtain ⟨rfl, hv⟩ := hstop
    have hc := HC0.out.2 rfl wb HRb.out HB0.out.2 HB0.out.1
    rw [hv] at hc
    have HC := hidp hc
    have hst : ∀ m, visit go xs (F0 ++ m) = ((visit go xs F0).1, false) := fun m => by rw [visit_stop hv, ← hv]
    have HST := hidp hst
    clear hc hv hst
    go_wp2_with fail
    refine (leaf_raw (p := some k.hdr) n3).mono ?_
    rintro e w' ⟨rfl, rfl⟩
    go_wp2_with fail
    refine HC.out.mono ?_
    rintro e w2 ⟨rfl, hQ2, hG2⟩
    have HX := hidp (And.intro hQ2 (HF.out.trans _ _ _ HB0.out.2 hG2))
    clear hQ2 hG2 HC
    go_wp2
    go_ret
    exact ⟨by rw [HST.out]; try rfl, by rw [HST.out]; exact HX.out.1, HX.out.2⟩
  have HON : Hid (visit go xs F0 = (xs ++ F0, true)) := hidp (by
    cases hfd : fd with
    | true => rw [HFD.out hfd]; simp [visit]
    | false =>
      refine visit_true go _ _ ?_
      cases hv : (visit go xs F0).2 with
      | true => rfl
      | false => exact absurd ⟨hfd, hv⟩ hstop)
  clear hstop
  go_upto_if 26 with (fail)
  go_cut [12] from 25 to 43 (fun u wx => u = .int .i64 p ∧ Hid (Q (xs ++ F0) wx ∧ G w wx))
  case first =>
    cases fd with
    | true =>
      have e0 := HFD.out rfl
      go_wp2
      go_meet
      exact ⟨rfl, hidp ⟨by rw [e0, List.append_nil]; exact HB0.out.1, HB0.out.2⟩⟩
    | false =>
      have hc := HC0.out.2 rfl wb HRb.out HB0.out.2 HB0.out.1
      rw [HON.out] at hc
      have HC := hidp hc
      clear hc
      go_wp2_with fail
      refine (leaf_raw (p := some k.hdr) n3).mono ?_
      rintro e w' ⟨rfl, rfl⟩
      go_wp2_with fail
      refine HC.out.mono ?_
      rintro e w2 ⟨rfl, hQ2, hG2⟩
      have HX := hidp (And.intro hQ2 (HF.out.trans _ _ _ HB0.out.2 hG2))
      clear hQ2 hG2 HC
      go_wp2
      go_meet
      exact ⟨rfl, HX⟩
  case rest =>
    obtain ⟨rfl, HB1⟩ := hcut
    clear n3 h0 HB0 HRb HC0 HFD
    go_wp2
    go_loopw [12] (fun i wr => ∃ d j : Nat, p + d = j ∧ j ≤ t.1.length ∧ i = .int .i64 (j : Int) ∧ Hid (visit go xs (F0 ++ seg ((t.1.drop p).take d) (((t.2.map (BT.all h)).drop (p + 1)).take d)) = (xs ++ (F0 ++ seg ((t.1.drop p).take d) (((t.2.map (BT.all h)).drop (p + 1)).take d)), true) ∧ Q (xs ++ (F0 ++ seg ((t.1.drop p).take d) (((t.2.map (BT.all h)).drop (p + 1)).take d))) wr ∧ G w wr)) (fun i _ => t.1.length - (intOf i).toNat)
    case atStart => exact ⟨0, p, rfl, by omega, rfl, hidp ⟨by simpa [seg] using HON.out, by simpa [seg] using HB1.out.1, HB1.out.2⟩⟩
    case round =>
      obtain ⟨d, j, hdj, hj, rfl, HL⟩ := hrel
      have HR1 := hidp (HF.out.keep _ _ HR.out HL.out.2.2)
      obtain ⟨ba, n2⟩ : ∃ ba, wr.cell? ⟨n, 2, none⟩ = some (.slice ba t.1.length r.icap) := ⟨r.ib.map fun p => ⟨p.1, p.2, none⟩, by rw [(ncell HR1.out HN.out).2.2.2.1, HRI.out]; rfl⟩
      by_cases hlt : j < t.1.length
      · obtain ⟨y, hy⟩ : ∃ y, t.1[j]? = some y := ⟨t.1[j], List.getElem?_eq_getElem hlt⟩
        have HY : Hid (r.items[j]? = some y) := hidp (by rw [HA.out]; exact hy)
        have hz : 0 < r.items.length := by have := HRI.out; omega
        obtain ⟨b, o, hb⟩ := HR1.out.ib_some HN.out (fun e => by rw [e] at hz; simp at hz)
        have HBB := hidp hb
        have cy := (icell HR1.out HN.out hb HY.out).2
        have cv := (icell HR1.out HN.out hb HY.out).1
        have n2' : wr.cell? ⟨n, 2, none⟩ = some (.slice (some ⟨b, o, none⟩) t.1.length r.icap) := by rw [(ncell HR1.out HN.out).2.2.2.1, hb, HRI.out]; rfl
        obtain ⟨pc, c, is, hp, hc, hL, Tc, hcok, hsub⟩ := HP.out (j + 1) (by omega)
        have hyd : (t.1.drop p)[d]? = some y := by rw [List.getElem?_drop, hdj]; exact hy
        have hLd : ((t.2.map (BT.all h)).drop (p + 1))[d]? = some (BT.all h c) := by rw [List.getElem?_drop, show p + 1 + d = j + 1 by omega]; exact hL
        have etk := seg_take d _ _ y _ hyd hLd
        have esp := seg_split (d + 1) (t.1.drop p) ((t.2.map (BT.all h)).drop (p + 1)) HLS.out
        rw [etk] at esp
        have hsn := visit_snoc (y := y) HL.out.1
        have hlenU : xs.length + ((F0 ++ seg ((t.1.drop p).take d) (((t.2.map (BT.all h)).drop (p + 1)).take d)).length + 1 + (BT.all h c).length) ≤ M := by
          have h1 := HLEN.out
          rw [esp] at h1
          simp only [List.length_append, List.length_cons] at h1 ⊢
          omega
        generalize hU : F0 ++ seg ((t.1.drop p).take d) (((t.2.map (BT.all h)).drop (p + 1)).take d) = U at HL hsn hlenU
        have eU : F0 ++ seg ((t.1.drop p).take (d + 1)) (((t.2.map (BT.all h)).drop (p + 1)).take (d + 1)) = (U ++ [y]) ++ BT.all h c := by rw [etk, ← hU]; simp
        obtain ⟨rest, eA⟩ : ∃ rest, F0 ++ seg (t.1.drop p) ((t.2.map (BT.all h)).drop (p + 1)) = ((U ++ [y]) ++ BT.all h c) ++ rest := ⟨_, by rw [esp, ← hU]; simp only [List.append_assoc, List.cons_append, List.nil_append]; rfl⟩
        have HT := hidp (And.intro eU (And.intro eA hsn))
        have jlt : (j : Int) < (t.1.length : Int) := by omega
        have jl0 : (0 : Int) ≤ (j : Int) := by omega
        have hcl := HF.out.call (xs ++ U) y wr.drew (HF.out.qdrew _ _ HL.out.2.1) HR1.out.drew (by rw [List.length_append]; omega)
        have HFA : Hid (∀ w2, G wr.drew w2 → w2.cell? ⟨n, 2, none⟩ = some (.slice (some ⟨b, o, none⟩) t.1.length r.icap) ∧ w2.cell? ⟨b, o + j * 2, none⟩ = some (Value.int .i64 y.2) ∧ w2.cell? ⟨b, o + j * 2 + 1, none⟩ = some (Value.int .i64 y.1)) := hidp fun w2 hb2 => by
          have R2 := HF.out.keep _ _ HR1.out.drew hb2
          exact ⟨by rw [(ncell R2 HN.out).2.2.2.1, HBB.out, HRI.out]; rfl, (icell R2 HN.out HBB.out HY.out).1, (icell R2 HN.out HBB.out HY.out).2⟩
        have HCH : Hid (∀ w', RepS E S w' s → Q (xs ++ (U ++ [y])) w' → w'.cell? ⟨kb, ko + (j + 1), none⟩ = some (.pointer (some ⟨pc, 0, none⟩)) ∧ Calls Try.prog 118 #[.pointer (some ⟨s.m, 0, none⟩), .pointer (some ⟨kb, ko + (j + 1), none⟩), .func (.func f) #[] lb, .bool false] w' (ScPost G Q go w' (xs ++ (U ++ [y])) (BT.all h c))) := hidp fun w' R' hQ' => by
          have hcell : w'.cell? ⟨kb, ko + (j + 1), none⟩ = some (pv (some pc)) := M_cell (R'.kid HN.out HK.out HKB.out hp)
          exact ⟨hcell, scan_tr HF.out h R' hcell Tc hcok hmx hQ' (by simp only [List.length_append, List.length_cons, List.length_nil] at hlenU ⊢; omega)⟩
        clear hb hy n2 etk esp hsn hyd hLd hp hc hL Tc hcok hsub hz hU eU eA hlenU
        have hw1 : IntKind.i64.wrap ((j : Int) + 1) = ((j + 1 : Nat) : Int) := by rw [Last.i64_w, IntWalk.wrap64_in _ ⟨by omega, by omega⟩]; omega
        cases hgo : go (xs ++ U ++ [y]) with
        | true =>
          rw [hgo] at hcl
          have HC := hidp hcl
          clear hcl
          go_wp2_with fail
          go_region_held3 (fun w' => w'.cell? ⟨n, 2, none⟩ = some (.slice (some ⟨b, o, none⟩) t.1.length r.icap) ∧ w'.cell? ⟨b, o + j * 2, none⟩ = some (Value.int .i64 y.2) ∧ w'.cell? ⟨b, o + j * 2 + 1, none⟩ = some (Value.int .i64 y.1)) (go_keep)
            ((go_at_fn f
              refine HC.out.mono ?_
              rintro e w2 ⟨rfl, hQ2, hG2⟩
              have HX := hidp (And.intro hQ2 (HF.out.trans _ _ _ HL.out.2.2 (HF.out.trans _ _ _ (HF.out.drew _ _ (HF.out.refl wr)) hG2)))
              obtain ⟨k1, k2, k3⟩ := HFA.out w2 hG2
              clear hQ2 hG2))
          have HR3 := hidp (HF.out.keep _ _ HR.out HX.out.2)
          have n3 : w2.cell? ⟨n, 3, none⟩ = some (.pointer (some ⟨k.hdr, 0, none⟩)) := by rw [(ncell HR3.out HN.out).2.2.2.2, HK.out]; rfl
          have h0 : w2.cell? ⟨k.hdr, 0, none⟩ = some (.slice (some ⟨kb, ko, none⟩) (t.1.length + 1) k.cap) := by
            have := (HR3.out.hdr HN.out HK.out).cell 0 rfl
            rw [HKB.out, HKC.out] at this; exact this
          obtain ⟨cc, hsc⟩ := HCH.out w2 HR3.out (by rw [← List.append_assoc]; exact HX.out.1)
          have jlt2 : ((j + 1 : Nat) : Int) < ((t.1.length + 1 : Nat) : Int) := by omega
          have jl02 : (0 : Int) ≤ ((j + 1 : Nat) : Int) := by omega
          clear HR1 HCH k1 k2 k3 n2' cy
          unfold ScPost at hsc
          have hsn2 : visit go xs (U ++ [y]) = (xs ++ (U ++ [y]), true) := by rw [HT.out.2.2, hgo, List.append_assoc]
          have HSN := hidp hsn2
          clear hsn2
          cases hv : (visit go (xs ++ (U ++ [y])) (BT.all h c)).2 with
          | false =>
            rw [hv] at hsc
            have HSC := hidp hsc
            have HV : Hid (visit go xs (F0 ++ seg (t.1.drop p) ((t.2.map (BT.all h)).drop (p + 1))) = ((visit go (xs ++ (U ++ [y])) (BT.all h c)).1, false)) := hidp (by
              have h2 : (visit go xs ((U ++ [y]) ++ BT.all h c)).2 = false := by rw [visit_on HSN.out]; exact hv
              exact (congrArg (visit go xs) HT.out.2.1).trans ((visit_stop h2).trans (by rw [visit_on HSN.out, ← hv])))
            clear hsc hv
            go_wp2_with fail
            refine (leaf_raw (p := some k.hdr) n3).mono ?_
            rintro e w' ⟨rfl, rfl⟩
            go_wp2_with fail
            refine HSC.out.mono ?_
            rintro e w3 ⟨rfl, hQ3, hG3⟩
            have HX3 := hidp (And.intro hQ3 (HF.out.trans _ _ _ HX.out.2 hG3))
            clear hQ3 hG3 HSC n3 h0 cc
            go_wp2
            go_ret
            exact ⟨by rw [HV.out]; try rfl, by rw [HV.out]; exact HX3.out.1, HX3.out.2⟩
          | true =>
            have hvt := visit_true go _ _ hv
            rw [hvt] at hsc
            have HSC := hidp hsc
            have HV : Hid (visit go xs ((U ++ [y]) ++ BT.all h c) = (xs ++ ((U ++ [y]) ++ BT.all h c), true)) := hidp (by rw [visit_on HSN.out, hvt, List.append_assoc])
            clear hsc hv hvt
            go_wp2_with fail
            refine (leaf_raw (p := some k.hdr) n3).mono ?_
            rintro e w' ⟨rfl, rfl⟩
            go_wp2_with fail
            refine HSC.out.mono ?_
            rintro e w3 ⟨rfl, hQ3, hG3⟩
            have HX3 := hidp (And.intro hQ3 (HF.out.trans _ _ _ HX.out.2 hG3))
            clear hQ3 hG3 HSC n3 h0 cc
            go_wp2
            go_roundw
            case rel => exact ⟨d + 1, j + 1, by omega, by omega, by go_num, hidp ⟨by rw [HT.out.1]; exact HV.out, by rw [HT.out.1, ← List.append_assoc]; exact HX3.out.1, HX3.out.2⟩⟩
            case measure => simp [intOf]; omega
        | false =>
          rw [hgo] at hcl
          have HC := hidp hcl
          clear hcl
          go_wp2_with fail
          go_region_held3 (fun w' => w'.cell? ⟨n, 2, none⟩ = some (.slice (some ⟨b, o, none⟩) t.1.length r.icap) ∧ w'.cell? ⟨b, o + j * 2, none⟩ = some (Value.int .i64 y.2) ∧ w'.cell? ⟨b, o + j * 2 + 1, none⟩ = some (Value.int .i64 y.1)) (go_keep)
            ((go_at_fn f
              refine HC.out.mono ?_
              rintro e w2 ⟨rfl, hQ2, hG2⟩
              have HX := hidp (And.intro hQ2 (HF.out.trans _ _ _ HL.out.2.2 (HF.out.trans _ _ _ (HF.out.drew _ _ (HF.out.refl wr)) hG2)))
              obtain ⟨k1, k2, k3⟩ := HFA.out w2 hG2
              clear hQ2 hG2))
          go_wp2
          go_ret
          have hst : visit go xs (F0 ++ seg (t.1.drop p) ((t.2.map (BT.all h)).drop (p + 1))) = (xs ++ U ++ [y], false) := by
            have h1 : (visit go xs (U ++ [y])).2 = false := by rw [HT.out.2.2, hgo]
            have e1 : F0 ++ seg (t.1.drop p) ((t.2.map (BT.all h)).drop (p + 1)) = (U ++ [y]) ++ (BT.all h c ++ rest) := by rw [HT.out.2.1, List.append_assoc (U ++ [y])]
            exact (congrArg (visit go xs) e1).trans ((visit_stop h1).trans (by rw [HT.out.2.2, hgo]))
          exact ⟨by rw [hst]; try rfl, by rw [hst]; exact HX.out.1, HX.out.2⟩
      · have hd : j = t.1.length := by omega
        have HF2 := hidp HL.out
        have jge : ¬ (j : Int) < (t.1.length : Int) := by omega
        have hd2 : d = (t.1.drop p).length := by rw [List.length_drop]; omega
        have HD2 := hidp hd2
        clear HL HR1 hd2
        go_wp2
        go_ret
        obtain ⟨g1, g2, g3⟩ := HF2.out
        rw [List.take_of_length_le (Nat.le_of_eq HD2.out.symm), List.take_of_length_le (by rw [HLS.out]; exact Nat.le_of_eq HD2.out.symm)] at g1 g2
        exact ⟨by rw [g1]; try rfl, by rw [g1]; exact g2, g3⟩

/-- 'nodeAscend' -/
theorem asc_tr (F : Fn S s f lb G Q go M) : ∀ h, AscIH S s f lb G Q go M h
  | 0 => fun R _ _ _ _ hA T _ _ _ hok hmx hs _ hQ hlen x => by
    obtain ⟨_, r, h1, h2, h3, h4, _⟩ := T
    subst h3
    exact asc_leaf F R hA h1 h2 h4 hs hQ hlen (Nat.le_trans hok.2 hmx) x
  | h + 1 => asc_inner F (asc_tr F h)
end
end Go.Proofs.Ytehnobbiiokcgaa.Bt.II
