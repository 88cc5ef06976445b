/- Maps from numbers to numbers: Get. -/
import Derived.Test.YtehnobbiiokcgaaBtIIkz
namespace Go.Proofs.Ytehnobbiiokcgaa.Bt.II
set_option linter.unusedVariables false
set_option linter.unusedSimpArgs false
open Go Go.RowKit Go.Proofs.Ytehnobbiiokcgaa.Bt

/-- There is a least number with P. -/
theorem least (P : Nat → Prop) (n : Nat) : P n → ∃ k, P k ∧ ∀ j, P j → k ≤ j := by
  induction n using Nat.strongRecOn with
  | ind n ih =>
    intro h
    by_cases hh : ∃ m, m < n ∧ P m
    · obtain ⟨m, hm, hp⟩ := hh
      exact ih m hm hp
    · exact ⟨n, h, fun j hj => Nat.le_of_not_lt fun hl => hh ⟨j, hl, hj⟩⟩
open Classical in
/-- The least number with P. -/
noncomputable def lst (P : Nat → Prop) : Nat := if h : ∃ k, P k ∧ ∀ j, P j → k ≤ j then Classical.choose h else 0
theorem lst_of {P : Nat → Prop} {n : Nat} (h : P n) : P (lst P) ∧ ∀ j, P j → lst P ≤ j := by
  have h2 := least P n h
  unfold lst
  rw [dif_pos h2]
  exact Classical.choose_spec h2

theorem drewN_add (w : World) (d a : Nat) : (w.drewN d).drewN a = w.drewN (d + a) := by
  simp [World.drewN, Nat.add_assoc]

/-- The block a pointer points to. -/
def ptrOf : Value → Nat
  | .pointer (some a) => a.block
  | _ => 0
/-- The value of what was found. -/
def gv : Option It → Value
  | some y => Value.int .i64 y.2
  | none => Value.int .i64 0

/-- A search for x that has come to the node q, of height k, will find o. -/
def Down (s : Sto It) (mn mx : Nat) (x : It) (o : Option It) (q k : Nat) : Prop :=
  ∃ (t' : BT It k) (ids' : List Nat) (lo' : Nat), Tr s.nd s.mp.iso k q t' ids' ∧ BT.ok mn mx lo' k t' ∧ Srt lt (BT.all k t') ∧ look lt (BT.all k t') x = o

variable {S : Nat → Prop} {w : World} {s : Sto It}

set_option maxHeartbeats 4000000 in
set_option maxRecDepth 100000 in
/-- 'get' -/
theorem get_tr (R : RepS E S w s) {h n : Nat} {t : BT It h} {ids : List Nat} (hr : s.mp.root = some n) (T : Tr s.nd s.mp.iso h n t ids) {mn mx lo : Nat} (hok : BT.ok mn mx lo h t) (hmx : mx ≤ 100000) (hs : Srt lt (BT.all h t)) (x : It) :
    Calls Try.prog 80 #[.pointer (some ⟨s.m, 0, none⟩), Value.int .i64 x.1, .bool false] w (fun e w' => e = .returned (.tuple #[gv (look lt (BT.all h t) x), .bool (look lt (BT.all h t) x).isSome]) ∧ ∃ d, w' = w.drewN d) := by
  obtain ⟨_, _, _, m2, _⟩ := mcell R
  rw [hr] at m2
  have m2' : w.cell? ⟨s.m, 2, none⟩ = some (.pointer (some ⟨n, 0, none⟩)) := m2
  obtain ⟨_, r, hn, hi, _, _, _⟩ := T.root
  have HISO := hidp (isoLoad_own R m2 hn hi false)
  have HD : Hid (∃ k, Down s mn mx x (look lt (BT.all h t) x) n k) := hidp ⟨h, t, ids, lo, T, hok, hs, rfl⟩
  have HR := hidp R
  clear R m2 T hok hs hn hi hr
  generalize look lt (BT.all h t) x = o at HD ⊢
  go_enter Try.func80, Try.ntmps80
  go_wp2_with fail
  refine HISO.out.mono ?_
  rintro e w' ⟨rfl, a1, rfl⟩
  clear HISO m2'
  go_wp2
  go_loopw [8] (fun a wr => ∃ q : Nat, a = .pointer (some ⟨q, 0, none⟩) ∧ Hid (∃ k, Down s mn mx x o q k) ∧ Hid (∃ d, wr = w.drewN d)) (fun a _ => lst (Down s mn mx x o (ptrOf a)))
  case atStart => exact ⟨n, rfl, HD, hidp ⟨a1, rfl⟩⟩
  case round =>
    obtain ⟨q, rfl, HQ, HW⟩ := hrel
    clear HD
    have HRW : Hid (RepS E S wr s) := hidp (by obtain ⟨d, rfl⟩ := HW.out; exact HR.out.drewN d)
    have HPS : Hid (∀ k, Down s mn mx x o q k → ∃ r : NodeR It, s.nd q = some r ∧ r.iso = s.mp.iso ∧ Srt lt r.items ∧ r.items.length ≤ 100000 ∧ (∀ y, look lt r.items x = some y → o = some y) ∧ (look lt r.items x = none → r.kids = none → o = none) ∧
        (∀ kk : KidR, look lt r.items x = none → r.kids = some kk → ∃ (j p : Nat) (rp : NodeR It), k = j + 1 ∧ kk.kids[pos lt r.items x]? = some (some p) ∧ s.nd p = some rp ∧ rp.iso = s.mp.iso ∧ Down s mn mx x o p j)) := hidp (by
      rintro k ⟨t', ids', lo', T, hok, hs, ho⟩
      cases k with
      | zero =>
        obtain ⟨_, r, h1, h2, h3, h4, _⟩ := T
        subst h3
        have hok2 : r.items.length ≤ mx := hok.2
        exact ⟨r, h1, h2, hs, by omega, fun y hy => by rw [← ho]; exact hy, fun hl _ => by rw [← ho]; exact hl, fun kk _ hk => by rw [h4] at hk; cases hk⟩
      | succ k =>
        obtain ⟨r, kk, ps, idss, h1, h2, h3, h4, h5, h6, h7, h8, h9, h10⟩ := T
        have hkl := hok.2.2.1
        have hhi : t'.1.length ≤ mx := hok.2.1
        have hll : (t'.2.map (BT.all k)).length = t'.1.length + 1 := by rw [List.length_map]; exact hkl
        have hs' : Srt lt (weave t'.1 (t'.2.map (BT.all k))) := hs
        have ho' : look lt (weave t'.1 (t'.2.map (BT.all k))) x = o := ho
        refine ⟨r, h1, h2, by rw [h3]; exact hs'.sublist (weave_sub _ _), by rw [h3]; omega, fun y hy => ?_, fun _ hk => (by rw [h4] at hk; cases hk), fun kk2 hl hk => ?_⟩
        · rw [h3] at hy
          rw [← ho', (look_its ord hll hs' hy).1]
        · rw [h4] at hk
          obtain rfl := Option.some.inj hk
          rw [h3] at hl ⊢
          have hpl := pos_le (lt := lt) t'.1 x
          obtain ⟨p, hp⟩ : ∃ p, ps[pos lt t'.1 x]? = some p := ⟨ps[pos lt t'.1 x]'(by omega), List.getElem?_eq_getElem _⟩
          obtain ⟨c, hc⟩ : ∃ c, t'.2[pos lt t'.1 x]? = some c := ⟨t'.2[pos lt t'.1 x]'(by omega), List.getElem?_eq_getElem _⟩
          obtain ⟨is, his⟩ : ∃ is, idss[pos lt t'.1 x]? = some is := ⟨idss[pos lt t'.1 x]'(by omega), List.getElem?_eq_getElem _⟩
          have hL : (t'.2.map (BT.all k))[pos lt t'.1 x]? = some (BT.all k c) := by rw [List.getElem?_map, hc]; rfl
          have Tc := h10 _ p c is hp hc his
          obtain ⟨_, rp, g1, g2, _, _, _⟩ := Tc.root
          exact ⟨k, p, rp, rfl, by rw [h5, List.getElem?_map, hp]; rfl, g1, g2, c, is, mn, Tc, hok.2.2.2 c (List.mem_of_getElem? hc), hs'.sublist (weave_kid hpl hL), by rw [← ho', (look_kid ord hll hs' hl hL).1]⟩)
    obtain ⟨k0, hk0⟩ := HQ.out
    obtain ⟨hk, _⟩ := lst_of hk0
    have HK := hidp hk
    clear hk hk0 HQ
    obtain ⟨r, hq, hi, hsr, hl9, hf1, hf2, hf3⟩ := HPS.out _ HK.out
    have HN := hidp hq
    have HF := hidp (And.intro hf1 (And.intro hf2 hf3))
    have HSE := hidp (search_is HRW.out hq hsr (by omega) x)
    clear hsr hf1 hf2 hf3 hi
    obtain ⟨p, hp⟩ : ∃ p, pos lt r.items x = p := ⟨_, rfl⟩
    cases hlk : look lt r.items x with
    | some y =>
      have hfd := fnd_some hlk
      obtain ⟨hy, _, hpl⟩ := look_some hlk
      obtain rfl := HF.out.1 y hlk
      rw [hp] at hy hpl HSE
      rw [hfd] at HSE
      obtain ⟨b, off, hb⟩ := HRW.out.ib_some hq (fun e => by rw [e] at hpl; simp at hpl)
      have hpi : (p : Int) < (r.items.length : Int) := by omega
      have HFA : Hid (∀ d, (wr.drewN d).cell? ⟨q, 2, none⟩ = some (.slice (some ⟨b, off, none⟩) r.items.length r.icap) ∧ (wr.drewN d).cell? ⟨b, off + p * 2, none⟩ = some (Value.int .i64 y.2)) := hidp fun d => by
        have R2 := HRW.out.drewN d
        exact ⟨by rw [(ncell R2 HN.out).2.2.2.1, hb]; rfl, (icell R2 HN.out hb hy).1⟩
      clear hlk hfd hy hb hq
      go_wp2_with fail
      refine HSE.out.mono ?_
      rintro e w' ⟨rfl, a2, rfl⟩
      obtain ⟨c2, c3⟩ := HFA.out a2
      go_wp2
      refine bodyPost_ret (v := .tuple #[gv (some y), .bool true]) (by simp [results, Try.results80, go_sem, gv, c3]) rfl ?_
      refine ⟨rfl, ?_⟩
      obtain ⟨d, rfl⟩ := HW.out
      exact ⟨d + a2, by rw [drewN_add]⟩
    | none =>
      have hfd := fnd_none hlk
      have hpl : p ≤ r.items.length := by rw [← hp]; exact pos_le (lt := lt) _ _
      rw [hp, hfd] at HSE
      cases hk : r.kids with
      | none =>
        obtain rfl := HF.out.2.1 hlk hk
        have HFA : Hid (∀ d, (wr.drewN d).cell? ⟨q, 3, none⟩ = some (pv none) ∧ (wr.drewN d).cell? ⟨s.m, 4, none⟩ = some (Value.int .i64 0)) := hidp fun d => by
          have R2 := HRW.out.drewN d
          exact ⟨by rw [(ncell R2 HN.out).2.2.2.2, hk]; rfl, (mcell R2).2.2.2.2.2.1⟩
        clear hlk hfd hk hq
        go_wp2_with fail
        refine HSE.out.mono ?_
        rintro e w' ⟨rfl, a2, rfl⟩
        obtain ⟨n3, m4⟩ := HFA.out a2
        go_wp2_with fail
        refine (leaf_raw n3).mono ?_
        rintro e w' ⟨rfl, rfl⟩
        go_wp2
        refine bodyPost_ret (v := .tuple #[gv none, .bool false]) (by simp [results, Try.results80, go_sem, gv, m4]) rfl ?_
        refine ⟨rfl, ?_⟩
        obtain ⟨d, rfl⟩ := HW.out
        exact ⟨d + a2, by rw [drewN_add]⟩
      | some kk =>
        obtain ⟨j, c, rc, hj, hc, hnc, hic, hD⟩ := HF.out.2.2 kk hlk hk
        rw [hp] at hc
        obtain ⟨kb, ko, hkb⟩ := HRW.out.kb_some hq hk (by intro e; rw [e] at hc; simp at hc)
        have hkl : p < kk.kids.length := (List.getElem?_eq_some_iff.1 hc).1
        have HFA : Hid (∀ d, (wr.drewN d).cell? ⟨q, 3, none⟩ = some (.pointer (some ⟨kk.hdr, 0, none⟩)) ∧ (wr.drewN d).cell? ⟨kk.hdr, 0, none⟩ = some (.slice (some ⟨kb, ko, none⟩) kk.kids.length kk.cap) ∧
            Calls Try.prog 100 #[.pointer (some ⟨s.m, 0, none⟩), .pointer (some ⟨kb, ko + p, none⟩), .bool false] (wr.drewN d) (fun e w' => e = .returned (.pointer (some ⟨c, 0, none⟩)) ∧ ∃ a, w' = (wr.drewN d).drewN a)) := hidp fun d => by
          have R2 := HRW.out.drewN d
          refine ⟨by rw [(ncell R2 HN.out).2.2.2.2, hk]; rfl, ?_, isoLoad_own R2 (M_cell (R2.kid HN.out hk hkb hc)) hnc hic false⟩
          have h := (R2.hdr HN.out hk).cell 0 rfl
          rw [hkb] at h; exact h
        have HDN := hidp (And.intro hj hD)
        have hpi : (p : Int) < (kk.kids.length : Int) := by omega
        clear hlk hfd hk hq hnc hic hc hkb hj hD HF
        go_wp2_with fail
        refine HSE.out.mono ?_
        rintro e w' ⟨rfl, a2, rfl⟩
        obtain ⟨n3, h0, hcall⟩ := HFA.out a2
        have HC := hidp hcall
        clear hcall HFA HSE
        go_wp2_with fail
        refine (leaf_raw (p := some kk.hdr) n3).mono ?_
        rintro e w' ⟨rfl, rfl⟩
        go_wp2_with fail
        refine HC.out.mono ?_
        rintro e w' ⟨rfl, a3, rfl⟩
        clear n3 h0 HC
        go_wp2
        go_roundw
        case rel => exact ⟨c, rfl, hidp ⟨j, HDN.out.2⟩, hidp (by obtain ⟨d, rfl⟩ := HW.out; exact ⟨d + a2 + a3, by simp only [drewN_add, Nat.add_assoc]⟩)⟩
        case measure =>
          have h1 := (lst_of HDN.out.2).2 j HDN.out.2
          have h2 := HDN.out.1
          show lst (Down s mn mx x o c) < lst (Down s mn mx x o q)
          omega

set_option maxRecDepth 100000 in
/-- 'get' in an empty map. -/
theorem get_nil (R : RepS E S w s) (hr : s.mp.root = none) (x : It) :
    Calls Try.prog 80 #[.pointer (some ⟨s.m, 0, none⟩), Value.int .i64 x.1, .bool false] w (fun e w' => e = .returned (.tuple #[gv none, .bool false]) ∧ w' = w) := by
  obtain ⟨_, _, _, m2, _, m4, _⟩ := mcell R
  rw [hr] at m2
  have m2' : w.cell? ⟨s.m, 2, none⟩ = some (.pointer none) := m2
  clear R m2 hr
  go_enter Try.func80, Try.ntmps80
  go_wp2
  refine bodyPost_ret (v := .tuple #[gv none, .bool false]) (by simp [results, Try.results80, go_sem, gv]) rfl ?_
  exact ⟨rfl, by first | rfl | trivial⟩

set_option maxRecDepth 100000 in
/-- 'Get' -/
theorem Get_of {o : Option It} {x : It} (hg : Calls Try.prog 80 #[.pointer (some ⟨s.m, 0, none⟩), Value.int .i64 x.1, .bool false] w (fun e w' => e = .returned (.tuple #[gv o, .bool o.isSome]) ∧ ∃ d, w' = w.drewN d)) :
    Calls Try.prog 50 #[.pointer (some ⟨s.m, 0, none⟩), Value.int .i64 x.1] w (fun e w' => e = .returned (.tuple #[gv o, .bool o.isSome]) ∧ ∃ d, w' = w.drewN d) := by
  have HG := hidp hg
  clear hg
  go_enter Try.func50, Try.ntmps50
  go_wp2_with fail
  refine HG.out.mono ?_
  rintro e w' ⟨rfl, a, rfl⟩
  go_wp2
  refine bodyPost_ret (v := .tuple #[gv o, .bool o.isSome]) (by simp [results, Try.results50, go_sem]) rfl ?_
  exact ⟨rfl, a, rfl⟩
end Go.Proofs.Ytehnobbiiokcgaa.Bt.II
