/- Maps of numbers (sets): the keys, in their order. -/
import Derived.Test.YtbjhnefienjncaaBtIUkz
import Derived.Test.YtbjhnefienjncaaBtOwn
import Derived.OwnWalk
namespace Go.Proofs.Ytbjhnefienjncaa.Bt.IU
set_option linter.unusedVariables false
set_option linter.unusedSimpArgs false
open Go Go.RowKit Go.Proofs.Ytbjhnefienjncaa.Bt

variable {S : Nat → Prop} {w : World} {s : Sto It}

/-- The keys of items, as values. -/
def kv (l : List It) : List Value := l.map fun x => Value.int .i64 x.1
theorem kv_append (l m : List It) : kv (l ++ m) = kv l ++ kv m := List.map_append
theorem infoKey : (Try.prog.info? 3).map (fun i => (i.zero, i.size, i.bytes)) = some (some (Value.int .i64 0), 1, 8) := by kernel_rfl

/-- What 'keys' leaves. -/
def KeysPost (B : Nat) (w : World) (out : List Value) (e : Ending) (w' : World) : Prop := ∃ v, e = .returned v ∧ w'.ownsRow B 3 1 v out.length out ∧ Below B w w'

set_option maxHeartbeats 1000000 in
set_option maxRecDepth 100000 in
/-- 'keys' of a leaf. -/
theorem keys_leaf (R : RepS E S w s) {B : Nat} (hS : ∀ i, S i → i < B) (hB : B ≤ w.heap.size) {n : Nat} {r : NodeR It} (hn : s.nd n = some r) (hk : r.kids = none) {v : Value} {xs : List Value} (hown : w.ownsRow B 3 1 v xs.length xs) (hlen : xs.length + r.items.length ≤ 1000000000000) :
    Calls Try.prog 101 #[.pointer (some ⟨n, 0, none⟩), v] w (KeysPost B w (xs ++ kv r.items)) := by
  have n3 : w.cell? ⟨n, 3, none⟩ = some (pv none) := by rw [(ncell R hn).2.2.2.2, hk]; rfl
  obtain ⟨i0, hi0, hz0, hz1, hz2⟩ := info_parts infoKey
  have HI0 := hidp hi0
  have HZ0 := hidp hz0
  have HZ1 := hidp hz1
  have HZ2 := hidp hz2
  have HR := hidp R
  have HN := hidp hn
  have HS := hidp hS
  have HO := hidp hown
  clear R hn hS hown hi0 hz0 hz1 hz2 hk
  go_enter Try.func101, Try.ntmps101
  go_wp2_with fail
  refine (leaf_raw n3).mono ?_
  rintro e w' ⟨rfl, rfl⟩
  clear n3
  go_wp2
  go_loopw [1, 5] (fun u i wr => ∃ j : Nat, j ≤ r.items.length ∧ i = .int .i64 j ∧ Hid (wr.ownsRow B 3 1 u (xs.length + j) (xs ++ kv (r.items.take j)) ∧ Below B w wr)) (fun _ i _ => r.items.length - (intOf i).toNat)
  case atStart => exact ⟨0, Nat.zero_le _, rfl, hidp ⟨by simpa [kv] using HO.out, Below.refl _ _⟩⟩
  case round =>
    obtain ⟨j, hj, rfl, HL⟩ := hrel
    have HR1 := hidp (HR.out.below HL.out.2 HS.out)
    have hBr : B ≤ wr.heap.size := Nat.le_trans hB HL.out.2.size
    obtain ⟨ba, n2⟩ : ∃ ba, wr.cell? ⟨n, 2, none⟩ = some (.slice ba r.items.length r.icap) := ⟨_, (ncell HR1.out HN.out).2.2.2.1⟩
    by_cases hlt : j < r.items.length
    · obtain ⟨b, o, hb⟩ := HR1.out.ib_some HN.out (fun e => by rw [e] at hlt; simp at hlt)
      obtain ⟨y, hy⟩ : ∃ y, r.items[j]? = some y := ⟨r.items[j], List.getElem?_eq_getElem hlt⟩
      have cy := (icell HR1.out HN.out hb hy).2
      have n2' : wr.cell? ⟨n, 2, none⟩ = some (.slice (some ⟨b, o, none⟩) r.items.length r.icap) := by rw [(ncell HR1.out HN.out).2.2.2.1, hb]; rfl
      have hts : kv (r.items.take (j + 1)) = kv (r.items.take j) ++ [Value.int .i64 y.1] := by rw [List.take_add_one, hy, kv_append]; rfl
      have HT := hidp hts
      have jlt : (j : Int) < (r.items.length : Int) := by omega
      clear hts hy hb n2
      go_wp2_with (at_builtin; refine wpList_append_own _ rfl _ _ 23 rfl B 3 i0 _ 1 8 Try.underlying23 HI0.out HZ0.out HZ1.out HZ2.out rfl (by decide) _ _ _ rfl (HL.out.1.alloc _) ⟨wr.heap.size, 0, none⟩ 1 1 [Value.int .i64 y.1] rfl rfl (fun q u hq => by rw [Addr.add_lit, Nat.zero_add]; exact (Bx.new wr [Value.int .i64 y.1] 3).cell q hq) (by simp [Value.oneCell']) (by unfold maxLen; omega) (by omega) (by simp; omega) ?_; intro v' w1 hown1 hgrow _; have HG1 := hidp (And.intro hown1 hgrow); clear hown1 hgrow)
      have hbl : Below B w w1 := (HL.out.2.alloc hBr _).grown HG1.out.2 (by simp; omega) (fun k hk => (World.ownsRow.lt HL.out.1 k hk).1)
      have HN1 := hidp (And.intro HG1.out.1 hbl)
      clear HG1 hbl HL HR1 cy n2' hBr
      go_wp2
      go_roundw
      case rel => exact ⟨j + 1, by omega, by go_num, hidp ⟨by rw [HT.out, ← List.append_assoc, ← Nat.add_assoc]; exact HN1.out.1, HN1.out.2⟩⟩
      case measure => simp [intOf]; omega
    · obtain rfl : j = r.items.length := by omega
      have HF := hidp HL.out
      clear HL HR1 hBr
      go_wp2
      go_ret
      refine ⟨u1, rfl, ?_, HF.out.2⟩
      have := HF.out.1
      rw [List.take_length] at this
      simpa [kv] using this

def KeysIH (h : Nat) : Prop := ∀ {S : Nat → Prop} {w : World} {s : Sto It} (_ : RepS E S w s) {B : Nat} (_ : ∀ i, S i → i < B) (_ : B ≤ w.heap.size) {n : Nat} {t : BT It h} {ids : List Nat} {iso : Int} (_ : Tr s.nd iso h n t ids) {mn mx lo : Nat} (_ : BT.ok mn mx lo h t) {v : Value} {xs : List Value} (_ : w.ownsRow B 3 1 v xs.length xs) (_ : xs.length + (BT.all h t).length ≤ 1000000000000),
    Calls Try.prog 101 #[.pointer (some ⟨n, 0, none⟩), v] w (KeysPost B w (xs ++ kv (BT.all h t)))

set_option maxHeartbeats 1000000 in
set_option maxRecDepth 100000 in
theorem keys_inner {h : Nat} (IH : KeysIH h) : KeysIH (h + 1) := by
  intro S w s R B hS hB n t ids iso T mn mx lo hok v xs hown hlen
  obtain ⟨r, k, ps, idss, hn, a2, a3, a4, a5, a6, a7, a8, a9, a10⟩ := T
  have hkl := hok.2.2.1
  have hri : r.items.length = t.1.length := by rw [a3]
  have hkk : k.kids.length = t.2.length := by rw [a5, List.length_map, a7]
  obtain ⟨kb, ko, hkb⟩ := R.kb_some hn a4 (by intro e; rw [e] at hkk; simp at hkk; omega)
  have n3 : w.cell? ⟨n, 3, none⟩ = some (pv (some k.hdr)) := by rw [(ncell R hn).2.2.2.2, a4]; rfl
  obtain ⟨i0, hi0, hz0, hz1, hz2⟩ := info_parts infoKey
  have HI0 := hidp hi0
  have HZ0 := hidp hz0
  have HZ1 := hidp hz1
  have HZ2 := hidp hz2
  have HR := hidp R
  have HN := hidp hn
  have HS := hidp hS
  have HO := hidp hown
  have HK := hidp a4
  have HKB := hidp hkb
  have HP : Hid (∀ j, j ≤ t.1.length → ∃ p c is, k.kids[j]? = some (some p) ∧ t.2[j]? = some c ∧ (t.2.map (BT.all h))[j]? = some (BT.all h c) ∧ Tr s.nd iso h p c is ∧ BT.ok mn mx mn h c) := hidp fun j hj => by
    obtain ⟨p, hp⟩ : ∃ p, ps[j]? = some p := ⟨ps[j]'(by omega), List.getElem?_eq_getElem _⟩
    obtain ⟨c, hc⟩ : ∃ c, t.2[j]? = some c := ⟨t.2[j]'(by omega), List.getElem?_eq_getElem _⟩
    obtain ⟨is, his⟩ : ∃ is, idss[j]? = some is := ⟨idss[j]'(by omega), List.getElem?_eq_getElem _⟩
    exact ⟨p, c, is, by rw [a5, List.getElem?_map, hp]; rfl, hc, by rw [List.getElem?_map, hc]; rfl, a10 j p c is hp hc his, hok.2.2.2 c (List.mem_of_getElem? hc)⟩
  have HA := hidp a3
  have HLEN : Hid (xs.length + (weave t.1 (t.2.map (BT.all h))).length ≤ 1000000000000) := hidp hlen
  have HEND : Hid (∀ c, t.2[t.1.length]? = some c → weave t.1 (t.2.map (BT.all h)) = wpre t.1.length t.1 (t.2.map (BT.all h)) ++ BT.all h c) := hidp fun c hc => weave_end (by rw [List.length_map]; exact hkl) (by rw [List.getElem?_map, hc]; rfl)
  have hkc : k.kids.length = t.1.length + 1 := by rw [hkk, hkl]
  have htl : t.1.length ≤ 1000000000000 := by
    have h1 := (weave_sub t.1 (t.2.map (BT.all h))).length_le
    have h2 := HLEN.out
    omega
  clear R hn hS hown hi0 hz0 hz1 hz2 a2 a3 a4 a5 a6 a7 a8 a9 a10 hkb hok hlen hkk hkl
  show Calls _ _ _ w (KeysPost B w (xs ++ kv (weave t.1 (t.2.map (BT.all h)))))
  have HKC := hidp hkc
  have HRI := hidp hri
  clear hkc hri
  go_enter Try.func101, Try.ntmps101
  go_wp2_with fail
  refine (leaf_raw n3).mono ?_
  rintro e w' ⟨rfl, rfl⟩
  clear n3
  go_wp2
  go_loopw [1, 6] (fun u i wr => ∃ j : Nat, j ≤ t.1.length ∧ i = .int .i64 j ∧ Hid (wr.ownsRow B 3 1 u (xs ++ kv (wpre j t.1 (t.2.map (BT.all h)))).length (xs ++ kv (wpre j t.1 (t.2.map (BT.all h)))) ∧ Below B w wr)) (fun _ i _ => t.1.length - (intOf i).toNat)
  case atStart => exact ⟨0, Nat.zero_le _, rfl, hidp ⟨by simpa [kv, wpre] using HO.out, Below.refl _ _⟩⟩
  case round =>
    obtain ⟨j, hj, rfl, HL⟩ := hrel
    have HR1 := hidp (HR.out.below HL.out.2 HS.out)
    have hBr : B ≤ wr.heap.size := Nat.le_trans hB HL.out.2.size
    obtain ⟨p, c, is, hp, hc, hL, Tc, hcok⟩ := HP.out j hj
    have hwl := wpre_length_le hj hL
    have hll : (xs ++ kv (wpre j t.1 (t.2.map (BT.all h)))).length = xs.length + (wpre j t.1 (t.2.map (BT.all h))).length := by simp [kv]
    have hxl := HLEN.out
    have HCH := hidp (IH HR1.out HS.out hBr Tc hcok HL.out.1 (by rw [hll]; omega))
    have n3 : wr.cell? ⟨n, 3, none⟩ = some (.pointer (some ⟨k.hdr, 0, none⟩)) := by rw [(ncell HR1.out HN.out).2.2.2.2, HK.out]; rfl
    have h0 : wr.cell? ⟨k.hdr, 0, none⟩ = some (.slice (some ⟨kb, ko, none⟩) (t.1.length + 1) k.cap) := by
      have := (HR1.out.hdr HN.out HK.out).cell 0 rfl
      rw [HKB.out, HKC.out] at this; exact this
    have c0 : wr.cell? ⟨kb, ko + j, none⟩ = some (.pointer (some ⟨p, 0, none⟩)) := M_cell (HR1.out.kid HN.out HK.out HKB.out hp)
    obtain ⟨ba, n2⟩ : ∃ ba, wr.cell? ⟨n, 2, none⟩ = some (.slice ba t.1.length r.icap) := ⟨r.ib.map fun p => ⟨p.1, p.2, none⟩, by rw [(ncell HR1.out HN.out).2.2.2.1, HRI.out]; rfl⟩
    by_cases hlt : j < t.1.length
    · obtain ⟨y, hy⟩ : ∃ y, t.1[j]? = some y := ⟨t.1[j], List.getElem?_eq_getElem hlt⟩
      have hst := wpre_step j t.1 (t.2.map (BT.all h)) y _ hy hL
      have HT : Hid (xs ++ kv (wpre (j + 1) t.1 (t.2.map (BT.all h))) = ((xs ++ kv (wpre j t.1 (t.2.map (BT.all h)))) ++ kv (BT.all h c)) ++ [Value.int .i64 y.1]) := hidp (by rw [hst, kv_append, kv_append]; simp [kv])
      have hl2 : ((xs ++ kv (wpre j t.1 (t.2.map (BT.all h)))) ++ kv (BT.all h c)).length ≤ 1000000000000 := by rw [List.length_append, hll]; simp only [kv, List.length_map]; omega
      have HY : Hid (r.items[j]? = some y) := hidp (by rw [HA.out]; exact hy)
      have jlt : (j : Int) < (t.1.length : Int) := by omega
      have jlt2 : (j : Int) < ((t.1.length + 1 : Nat) : Int) := by omega
      clear hp hc hL Tc hcok hwl hll hxl hst hy HR1
      go_wp2_with fail
      refine HCH.out.mono ?_
      rintro e w2 ⟨v2, rfl, hown2, hbl2⟩
      have hb2 := HL.out.2.trans hbl2
      have HC2 := hidp (And.intro hown2 hb2)
      have hBr2 : B ≤ w2.heap.size := Nat.le_trans hB hb2.size
      have R2 := HR.out.below hb2 HS.out
      obtain ⟨b, o, hb⟩ := R2.ib_some HN.out (fun e => by have h1 := HRI.out; rw [e] at h1; simp at h1; omega)
      have cy := (icell R2 HN.out hb HY.out).2
      have n2' : w2.cell? ⟨n, 2, none⟩ = some (.slice (some ⟨b, o, none⟩) t.1.length r.icap) := by rw [(ncell R2 HN.out).2.2.2.1, hb, HRI.out]; rfl
      clear hown2 hbl2 hb2 R2 hb n3 h0 c0 n2 HCH HL hBr
      go_wp2_with (at_builtin; refine wpList_append_own _ rfl _ _ 23 rfl B 3 i0 _ 1 8 Try.underlying23 HI0.out HZ0.out HZ1.out HZ2.out rfl (by decide) _ _ _ rfl (HC2.out.1.alloc _) ⟨w2.heap.size, 0, none⟩ 1 1 [Value.int .i64 y.1] rfl rfl (fun q u hq => by rw [Addr.add_lit, Nat.zero_add]; exact (Bx.new w2 [Value.int .i64 y.1] 3).cell q hq) (by simp [Value.oneCell']) (by unfold maxLen; omega) (by omega) (by simp; omega) ?_; intro v' w1 hown1 hgrow _; have HG1 := hidp (And.intro hown1 hgrow); clear hown1 hgrow)
      have hbl : Below B w w1 := (HC2.out.2.alloc hBr2 _).grown HG1.out.2 (by simp; omega) (fun k hk => (World.ownsRow.lt HC2.out.1 k hk).1)
      have HN1 := hidp (And.intro HG1.out.1 hbl)
      clear HG1 hbl HC2 cy n2' hBr2
      go_wp2
      go_roundw
      case rel => exact ⟨j + 1, by omega, by go_num, hidp ⟨by rw [HT.out, List.length_append]; exact HN1.out.1, HN1.out.2⟩⟩
      case measure => simp [intOf]; omega
    · obtain rfl : j = t.1.length := by omega
      have HE := hidp (HEND.out c hc)
      have HKP := hidp hp
      have HCD := hidp (IH HR1.out.drew HS.out hBr Tc hcok HL.out.1.drew (by rw [hll]; omega))
      clear hp hc hL Tc hcok hwl hll hxl HR1 hBr
      obtain ⟨N, hN⟩ : ∃ N, N = t.1.length + 1 := ⟨_, rfl⟩
      rw [← hN] at h0
      have hN1 : (t.1.length : Int) < (N : Int) := by omega
      have hw1 : IntKind.i64.wrap ((N : Int) - 1) = (t.1.length : Int) := by rw [Last.i64_w, IntWalk.wrap64_in _ ⟨by omega, by omega⟩]; omega
      have HFA : Hid (∀ w2, Below B w w2 → w2.cell? ⟨n, 3, none⟩ = some (.pointer (some ⟨k.hdr, 0, none⟩)) ∧ w2.cell? ⟨k.hdr, 0, none⟩ = some (.slice (some ⟨kb, ko, none⟩) N k.cap) ∧ w2.cell? ⟨kb, ko + t.1.length, none⟩ = some (.pointer (some ⟨p, 0, none⟩))) := hidp fun w2 hb => by
        have R2 := HR.out.below hb HS.out
        refine ⟨by rw [(ncell R2 HN.out).2.2.2.2, HK.out]; rfl, ?_, M_cell (R2.kid HN.out HK.out HKB.out HKP.out)⟩
        have := (R2.hdr HN.out HK.out).cell 0 rfl
        rw [HKB.out, HKC.out, ← hN] at this; exact this
      clear hN HCH
      go_wp2_with fail
      go_region_held3 (fun w' => w'.cell? ⟨n, 3, none⟩ = some (.pointer (some ⟨k.hdr, 0, none⟩)) ∧ w'.cell? ⟨k.hdr, 0, none⟩ = some (.slice (some ⟨kb, ko, none⟩) N k.cap) ∧ w'.cell? ⟨kb, ko + t.1.length, none⟩ = some (.pointer (some ⟨p, 0, none⟩))) (go_keep)
        ((go_at_call 101
          refine (HCD.out).mono ?_
          rintro e w2 ⟨v2, rfl, hown2, hbl2⟩
          have HC2 := hidp (And.intro hown2 (HL.out.2.drew.trans hbl2))
          obtain ⟨k1, k2, k3⟩ := HFA.out w2 (HL.out.2.drew.trans hbl2)
          clear hown2 hbl2))
      go_wp2
      go_ret
      refine ⟨v2, rfl, ?_, HC2.out.2⟩
      have := HC2.out.1
      rw [HE.out, kv_append, ← List.append_assoc]; exact this

/-- 'keys' -/
theorem keys_tr : ∀ h, KeysIH h
  | 0 => fun R _ hS hB _ _ _ _ T _ _ _ _ _ _ hown hlen => by
    obtain ⟨_, r, h1, _, h3, h4, _⟩ := T
    subst h3
    exact keys_leaf R hS hB h1 h4 hown hlen
  | h + 1 => keys_inner (keys_tr h)
end Go.Proofs.Ytbjhnefienjncaa.Bt.IU
