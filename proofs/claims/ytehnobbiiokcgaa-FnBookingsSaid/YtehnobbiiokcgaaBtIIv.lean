/- Maps from numbers to numbers: the keys and the values, in their order. -/
import Derived.Test.YtehnobbiiokcgaaBtIIp
import Derived.Test.YtehnobbiiokcgaaBtRow
import Derived.OwnWalk
import Derived.Deep.DeepMust
namespace Go.Proofs.Ytehnobbiiokcgaa.Bt.II
set_option linter.unusedVariables false
set_option linter.unusedSimpArgs false
open Go Go.RowKit Go.Proofs.Ytehnobbiiokcgaa.Bt

variable {S : Nat → Prop} {w : World} {s : Sto It}

/-- The values of items. -/
def vv (l : List It) : List Value := l.map fun x => Value.int .i64 x.2
theorem vv_append (l m : List It) : vv (l ++ m) = vv l ++ vv m := List.map_append
theorem infoVal : (Try.prog.info? 3).map (fun i => (i.zero, i.size, i.bytes)) = some (some (Value.int .i64 0), 1, 8) := by kernel_rfl

/-- Two rows of the call's own, apart from each other. -/
def Rows2 (B : Nat) (w : World) (u v : Value) (ks vs : List Value) : Prop := ∃ g1 g2, Row 1 w u ks.length ks (some g1) ∧ Row 1 w v vs.length vs (some g2) ∧ g1 ≠ g2 ∧ B ≤ g1 ∧ B ≤ g2
theorem Rows2.drewN {B : Nat} {u v : Value} {ks vs : List Value} (h : Rows2 B w u v ks vs) (n : Nat) : Rows2 B (w.drewN n) u v ks vs := by
  obtain ⟨g1, g2, a, b, c⟩ := h; exact ⟨g1, g2, a.drewN n, b.drewN n, c⟩
theorem Rows2.drew {B : Nat} {u v : Value} {ks vs : List Value} (h : Rows2 B w u v ks vs) : Rows2 B w.drew u v ks vs := by
  obtain ⟨g1, g2, a, b, c⟩ := h; exact ⟨g1, g2, a.drew, b.drew, c⟩
theorem Row.len_eq {w : World} {v : Value} {n : Nat} {xs : List Value} {g : Option Nat} (h : Row 1 w v n xs g) : xs.length = n := by rw [h.1, Nat.mul_one]
theorem Rows2.first {B m : Nat} {w' : World} {u' v : Value} {zs vs : List Value} {g1 g2 g1' : Nat} {c : Array Value} {t : TypeId} (hv : Row 1 w v vs.length vs (some g2)) (hne : g1 ≠ g2) (hb1 : B ≤ g1) (hb2 : B ≤ g2) (hB : B ≤ w.heap.size)
    (hr : Row 1 w' u' m zs (some g1')) (hg : g1 = g1' ∨ w.heap.size + 1 ≤ g1') (hF : Fr (fun k => g1 = k) (w.alloc (.cells c t)) w') : Rows2 B w' u' v zs vs := by
  have hlt := hv.lt
  refine ⟨g1', g2, by rw [Row.len_eq hr]; exact hr, (hv.alloc _).keep hF (fun b e h => hne (h.trans (Option.some.inj e).symm)), ?_, ?_, hb2⟩
  · rcases hg with h | h
    · rw [← h]; exact hne
    · omega
  · rcases hg with h | h
    · rw [← h]; exact hb1
    · omega
theorem Rows2.second {B m : Nat} {w' : World} {u v' : Value} {ks zs : List Value} {g1 g2 g2' : Nat} {c : Array Value} {t : TypeId} (hu : Row 1 w u ks.length ks (some g1)) (hne : g1 ≠ g2) (hb1 : B ≤ g1) (hb2 : B ≤ g2) (hB : B ≤ w.heap.size)
    (hr : Row 1 w' v' m zs (some g2')) (hg : g2 = g2' ∨ w.heap.size + 1 ≤ g2') (hF : Fr (fun k => g2 = k) (w.alloc (.cells c t)) w') : Rows2 B w' u v' ks zs := by
  have hlt := hu.lt
  refine ⟨g1, g2', (hu.alloc _).keep hF (fun b e h => hne ((Option.some.inj e).trans h.symm)), by rw [Row.len_eq hr]; exact hr, ?_, hb1, ?_⟩
  · rcases hg with h | h
    · rw [← h]; exact hne
    · omega
  · rcases hg with h | h
    · rw [← h]; exact hb2
    · omega
theorem app_bl {B g : Nat} {w0 w' : World} {c : Array Value} {t : TypeId} (hb : Below B w0 w) (hB : B ≤ w.heap.size) (hg : B ≤ g) (hF : Fr (fun k => g = k) (w.alloc (.cells c t)) w') : Below B w0 w' :=
  (hb.alloc hB _).trans (hF.below (by rw [World.size_alloc]; omega) (fun i h => by have h' : g = i := h; omega))

/-- What 'nodeKeyValues' leaves. -/
def KVPost (B : Nat) (w : World) (ks vs : List Value) (e : Ending) (w' : World) : Prop := ∃ u v, e = .returned (.tuple #[u, v]) ∧ Rows2 B w' u v ks vs ∧ Below B w w'

set_option maxHeartbeats 2000000 in
set_option maxRecDepth 100000 in
/-- 'nodeKeyValues' of a leaf. -/
theorem kv_leaf (R : RepS E S w s) {B : Nat} (hS : ∀ i, S i → i < B) (hB : B ≤ w.heap.size) {A : Addr} {n : Nat} {r : NodeR It} (hA : w.cell? A = some (pv (some n))) (hn : s.nd n = some r) (hi : r.iso = s.mp.iso) (hk : r.kids = none) {u v : Value} {ks vs : List Value} (hown : Rows2 B w u v ks vs) (hkl : ks.length = vs.length) (hlen : ks.length + r.items.length ≤ 1000000000000) :
    Calls Try.prog 108 #[.pointer (some ⟨s.m, 0, none⟩), .pointer (some A), u, v, .bool false] w (KVPost B w (ks ++ kv r.items) (vs ++ vv r.items)) := by
  obtain ⟨i0, hi0, hz0, hz1, hz2⟩ := info_parts infoKey
  obtain ⟨j0, hj0, hy0, hy1, hy2⟩ := info_parts infoVal
  have HI0 := hidp hi0
  have HZ0 := hidp hz0
  have HZ1 := hidp hz1
  have HZ2 := hidp hz2
  have HJ0 := hidp hj0
  have HY0 := hidp hy0
  have HY1 := hidp hy1
  have HY2 := hidp hy2
  have HISO := hidp (isoLoad_own R hA hn hi false)
  have HR := hidp R
  have HN := hidp hn
  have HS := hidp hS
  have HO := hidp hown
  have HKL := hidp hkl
  have HK := hidp hk
  clear R hn hS hown hi0 hz0 hz1 hz2 hj0 hy0 hy1 hy2 hk hkl hA hi
  go_enter Try.func108, Try.ntmps108
  go_wp2_with fail
  refine HISO.out.mono ?_
  rintro e w' ⟨rfl, a1, rfl⟩
  have n3 : (w.drewN a1).cell? ⟨n, 3, none⟩ = some (pv none) := by rw [(ncell (HR.out.drewN a1) HN.out).2.2.2.2, HK.out]; rfl
  have HB0 : Hid (Rows2 B (w.drewN a1) u v ks vs ∧ Below B w (w.drewN a1)) := hidp ⟨HO.out.drewN a1, ((Fr.refl (fun _ => False) w).drewN a1).below hB (fun _ h => h.elim)⟩
  clear HO HISO
  go_wp2_with fail
  refine (leaf_raw n3).mono ?_
  rintro e w' ⟨rfl, rfl⟩
  clear n3
  generalize w.drewN a1 = wb at HB0 ⊢
  go_wp2
  go_loopw [2, 3, 13] (fun uk uv i wr => ∃ j : Nat, j ≤ r.items.length ∧ i = .int .i64 j ∧ Hid (Rows2 B wr uk uv (ks ++ kv (r.items.take j)) (vs ++ vv (r.items.take j)) ∧ Below B w wr)) (fun _ _ i _ => r.items.length - (intOf i).toNat)
  case atStart => exact ⟨0, Nat.zero_le _, rfl, hidp ⟨by simpa [kv, vv] using HB0.out.1, HB0.out.2⟩⟩
  case round =>
    obtain ⟨j, hj, rfl, HL⟩ := hrel
    have HR1 := hidp (HR.out.below HL.out.2 HS.out)
    have hBr : B ≤ wr.heap.size := Nat.le_trans hB HL.out.2.size
    obtain ⟨ba, n2⟩ : ∃ ba, wr.cell? ⟨n, 2, none⟩ = some (.slice ba r.items.length r.icap) := ⟨_, (ncell HR1.out HN.out).2.2.2.1⟩
    by_cases hlt : j < r.items.length
    · obtain ⟨b, o, hb⟩ := HR1.out.ib_some HN.out (fun e => by rw [e] at hlt; simp at hlt)
      obtain ⟨y, hy⟩ : ∃ y, r.items[j]? = some y := ⟨r.items[j], List.getElem?_eq_getElem hlt⟩
      have cy := (icell HR1.out HN.out hb hy).2
      have n2' : wr.cell? ⟨n, 2, none⟩ = some (.slice (some ⟨b, o, none⟩) r.items.length r.icap) := by rw [(ncell HR1.out HN.out).2.2.2.1, hb]; rfl
      have hts : kv (r.items.take (j + 1)) = kv (r.items.take j) ++ [Value.int .i64 y.1] := by rw [List.take_add_one, hy, kv_append]; rfl
      have htv : vv (r.items.take (j + 1)) = vv (r.items.take j) ++ [Value.int .i64 y.2] := by rw [List.take_add_one, hy, vv_append]; rfl
      have HT := hidp hts
      have HTV := hidp htv
      have HBB := hidp hb
      have HY := hidp hy
      have jlt : (j : Int) < (r.items.length : Int) := by omega
      obtain ⟨⟨g1, g2, r1, r2, hne, hb1, hb2⟩, hbl0⟩ := HL.out
      have hl1 : (ks ++ kv (r.items.take j)).length ≤ 1000000000000 := by rw [List.length_append]; simp only [kv, List.length_map, List.length_take]; omega
      have hl2 : (vs ++ vv (r.items.take j)).length ≤ 1000000000000 := by rw [List.length_append, ← HKL.out]; simp only [vv, List.length_map, List.length_take]; omega
      have H1 := hidp r1
      have H2 := hidp r2
      have HNE := hidp hne
      have HBL := hidp hbl0
      have HB1 := hidp hb1
      have HB2 := hidp hb2
      clear hts htv hy hb n2 r1 r2 hne hbl0 hb1 hb2
      go_wp2_with (at_builtin; go_must (refine wpList_row rfl (.tmp 30) (.tmp 39) _ rfl 3 i0 _ 1 8 Try.underlying30 HI0.out HZ0.out HZ1.out HZ2.out rfl (by decide) u2 _ _ (some g1) rfl (H1.out.alloc _) ⟨wr.heap.size, 0, none⟩ 1 1 [Value.int .i64 y.1] rfl (by decide) rfl (fun q u hq => by rw [Addr.add_lit, Nat.zero_add]; exact (Bx.new wr [Value.int .i64 y.1] 3).cell q hq) (by simp [Value.oneCell']) (by unfold maxLen; omega) (by omega) ?_))
      intro u' w1 g1' hr1 hg1 hF1
      have hR2 := Rows2.first H2.out HNE.out HB1.out HB2.out hBr hr1 hg1 hF1
      have hbl1 := app_bl HBL.out hBr HB1.out hF1
      have HR2 := hidp hR2
      have HBL1 := hidp hbl1
      have hBr1 : B ≤ w1.heap.size := Nat.le_trans hB hbl1.size
      have RR := HR.out.below hbl1 HS.out
      have cv := (icell RR HN.out HBB.out HY.out).1
      have n2w : w1.cell? ⟨n, 2, none⟩ = some (.slice (some ⟨b, o, none⟩) r.items.length r.icap) := by rw [(ncell RR HN.out).2.2.2.1, HBB.out]; rfl
      obtain ⟨k1, k2, s1, s2, hne, hb1, hb2⟩ := hR2
      have S1 := hidp s1
      have S2 := hidp s2
      have HNE2 := hidp hne
      have HC1 := hidp hb1
      have HC2 := hidp hb2
      clear hr1 hg1 hF1 hbl1 RR s1 s2 hne hb1 hb2 cy n2' H1 H2 HNE HB1 HB2 HBL HR1 HL HR2
      go_wp2_with (at_builtin; go_must (refine wpList_row rfl (.tmp 41) (.tmp 50) _ rfl 3 j0 _ 1 8 Try.underlying30 HJ0.out HY0.out HY1.out HY2.out rfl (by decide) u3 _ _ (some k2) rfl (S2.out.alloc _) ⟨w1.heap.size, 0, none⟩ 1 1 [Value.int .i64 y.2] rfl (by decide) rfl (fun q u hq => by rw [Addr.add_lit, Nat.zero_add]; exact (Bx.new w1 [Value.int .i64 y.2] 3).cell q hq) (by simp [Value.oneCell']) (by unfold maxLen; omega) (by omega) ?_))
      intro v' w2 g2' hr2 hg2 hF2
      have HX := hidp (And.intro (Rows2.second S1.out HNE2.out HC1.out HC2.out hBr1 hr2 hg2 hF2) (app_bl HBL1.out hBr1 HC2.out hF2))
      clear hr2 hg2 hF2 cv n2w S1 S2 HNE2 HC1 HC2 HBL1
      go_wp2
      go_roundw
      case rel => exact ⟨j + 1, by omega, by go_num, hidp ⟨by rw [HT.out, HTV.out]; exact HX.out.1, HX.out.2⟩⟩
      case measure => simp [intOf]; omega
    · obtain rfl : j = r.items.length := by omega
      have HF := hidp HL.out
      clear HL HR1 hBr
      go_wp2
      go_ret2
      refine ⟨u2, u3, rfl, ?_, HF.out.2⟩
      have := HF.out.1
      rw [List.take_length] at this
      exact this

def KVIH (h : Nat) : Prop := ∀ {S : Nat → Prop} {w : World} {s : Sto It} (_ : RepS E S w s) {B : Nat} (_ : ∀ i, S i → i < B) (_ : B ≤ w.heap.size) {A : Addr} {n : Nat} {t : BT It h} {ids : List Nat} (_ : w.cell? A = some (pv (some n))) (_ : Tr s.nd s.mp.iso h n t ids) {mn mx lo : Nat} (_ : BT.ok mn mx lo h t) {u v : Value} {ks vs : List Value} (_ : Rows2 B w u v ks vs) (_ : ks.length = vs.length) (_ : ks.length + (BT.all h t).length ≤ 1000000000000),
    Calls Try.prog 108 #[.pointer (some ⟨s.m, 0, none⟩), .pointer (some A), u, v, .bool false] w (KVPost B w (ks ++ kv (BT.all h t)) (vs ++ vv (BT.all h t)))

set_option maxHeartbeats 2000000 in
set_option maxRecDepth 100000 in
theorem kv_inner {h : Nat} (IH : KVIH h) : KVIH (h + 1) := by
  intro S w s R B hS hB A n t ids hA T mn mx lo hok u v ks vs hown hkl hlen
  obtain ⟨r, k, ps, idss, hn, a2, a3, a4, a5, a6, a7, a8, a9, a10⟩ := T
  have hkl2 := hok.2.2.1
  have hri : r.items.length = t.1.length := by rw [a3]
  have hkk : k.kids.length = t.2.length := by rw [a5, List.length_map, a7]
  obtain ⟨kb, ko, hkb⟩ := R.kb_some hn a4 (by intro e; rw [e] at hkk; simp at hkk; omega)
  obtain ⟨i0, hi0, hz0, hz1, hz2⟩ := info_parts infoKey
  obtain ⟨j0, hj0, hy0, hy1, hy2⟩ := info_parts infoVal
  have HI0 := hidp hi0
  have HZ0 := hidp hz0
  have HZ1 := hidp hz1
  have HZ2 := hidp hz2
  have HJ0 := hidp hj0
  have HY0 := hidp hy0
  have HY1 := hidp hy1
  have HY2 := hidp hy2
  have HISO := hidp (isoLoad_own R hA hn a2 false)
  have HR := hidp R
  have HN := hidp hn
  have HS := hidp hS
  have HO := hidp hown
  have HK := hidp a4
  have HKB := hidp hkb
  have HKL := hidp hkl
  have HP : Hid (∀ j, j ≤ t.1.length → ∃ p c is, k.kids[j]? = some (some p) ∧ t.2[j]? = some c ∧ (t.2.map (BT.all h))[j]? = some (BT.all h c) ∧ Tr s.nd s.mp.iso h p c is ∧ BT.ok mn mx mn h c) := hidp fun j hj => by
    obtain ⟨p, hp⟩ : ∃ p, ps[j]? = some p := ⟨ps[j]'(by omega), List.getElem?_eq_getElem _⟩
    obtain ⟨c, hc⟩ : ∃ c, t.2[j]? = some c := ⟨t.2[j]'(by omega), List.getElem?_eq_getElem _⟩
    obtain ⟨is, his⟩ : ∃ is, idss[j]? = some is := ⟨idss[j]'(by omega), List.getElem?_eq_getElem _⟩
    exact ⟨p, c, is, by rw [a5, List.getElem?_map, hp]; rfl, hc, by rw [List.getElem?_map, hc]; rfl, a10 j p c is hp hc his, hok.2.2.2 c (List.mem_of_getElem? hc)⟩
  have HA := hidp a3
  have HLEN : Hid (ks.length + (weave t.1 (t.2.map (BT.all h))).length ≤ 1000000000000) := hidp hlen
  have HEND : Hid (∀ c, t.2[t.1.length]? = some c → weave t.1 (t.2.map (BT.all h)) = wpre t.1.length t.1 (t.2.map (BT.all h)) ++ BT.all h c) := hidp fun c hc => weave_end (by rw [List.length_map]; exact hkl2) (by rw [List.getElem?_map, hc]; rfl)
  have hkc : k.kids.length = t.1.length + 1 := by rw [hkk, hkl2]
  have htl : t.1.length ≤ 1000000000000 := by
    have h1 := (weave_sub t.1 (t.2.map (BT.all h))).length_le
    have h2 := HLEN.out
    omega
  clear R hn hS hown hi0 hz0 hz1 hz2 hj0 hy0 hy1 hy2 a2 a3 a4 a5 a6 a7 a8 a9 a10 hkb hok hlen hkk hkl2 hA hkl
  show Calls _ _ _ w (KVPost B w (ks ++ kv (weave t.1 (t.2.map (BT.all h)))) (vs ++ vv (weave t.1 (t.2.map (BT.all h)))))
  have HKC := hidp hkc
  have HRI := hidp hri
  clear hkc hri
  go_enter Try.func108, Try.ntmps108
  go_wp2_with fail
  refine HISO.out.mono ?_
  rintro e w' ⟨rfl, a1, rfl⟩
  have n3 : (w.drewN a1).cell? ⟨n, 3, none⟩ = some (pv (some k.hdr)) := by rw [(ncell (HR.out.drewN a1) HN.out).2.2.2.2, HK.out]; rfl
  have HB0 : Hid (Rows2 B (w.drewN a1) u v ks vs ∧ Below B w (w.drewN a1)) := hidp ⟨HO.out.drewN a1, ((Fr.refl (fun _ => False) w).drewN a1).below hB (fun _ h => h.elim)⟩
  clear HO HISO
  go_wp2_with fail
  refine (leaf_raw n3).mono ?_
  rintro e w' ⟨rfl, rfl⟩
  clear n3
  generalize w.drewN a1 = wb at HB0 ⊢
  go_wp2
  go_loopw [2, 3, 14] (fun uk uv i wr => ∃ j : Nat, j ≤ t.1.length ∧ i = .int .i64 j ∧ Hid (Rows2 B wr uk uv (ks ++ kv (wpre j t.1 (t.2.map (BT.all h)))) (vs ++ vv (wpre j t.1 (t.2.map (BT.all h)))) ∧ Below B w wr)) (fun _ _ i _ => t.1.length - (intOf i).toNat)
  case atStart => exact ⟨0, Nat.zero_le _, rfl, hidp ⟨by simpa [kv, vv, wpre] using HB0.out.1, HB0.out.2⟩⟩
  case round =>
    obtain ⟨j, hj, rfl, HL⟩ := hrel
    have HR1 := hidp (HR.out.below HL.out.2 HS.out)
    have hBr : B ≤ wr.heap.size := Nat.le_trans hB HL.out.2.size
    obtain ⟨p, c, is, hp, hc, hL, Tc, hcok⟩ := HP.out j hj
    have hwl := wpre_length_le hj hL
    have hll : (ks ++ kv (wpre j t.1 (t.2.map (BT.all h)))).length = ks.length + (wpre j t.1 (t.2.map (BT.all h))).length := by simp [kv]
    have hll2 : (vs ++ vv (wpre j t.1 (t.2.map (BT.all h)))).length = vs.length + (wpre j t.1 (t.2.map (BT.all h))).length := by simp [vv]
    have hxl := HLEN.out
    have c0 : wr.cell? ⟨kb, ko + j, none⟩ = some (.pointer (some ⟨p, 0, none⟩)) := M_cell (HR1.out.kid HN.out HK.out HKB.out hp)
    have hkv : (ks ++ kv (wpre j t.1 (t.2.map (BT.all h)))).length = (vs ++ vv (wpre j t.1 (t.2.map (BT.all h)))).length := by rw [hll, hll2, HKL.out]
    have HCH := hidp (IH HR1.out HS.out hBr (A := ⟨kb, ko + j, none⟩) c0 Tc hcok HL.out.1 hkv (by rw [hll]; omega))
    have n3 : wr.cell? ⟨n, 3, none⟩ = some (.pointer (some ⟨k.hdr, 0, none⟩)) := by rw [(ncell HR1.out HN.out).2.2.2.2, HK.out]; rfl
    have h0 : wr.cell? ⟨k.hdr, 0, none⟩ = some (.slice (some ⟨kb, ko, none⟩) (t.1.length + 1) k.cap) := by
      have := (HR1.out.hdr HN.out HK.out).cell 0 rfl
      rw [HKB.out, HKC.out] at this; exact this
    obtain ⟨ba, n2⟩ : ∃ ba, wr.cell? ⟨n, 2, none⟩ = some (.slice ba t.1.length r.icap) := ⟨r.ib.map fun p => ⟨p.1, p.2, none⟩, by rw [(ncell HR1.out HN.out).2.2.2.1, HRI.out]; rfl⟩
    by_cases hlt : j < t.1.length
    · obtain ⟨y, hy⟩ : ∃ y, t.1[j]? = some y := ⟨t.1[j], List.getElem?_eq_getElem hlt⟩
      have hst := wpre_step j t.1 (t.2.map (BT.all h)) y _ hy hL
      have HT : Hid (ks ++ kv (wpre (j + 1) t.1 (t.2.map (BT.all h))) = (ks ++ kv (wpre j t.1 (t.2.map (BT.all h))) ++ kv (BT.all h c)) ++ [Value.int .i64 y.1]) := hidp (by rw [hst, kv_append, kv_append]; simp [kv])
      have HTV : Hid (vs ++ vv (wpre (j + 1) t.1 (t.2.map (BT.all h))) = (vs ++ vv (wpre j t.1 (t.2.map (BT.all h))) ++ vv (BT.all h c)) ++ [Value.int .i64 y.2]) := hidp (by rw [hst, vv_append, vv_append]; simp [vv])
      have hl2 : ((ks ++ kv (wpre j t.1 (t.2.map (BT.all h)))) ++ kv (BT.all h c)).length ≤ 1000000000000 := by rw [List.length_append, hll]; simp only [kv, List.length_map]; omega
      have hl3 : ((vs ++ vv (wpre j t.1 (t.2.map (BT.all h)))) ++ vv (BT.all h c)).length ≤ 1000000000000 := by rw [List.length_append, hll2]; have := HKL.out; simp only [vv, List.length_map]; omega
      have HY : Hid (r.items[j]? = some y) := hidp (by rw [HA.out]; exact hy)
      have jlt : (j : Int) < (t.1.length : Int) := by omega
      have jlt2 : (j : Int) < ((t.1.length + 1 : Nat) : Int) := by omega
      clear hp hc hL Tc hcok hwl hll hll2 hxl hst hy HR1 hkv
      generalize hgk : ks ++ kv (wpre j t.1 (t.2.map (BT.all h))) ++ kv (BT.all h c) = zk at *
      generalize hgv : vs ++ vv (wpre j t.1 (t.2.map (BT.all h))) ++ vv (BT.all h c) = zv at *
      clear hgk hgv
      go_wp2_with fail
      refine HCH.out.mono ?_
      rintro e w2 ⟨u2', v2', rfl, hown2, hbl2⟩
      have hb2 := HL.out.2.trans hbl2
      have HBL := hidp hb2
      have hBr2 : B ≤ w2.heap.size := Nat.le_trans hB hb2.size
      have R2 := HR.out.below hb2 HS.out
      obtain ⟨b, o, hb⟩ := R2.ib_some HN.out (fun e => by have h1 := HRI.out; rw [e] at h1; simp at h1; omega)
      have cy := (icell R2 HN.out hb HY.out).2
      have n2' : w2.cell? ⟨n, 2, none⟩ = some (.slice (some ⟨b, o, none⟩) t.1.length r.icap) := by rw [(ncell R2 HN.out).2.2.2.1, hb, HRI.out]; rfl
      obtain ⟨g1, g2, r1, r2, hne, hb1, hb2'⟩ := hown2
      have H1 := hidp r1
      have H2 := hidp r2
      have HNE := hidp hne
      have HB1 := hidp hb1
      have HB2 := hidp hb2'
      have HBB := hidp hb
      clear hbl2 hb2 R2 hb n3 h0 c0 n2 HCH HL hBr r1 r2 hne hb1 hb2'
      go_wp2_with (at_builtin; go_must (refine wpList_row rfl (.tmp 79) (.tmp 88) _ rfl 3 i0 _ 1 8 Try.underlying30 HI0.out HZ0.out HZ1.out HZ2.out rfl (by decide) u2' _ _ (some g1) rfl (H1.out.alloc _) ⟨w2.heap.size, 0, none⟩ 1 1 [Value.int .i64 y.1] rfl (by decide) rfl (fun q u hq => by rw [Addr.add_lit, Nat.zero_add]; exact (Bx.new w2 [Value.int .i64 y.1] 3).cell q hq) (by simp [Value.oneCell']) (by unfold maxLen; omega) (by omega) ?_))
      intro u' w1 g1' hr1 hg1 hF1
      have hR2 := Rows2.first H2.out HNE.out HB1.out HB2.out hBr2 hr1 hg1 hF1
      have hbl1 := app_bl HBL.out hBr2 HB1.out hF1
      have HBL1 := hidp hbl1
      have hBr1 : B ≤ w1.heap.size := Nat.le_trans hB hbl1.size
      have RR := HR.out.below hbl1 HS.out
      have cv := (icell RR HN.out HBB.out HY.out).1
      have n2w : w1.cell? ⟨n, 2, none⟩ = some (.slice (some ⟨b, o, none⟩) t.1.length r.icap) := by rw [(ncell RR HN.out).2.2.2.1, HBB.out, HRI.out]; rfl
      obtain ⟨k1, k2, s1, s2, hne, hb1, hb2⟩ := hR2
      have S1 := hidp s1
      have S2 := hidp s2
      have HNE2 := hidp hne
      have HC1 := hidp hb1
      have HC2 := hidp hb2
      clear hr1 hg1 hF1 hbl1 RR s1 s2 hne hb1 hb2 cy n2' H1 H2 HNE HB1 HB2 HBL
      go_wp2_with (at_builtin; go_must (refine wpList_row rfl (.tmp 90) (.tmp 99) _ rfl 3 j0 _ 1 8 Try.underlying30 HJ0.out HY0.out HY1.out HY2.out rfl (by decide) v2' _ _ (some k2) rfl (S2.out.alloc _) ⟨w1.heap.size, 0, none⟩ 1 1 [Value.int .i64 y.2] rfl (by decide) rfl (fun q u hq => by rw [Addr.add_lit, Nat.zero_add]; exact (Bx.new w1 [Value.int .i64 y.2] 3).cell q hq) (by simp [Value.oneCell']) (by unfold maxLen; omega) (by omega) ?_))
      intro v' w4 g2' hr2 hg2 hF2
      have HX := hidp (And.intro (Rows2.second S1.out HNE2.out HC1.out HC2.out hBr1 hr2 hg2 hF2) (app_bl HBL1.out hBr1 HC2.out hF2))
      clear hr2 hg2 hF2 cv n2w S1 S2 HNE2 HC1 HC2 HBL1
      go_wp2
      go_roundw
      case rel => exact ⟨j + 1, by omega, by go_num, hidp ⟨by rw [HT.out, HTV.out]; exact HX.out.1, HX.out.2⟩⟩
      case measure => simp [intOf]; omega
    · obtain rfl : j = t.1.length := by omega
      have HE := hidp (HEND.out c hc)
      have HKP := hidp hp
      have HCD := hidp (IH HR1.out.drew HS.out hBr (A := ⟨kb, ko + t.1.length, none⟩) c0 Tc hcok HL.out.1.drew hkv (by rw [hll]; omega))
      clear hp hc hL Tc hcok hwl hll hll2 hxl HR1 hBr hkv
      obtain ⟨N, hN⟩ : ∃ N, N = t.1.length + 1 := ⟨_, rfl⟩
      rw [← hN] at h0
      have hN1 : (t.1.length : Int) < (N : Int) := by omega
      have hw1 : IntKind.i64.wrap ((N : Int) - 1) = (t.1.length : Int) := by rw [Last.i64_w, IntWalk.wrap64_in _ ⟨by omega, by omega⟩]; omega
      have HFA : Hid (∀ w2, Below B w w2 → w2.cell? ⟨n, 3, none⟩ = some (.pointer (some ⟨k.hdr, 0, none⟩)) ∧ w2.cell? ⟨k.hdr, 0, none⟩ = some (.slice (some ⟨kb, ko, none⟩) N k.cap)) := hidp fun w2 hb => by
        have R2 := HR.out.below hb HS.out
        refine ⟨by rw [(ncell R2 HN.out).2.2.2.2, HK.out]; rfl, ?_⟩
        have := (R2.hdr HN.out HK.out).cell 0 rfl
        rw [HKB.out, HKC.out, ← hN] at this; exact this
      clear hN HCH
      go_wp2_with fail
      go_region_held3 (fun w' => w'.cell? ⟨n, 3, none⟩ = some (.pointer (some ⟨k.hdr, 0, none⟩)) ∧ w'.cell? ⟨k.hdr, 0, none⟩ = some (.slice (some ⟨kb, ko, none⟩) N k.cap)) (go_keep)
        ((go_at_call 108
          refine (HCD.out).mono ?_
          rintro e w2 ⟨u2', v2', rfl, hown2, hbl2⟩
          have HC2 := hidp (And.intro hown2 (HL.out.2.drew.trans hbl2))
          obtain ⟨k1, k2⟩ := HFA.out w2 (HL.out.2.drew.trans hbl2)
          clear hown2 hbl2))
      go_wp2
      go_ret2
      refine ⟨u2', v2', rfl, ?_, HC2.out.2⟩
      have := HC2.out.1
      rw [HE.out, kv_append, vv_append, ← List.append_assoc, ← List.append_assoc]; exact this

/-- 'nodeKeyValues' -/
theorem kv_tr : ∀ h, KVIH h
  | 0 => fun R _ hS hB _ _ _ _ hA T _ _ _ _ _ _ _ _ hown hkl hlen => by
    obtain ⟨_, r, h1, h2, h3, h4, _⟩ := T
    subst h3
    exact kv_leaf R hS hB hA h1 h2 h4 hown hkl hlen
  | h + 1 => kv_inner (kv_tr h)

theorem Rows2.made {B g1 g2 : Nat} {c1 c2 : Nat} {w1 : World} {u v : Value} {n : Nat} {i : TypeInfo} : True := trivial
end Go.Proofs.Ytehnobbiiokcgaa.Bt.II
