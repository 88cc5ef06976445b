/- Maps of numbers (sets): setting an item. -/
import Derived.Test.YtbjhnefienjncaaBtIUj
import Derived.Test.YtbjhnefienjncaaBtIUi
import Derived.Deep.RegionHeld3
namespace Go.Proofs.Ytbjhnefienjncaa.Bt.IU
set_option linter.unusedVariables false
set_option linter.unusedSimpArgs false
open Go Go.RowKit Go.Proofs.Ytbjhnefienjncaa.Bt

variable {S : Nat → Prop} {w : World} {s : Sto It}

/-- What 'Set' leaves. -/
def SetPost (D : Nat) (S : Nat → Prop) (w : World) (s : Sto It) (l : List It) (x : It) (e : Ending) (w' : World) : Prop :=
  ∃ S' s', e = .returned (.tuple #[SetVal l x, .bool (fnd lt l x)]) ∧ Ext S w S' w' ∧ MapIs D S' w' s' (put lt l x) ∧ s'.m = s.m ∧ s'.mp.iso = s.mp.iso ∧ s'.mp.ctr = s.mp.ctr
/-- .. and of the map behind it. -/
def SetPostP (Pt : Sto It → Prop) (D : Nat) (S : Nat → Prop) (w : World) (s : Sto It) (l : List It) (x : It) (e : Ending) (w' : World) : Prop :=
  ∃ S' s', e = .returned (.tuple #[SetVal l x, .bool (fnd lt l x)]) ∧ Ext S w S' w' ∧ MapIs D S' w' s' (put lt l x) ∧ s'.m = s.m ∧ s'.mp.iso = s.mp.iso ∧ s'.mp.ctr = s.mp.ctr ∧ Pt s'
theorem SetPostP.post {Pt : Sto It → Prop} {D : Nat} {l : List It} {x : It} {e : Ending} {w' : World} (h : SetPostP Pt D S w s l x e w') : SetPost D S w s l x e w' := by
  obtain ⟨S', s', h1, h2, h3, h4, h5, h6, _⟩ := h
  exact ⟨S', s', h1, h2, h3, h4, h5, h6⟩
theorem SetPostP.mono {Pt Pt' : Sto It → Prop} (hp : ∀ s', Pt s' → Pt' s') {D : Nat} {l : List It} {x : It} {e : Ending} {w' : World} (h : SetPostP Pt D S w s l x e w') : SetPostP Pt' D S w s l x e w' := by
  obtain ⟨S', s', h1, h2, h3, h4, h5, h6, h7⟩ := h
  exact ⟨S', s', h1, h2, h3, h4, h5, h6, hp _ h7⟩
/-- The tree of the map s' is t with x set, without a split of its root. -/
def Step (D : Nat) {h : Nat} (t : BT It h) (x : It) (iso : Int) (s' : Sto It) : Prop :=
  ∃ n t' ids, s'.mp.root = some n ∧ Tr s'.nd iso h n t' ids ∧ ids.Nodup ∧ ((∃ y, insN lt (2 * D - 1) h t x = .rep t' y) ∨ insN lt (2 * D - 1) h t x = .new t')
theorem NewT.tree {w : World} {s s' : Sto It} {h n : Nat} {t' : BT It h} {ids : List Nat} (h0 : NewT w s s' h n t' ids) : ∃ ids', Tr s'.nd s.mp.iso h n t' ids' ∧ ids'.Nodup := by
  obtain ⟨ids', h1, h2, _⟩ := h0
  exact ⟨ids', h1, h2⟩
theorem set_fin {D : Nat} {S3 : Nat → Prop} {s3 : Sto It} {h n : Nat} {t t' : BT It h} {W : World} {x : It} {e : Ending} {c : Int} (hmm : s.mp.mn = ((D - 1 : Nat) : Int) ∧ s.mp.mx = ((2 * D - 1 : Nat) : Int)) (hr : s.mp.root = some n) (hs : Srt lt (BT.all h t))
    (hE : Ext S w S3 W) (hR : RepS E S3 W s3) (hm : s3.m = s.m) (hmp : s3.mp = { s.mp with count := c }) (hT : ∃ ids', Tr s3.nd s.mp.iso h n t' ids' ∧ ids'.Nodup) (ha : BT.all h t' = put lt (BT.all h t) x) (hok : BT.ok (D - 1) (2 * D - 1) 1 h t')
    (hI : (∃ y, insN lt (2 * D - 1) h t x = .rep t' y) ∨ insN lt (2 * D - 1) h t x = .new t') (hc : c = ((put lt (BT.all h t) x).length : Nat)) (he : e = .returned (.tuple #[SetVal (BT.all h t) x, .bool (fnd lt (BT.all h t) x)])) : SetPostP (Step D t x s.mp.iso) D S w s (BT.all h t) x e W := by
  obtain ⟨ids', T, hd⟩ := hT
  refine ⟨S3, s3, he, hE, ⟨hR, put_srt ord hs, ?_, .inr ?_, .inr ⟨h, n, t', ids', ?_, ?_, hd, hok, ha.symm⟩⟩, hm, ?_, ?_, n, t', ids', ?_, T, hd, hI⟩
  · rw [hmp]; exact hc
  · rw [hmp]; exact hmm
  · rw [hmp]; exact hr
  · rw [hmp]; exact T
  · rw [hmp]
  · rw [hmp]
  · rw [hmp]; exact hr
set_option maxHeartbeats 1000000 in
set_option maxRecDepth 100000 in
/-- 'Set' where the map has a node and needs no split. -/
theorem set_nodeT {D : Nat} (hD : 2 ≤ D) (hD2 : D ≤ 400) (R : RepS E S w s) {h n : Nat} {t : BT It h} {ids : List Nat} (hr : s.mp.root = some n) (T : Tr s.nd s.mp.iso h n t ids) (hd : ids.Nodup) (hok : BT.ok (D - 1) (2 * D - 1) 1 h t) (hs : Srt lt (BT.all h t)) (hmn : s.mp.mn = ((D - 1 : Nat) : Int)) (hmx : s.mp.mx = ((2 * D - 1 : Nat) : Int))
    (hb : (BT.all h t).length ≤ 100000000000) (hc : s.mp.count = ((BT.all h t).length : Nat)) (x : It) (hne : insN lt (2 * D - 1) h t x ≠ .split) :
    Calls Try.prog 97 #[.pointer (some ⟨s.m, 0, none⟩), Value.int .i64 x.1, Value.agg #[]] w (SetPostP (Step D t x s.mp.iso) D S w s (BT.all h t) x) := by
  obtain ⟨hmlt, _, _, m2, m3, m4, _⟩ := mcell R
  have m2' : w.cell? ⟨s.m, 2, none⟩ = some (.pointer (some ⟨n, 0, none⟩)) := by rw [m2, hr]; rfl
  have hIR := insN_ok ord (mn := D - 1) (mx := 2 * D - 1) (by omega) (by omega) (by omega) h 1 t x hok hs
  have HCA : Hid (∀ w1, RepS E S w1 s → Calls Try.prog 133 #[.pointer (some ⟨s.m, 0, none⟩), .pointer (some ⟨s.m, 2, none⟩), .agg #[Value.int .i64 x.1]] w1 (NPost S w1 s h n ids (insN lt (2 * D - 1) h t x))) :=
    hidp fun w1 R1 => nodeSet_tr (by omega) (by omega) (by omega) (by omega) (by omega) h R1 ((mcell R1).2.2.2.1.trans (by rw [hr])) T hd hok hs hmx hb x
  have HR := hidp R
  have HT := hidp (And.intro T (And.intro hd (And.intro hs hb)))
  have HIR := hidp hIR
  have HNE := hidp hne
  have HC := hidp hc
  have HRT := hidp hr
  have HMN := hidp hmn
  have HMX := hidp hmx
  clear hmn hmx R T hd hs hb hIR hne m2 hok hr hc
  have hm1 : s.m < w.heap.size + 1 := by omega
  have hm2 : s.m < w.heap.size + 1 + 1 := by omega
  have hzb : ∀ a : Array Value, Array.foldl (fun (cs : Array Value) (x : Value × Nat) => cs.setIfInBounds x.snd x.fst) a (#[] : Array Value).zipIdx 0 0 = a := fun _ => rfl
  go_enter Try.func97, Try.ntmps97
  go_wp2_with fail
  have R1 := (((HR.out.alloc (.cells #[] 82)).alloc (.cells #[] 82)).alloc (.cells #[Value.int .i64 x.1] 120))
  have E1 := ((((Ext.refl S w).alloc (.cells #[] 82)).alloc (.cells #[] 82)).alloc (.cells #[Value.int .i64 x.1] 120))
  have B1 := Bx.new ((w.alloc (.cells #[] 82)).alloc (.cells #[] 82)) [Value.int .i64 x.1] 120
  have hsz : ((w.alloc (.cells #[] 82)).alloc (.cells #[] 82)).heap.size = w.heap.size + 1 + 1 := by simp
  rw [hsz] at B1
  clear hsz
  have hnb : ¬ S (w.heap.size + 1 + 1) := fun h => by have := HR.out.rep.lt _ h; omega
  generalize (((w.alloc (.cells #[] 82)).alloc (.cells #[] 82)).alloc (.cells #[Value.int .i64 x.1] 120)) = w1 at R1 E1 B1 ⊢
  have c2 : w1.cell? ⟨s.m, 2, none⟩ = some (.pointer (some ⟨n, 0, none⟩)) := by rw [(mcell R1).2.2.2.1, HRT.out]; rfl
  have d1 := B1.cell 0 rfl
  have HR1 := hidp R1
  have HE1 := hidp E1
  have HB1 := hidp B1
  clear R1 E1 B1 hm1 hm2 m2' m3 m4 hmlt
  generalize hres : insN lt (2 * D - 1) h t x = res at HCA HIR HNE
  have HRS := hidp hres
  clear hres
  cases res with
  | split => exact absurd rfl HNE.out
  | rep t' y =>
    go_region_held3 (fun w' => w'.cell? ⟨(w.heap.size + 1 + 1), 0, none⟩ = some (Value.int .i64 x.1)) (go_keep)
      ((go_at_call 133
        first | refine (HCA.out w1.drew HR1.out.drew).mono ?_ | refine (HCA.out (w1.alloc (.cells #[] 82)).drew (HR1.out.alloc _).drew).mono ?_
        rintro e w' ⟨S3, s3, hE0, R3, hm3, hmp3, rfl, hnew0⟩
        have hnew := hnew0.tree
        have hE3 : Ext S w1 S3 w' := by first | exact (Ext.refl S w1).drew.trans hE0 | exact ((Ext.refl S w1).alloc (.cells #[] 82)).drew.trans hE0
        clear hE0 hnew0
        have k1 := (HB1.out.keep hE3.fr hnb).cell 0 rfl
        have HE3 := hidp hE3
        have HR3 := hidp R3
        have HX3 := hidp (And.intro hm3 (And.intro hmp3 hnew))
        clear hE3 R3 hm3 hmp3 hnew))
    all_goals go_wp2
    all_goals refine bodyPost_ret (v := .tuple #[Value.agg #[], .bool true]) (by simp [results, Try.results97, go_sem]) rfl ?_
    all_goals
      obtain ⟨hm3, hmp3, hnew⟩ := HX3.out
      have e1 : SetVal (BT.all h t) x = Value.agg #[] := by unfold SetVal; rw [HIR.out.1]
      have e2 : fnd lt (BT.all h t) x = true := fnd_some HIR.out.1
      have e3 : s3.mp = { s.mp with count := s.mp.count } := hmp3
      have e4 : s.mp.count = ((put lt (BT.all h t) x).length : Nat) := by rw [HC.out, put_length, e2]; rfl
      rw [← e1]
      refine set_fin (S3 := S3) (s3 := s3) ⟨HMN.out, HMX.out⟩ HRT.out HT.out.2.2.1 ?_ ?_ hm3 e3 hnew HIR.out.2.1 HIR.out.2.2 (.inl ⟨y, HRS.out⟩) e4 (by rw [e2])
      · first | exact HE1.out.trans HE3.out | exact (HE1.out.trans HE3.out).alloc _
      · first | exact HR3.out | exact HR3.out.alloc _
  | new t' =>
    go_region_held3 (fun w' => w'.cell? ⟨(w.heap.size + 1 + 1), 0, none⟩ = some (Value.int .i64 x.1)) (go_keep)
      ((go_at_call 133
        first | refine (HCA.out w1.drew HR1.out.drew).mono ?_ | refine (HCA.out (w1.alloc (.cells #[] 82)).drew (HR1.out.alloc _).drew).mono ?_
        rintro e w' ⟨S3, s3, hE0, R3, hm3, hmp3, rfl, hnew0⟩
        have hnew := hnew0.tree
        have hE3 : Ext S w1 S3 w' := by first | exact (Ext.refl S w1).drew.trans hE0 | exact ((Ext.refl S w1).alloc (.cells #[] 82)).drew.trans hE0
        clear hE0 hnew0
        have k1 := (HB1.out.keep hE3.fr hnb).cell 0 rfl
        have HE3 := hidp hE3
        have HR3 := hidp R3
        have HX3 := hidp (And.intro hm3 (And.intro hmp3 hnew))
        have c3 : w'.cell? ⟨s.m, 3, none⟩ = some (.int .i64 s3.mp.count) := by have := (mcell R3).2.2.2.2.1; rwa [hm3] at this
        have f3 : w'.frozen? ⟨s.m, 3, none⟩ = false := by have := R3.map.froz 3 (v := .int .i64 s3.mp.count) rfl; rwa [hm3] at this
        have l3 : s.m < w'.heap.size := by have := (mcell R3).1; rwa [hm3] at this
        clear hE3 R3 hm3 hmp3 hnew))
    all_goals
      obtain ⟨hm3, hmp3, hnew⟩ := HX3.out
      have hcb : 0 ≤ s3.mp.count ∧ s3.mp.count ≤ 100000000000 := by rw [hmp3, HC.out]; have := HT.out.2.2.2; omega
      have hw2 : IntKind.i64.wrap (s3.mp.count + 1) = s3.mp.count + 1 := by rw [Last.i64_w]; exact IntWalk.wrap64_in _ ⟨by omega, by omega⟩
      obtain ⟨E4, R4⟩ := HR3.out.put_mp { s3.mp with count := s3.mp.count + 1 } (off := 3) (.int .i64 (s3.mp.count + 1)) (by show 3 < 9; decide) rfl
      have R5 := R4.alloc (.cells #[] 82)
      have hpe4 := part_empty R4
      have hpe5 := part_empty R5
      rw [hm3] at E4 R4 R5
      rw [Sto.m_setMp, hm3] at hpe4 hpe5
      have HF4 := hidp (And.intro E4 R4)
      have HH := hidp (And.intro hm3 (And.intro hmp3 hnew))
      have HCB := hidp hcb
      clear E4 R4 R5 hm3 hmp3 hnew HX3
      go_wp2
      refine bodyPost_ret (v := .tuple #[Value.agg #[], .bool false]) (by simp [results, Try.results97, go_sem]) rfl ?_
      obtain ⟨hm3, hmp3, hnew⟩ := HH.out
      have e1 : SetVal (BT.all h t) x = Value.agg #[] := by unfold SetVal; rw [HIR.out.1]
      have e2 : fnd lt (BT.all h t) x = false := fnd_none HIR.out.1
      have e3 : { s3.mp with count := s3.mp.count + 1 } = { s.mp with count := s3.mp.count + 1 } := by rw [hmp3]
      have e4 : s3.mp.count + 1 = ((put lt (BT.all h t) x).length : Nat) := by rw [hmp3, HC.out, put_length, e2]; simp
      rw [← e1]
      refine set_fin (S3 := S3) (s3 := s3.setMp { s3.mp with count := s3.mp.count + 1 }) (c := s3.mp.count + 1) ⟨HMN.out, HMX.out⟩ HRT.out HT.out.2.2.1 ?_ ?_ hm3 e3 hnew HIR.out.2.1 HIR.out.2.2 (.inr HRS.out) e4 (by rw [e2])
      · first | exact (HE1.out.trans HE3.out).trans HF4.out.1 | exact ((HE1.out.trans HE3.out).trans HF4.out.1).alloc _
      · first | exact HF4.out.2 | exact HF4.out.2.alloc _
/-- 'Set' where the map has a node and needs no split, of the items alone. -/
theorem set_node {D : Nat} (hD : 2 ≤ D) (hD2 : D ≤ 400) (R : RepS E S w s) {h n : Nat} {t : BT It h} {ids : List Nat} (hr : s.mp.root = some n) (T : Tr s.nd s.mp.iso h n t ids) (hd : ids.Nodup) (hok : BT.ok (D - 1) (2 * D - 1) 1 h t) (hs : Srt lt (BT.all h t)) (hmn : s.mp.mn = ((D - 1 : Nat) : Int)) (hmx : s.mp.mx = ((2 * D - 1 : Nat) : Int))
    (hb : (BT.all h t).length ≤ 100000000000) (hc : s.mp.count = ((BT.all h t).length : Nat)) (x : It) (hne : insN lt (2 * D - 1) h t x ≠ .split) :
    Calls Try.prog 97 #[.pointer (some ⟨s.m, 0, none⟩), Value.int .i64 x.1, Value.agg #[]] w (SetPost D S w s (BT.all h t) x) :=
  (set_nodeT hD hD2 R hr T hd hok hs hmn hmx hb hc x hne).mono fun _ _ h => h.post
end Go.Proofs.Ytbjhnefienjncaa.Bt.IU
