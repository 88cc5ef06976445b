/- Maps of numbers (sets): setting an item where the root must be split. -/
import Derived.Test.YtbjhnefienjncaaBtIUl
namespace Go.Proofs.Ytbjhnefienjncaa.Bt.IU
set_option linter.unusedVariables false
set_option linter.unusedSimpArgs false
open Go Go.RowKit Go.Proofs.Ytbjhnefienjncaa.Bt
open Go.Proofs.Ytbjhnefienjncaa.Bt.Last (Y Z)
open _root_.List (setIfInBounds_toArray set_cons_zero set_cons_succ)

variable {S : Nat → Prop} {w : World} {s : Sto It}

theorem SetVal_form (l : List It) (x : It) : ∃ v : Unit, SetVal l x = .agg #[] := by
  unfold SetVal
  split
  · exact ⟨(), rfl⟩
  · exact ⟨(), rfl⟩
theorem SetPost.form {D : Nat} {l : List It} {x : It} {e : Ending} {w' : World} (h : SetPost D S w s l x e w') : ∃ (v : Unit) (b : Bool), e = .returned (.tuple #[.agg #[], .bool b]) := by
  obtain ⟨_, _, he, _⟩ := h
  obtain ⟨v, hv⟩ := SetVal_form l x
  exact ⟨v, _, by rw [he, hv]⟩
theorem SetPost.from {D : Nat} {l : List It} {x : It} {e : Ending} {w1 w' : World} {S1 : Nat → Prop} {s1 : Sto It} (h : SetPost D S1 w1 s1 l x e w') (hE : Ext S w S1 w1) (h1 : s1.m = s.m) (h2 : s1.mp.iso = s.mp.iso) (h3 : s1.mp.ctr = s.mp.ctr) : SetPost D S w s l x e w' := by
  obtain ⟨S', s', he, hE', hM, e1, e2, e3⟩ := h
  exact ⟨S', s', he, hE.trans hE', hM, e1.trans h1, e2.trans h2, e3.trans h3⟩
theorem SetPostP.form {Pt : Sto It → Prop} {D : Nat} {l : List It} {x : It} {e : Ending} {w' : World} (h : SetPostP Pt D S w s l x e w') : ∃ (v : Unit) (b : Bool), e = .returned (.tuple #[.agg #[], .bool b]) := h.post.form
theorem SetPostP.from {Pt : Sto It → Prop} {D : Nat} {l : List It} {x : It} {e : Ending} {w1 w' : World} {S1 : Nat → Prop} {s1 : Sto It} (h : SetPostP Pt D S1 w1 s1 l x e w') (hE : Ext S w S1 w1) (h1 : s1.m = s.m) (h2 : s1.mp.iso = s.mp.iso) (h3 : s1.mp.ctr = s.mp.ctr) : SetPostP Pt D S w s l x e w' := by
  obtain ⟨S', s', he, hE', hM, e1, e2, e3, e4⟩ := h
  exact ⟨S', s', he, hE.trans hE', hM, e1.trans h1, e2.trans h2, e3.trans h3, e4⟩
/-- The tree of the map s' is t with its root split and x set. -/
def StepS (D : Nat) {h : Nat} (t : BT It h) (x : It) (iso : Int) (s' : Sto It) : Prop :=
  ∃ l m r, splitN ((2 * D - 1) / 2) h t = some (l, m, r) ∧ Step D (h := h + 1) ([m], [l, r]) x iso s'
theorem insN_split {D h : Nat} {t : BT It h} {x : It} (hD : 2 ≤ D) (hok : BT.ok (D - 1) (2 * D - 1) 1 h t) (hs : Srt lt (BT.all h t)) (he : insN lt (2 * D - 1) h t x = .split) : (BT.its t).length = 2 * D - 1 := by
  have := insN_ok ord (mn := D - 1) (mx := 2 * D - 1) (by omega) (by omega) (by omega) h 1 t x hok hs
  rw [he] at this
  exact this.2.1
/-- The root of two halves is no longer full. -/
theorem halves {D h : Nat} {t l r : BT It h} {m x : It} (hD : 2 ≤ D) (hok : BT.ok (D - 1) (2 * D - 1) 1 h t) (hs : Srt lt (BT.all h t)) (hf : (BT.its t).length = 2 * D - 1) (hsp : splitN ((2 * D - 1) / 2) h t = some (l, m, r)) :
    BT.ok (D - 1) (2 * D - 1) 1 (h + 1) (([m], [l, r]) : BT It (h + 1)) ∧ BT.all (h + 1) (([m], [l, r]) : BT It (h + 1)) = BT.all h t ∧ insN lt (2 * D - 1) (h + 1) (([m], [l, r]) : BT It (h + 1)) x ≠ .split := by
  obtain ⟨l', m', r', e, hl, hr, hll, hrl⟩ := splitN_some (mn := D - 1) hok hf (by omega) (by omega)
  rw [hsp] at e
  simp only [Option.some.injEq, Prod.mk.injEq] at e
  obtain ⟨rfl, rfl, rfl⟩ := e
  have hall := splitN_all hsp hok
  have ha : BT.all (h + 1) (([m], [l, r]) : BT It (h + 1)) = BT.all h t := by
    rw [hall]
    show weave [m] [BT.all h l, BT.all h r] = _
    simp [weave]
  have hok2 : BT.ok (D - 1) (2 * D - 1) 1 (h + 1) (([m], [l, r]) : BT It (h + 1)) := ⟨by show 1 ≤ [m].length; simp, by show [m].length ≤ _; simp; omega, rfl, fun c hc => by
    have hc' : c ∈ [l, r] := hc
    simp only [List.mem_cons, List.not_mem_nil, or_false] at hc'
    rcases hc' with rfl | rfl
    · exact hl
    · exact hr⟩
  refine ⟨hok2, ha, insN_nosplit (fun _ c hc e => ?_) rfl⟩
  have hs2 : Srt lt (BT.all (h + 1) (([m], [l, r]) : BT It (h + 1))) := by rw [ha]; exact hs
  have hcm := List.mem_of_getElem? hc
  have hds : Srt lt (BT.all h c) := by
    refine List.Pairwise.sublist (weave_kid (ls := [l, r].map (BT.all h)) (i := pos lt [m] x) (pos_le _ _) ?_) hs2
    rw [List.getElem?_map]
    have hc' : [l, r][pos lt [m] x]? = some c := hc
    rw [hc']; rfl
  have hi := insN_ok ord (mn := D - 1) (mx := 2 * D - 1) (by omega) (by omega) (by omega) h (D - 1) c x (hok2.2.2.2 c hcm) hds
  rw [e] at hi
  have := hi.2.1
  have hc' : c ∈ [l, r] := hcm
  simp only [List.mem_cons, List.not_mem_nil, or_false] at hc'
  rcases hc' with rfl | rfl <;> omega

theorem infoKs : (Try.prog.info? 185).map (fun i => (i.zero, i.size, i.bytes)) = some (some (.slice none 0 0), 1, 24) := by kernel_rfl

set_option maxHeartbeats 2000000 in
set_option maxRecDepth 100000 in
/-- 'Set' where the root is split. -/
theorem set_splitT {D : Nat} (hD : 2 ≤ D) (hD2 : D ≤ 400) (R : RepS E S w s) {h n : Nat} {t : BT It h} {ids : List Nat} (hr : s.mp.root = some n) (T : Tr s.nd s.mp.iso h n t ids) (hd : ids.Nodup) (hok : BT.ok (D - 1) (2 * D - 1) 1 h t) (hs : Srt lt (BT.all h t)) (hmn : s.mp.mn = ((D - 1 : Nat) : Int)) (hmx : s.mp.mx = ((2 * D - 1 : Nat) : Int))
    (hb : (BT.all h t).length ≤ 100000000000) (hc : s.mp.count = ((BT.all h t).length : Nat)) (x : It) (he : insN lt (2 * D - 1) h t x = .split) :
    Calls Try.prog 97 #[.pointer (some ⟨s.m, 0, none⟩), Value.int .i64 x.1, Value.agg #[]] w (SetPostP (StepS D t x s.mp.iso) D S w s (BT.all h t) x) := by
  obtain ⟨hmlt, _, _, m2, m3, m4, _⟩ := mcell R
  have m2' : w.cell? ⟨s.m, 2, none⟩ = some (.pointer (some ⟨n, 0, none⟩)) := by rw [m2, hr]; rfl
  have hf := insN_split hD hok hs he
  obtain ⟨tl, md, tr, hsp, _, _, _, _⟩ := splitN_some (mn := D - 1) hok hf (by omega) (by omega)
  obtain ⟨hok2, hall2, hne2⟩ := halves (x := x) hD hok hs hf hsp
  have HCA : Hid (∀ w1, RepS E S w1 s → Calls Try.prog 133 #[.pointer (some ⟨s.m, 0, none⟩), .pointer (some ⟨s.m, 2, none⟩), .agg #[Value.int .i64 x.1]] w1 (fun e w' => ∃ S', e = .returned (.tuple #[Value.agg #[], .bool false, .bool true]) ∧ Ext S w1 S' w' ∧ RepS E S' w' s)) :=
    hidp fun w1 R1 => by
      refine (nodeSet_tr (mn := D - 1) (L := 2 * D - 1) (by omega) (by omega) (by omega) (by omega) (by omega) h R1 ((mcell R1).2.2.2.1.trans (by rw [hr])) T hd hok hs hmx hb x).mono ?_
      rw [he]
      rintro e w' ⟨S', s', hE, hR, _, _, he', rfl⟩
      exact ⟨S', he', hE, hR⟩
  have HSP : Hid (∀ S1 w1, RepS E S1 w1 s → Calls Try.prog 134 #[.pointer (some ⟨s.m, 0, none⟩), .pointer (some ⟨n, 0, none⟩)] w1 (fun e w' => ∃ q S' s' il ir, e = .returned (.tuple #[.pointer (some ⟨q, 0, none⟩), .agg #[Value.int .i64 md.1]]) ∧ Ext S1 w1 S' w' ∧ RepS E S' w' s' ∧ s'.m = s.m ∧ s'.mp = s.mp ∧
      Tr s'.nd s.mp.iso h n tl il ∧ Tr s'.nd s.mp.iso h q tr ir ∧ (il ++ ir).Nodup)) :=
    hidp fun S1 w1 R1 => by
      refine (split_tr R1 T hd hok hf hmx (by omega) (by omega) hb hsp).mono ?_
      rintro e w' ⟨q, S', s', il, ir, he', hE, hR, hm, hmp, T1, T2, hdd, _, _⟩
      exact ⟨q, S', s', il, ir, he', hE, hR, hm, hmp, T1, T2, hdd⟩
  obtain ⟨i0, hi0, hz0, hz1, hz2⟩ := info_parts infoP
  have HI0 := hidp hi0
  have HZ0 := hidp hz0
  have HZ1 := hidp hz1
  have HZ2 := hidp hz2
  obtain ⟨j0, hj0, hy0, hy1, hy2⟩ := info_parts infoK
  have HJ0 := hidp hj0
  have HY0 := hidp hy0
  have HY1 := hidp hy1
  have HY2 := hidp hy2
  have HR := hidp R
  have HT := hidp (And.intro hs hb)
  have HOK2 := hidp hok2
  have HALL2 := hidp hall2
  have HNE2 := hidp hne2
  have HSPL := hidp hsp
  have HC := hidp hc
  have HRT := hidp hr
  have HMN := hidp hmn
  have HMX := hidp hmx
  have hwm : IntKind.i64.wrap (((2 * D - 1 : Nat) : Int) + 1) = ((2 * D : Nat) : Int) := by rw [Last.i64_w, IntWalk.wrap64_in _ ⟨by omega, by omega⟩]; omega
  clear hmn hmx R T hd hs hb m2 hok hr hc he hf hsp hok2 hall2 hne2 hi0 hz0 hz1 hz2 hj0 hy0 hy1 hy2
  have hm1 : s.m < w.heap.size + 1 := by omega
  have hm2 : s.m < w.heap.size + 1 + 1 := by omega
  have hzb : ∀ a : Array Value, Array.foldl (fun (cs : Array Value) (x : Value × Nat) => cs.setIfInBounds x.snd x.fst) a (#[] : Array Value).zipIdx 0 0 = a := fun _ => rfl
  go_enter Try.func97, Try.ntmps97
  go_wp2_with fail
  have R1 := (((HR.out.alloc (.cells #[] 82)).alloc (.cells #[] 82)).alloc (.cells #[Value.int .i64 x.1] 120))
  have E1 := ((((Ext.refl S w).alloc (.cells #[] 82)).alloc (.cells #[] 82)).alloc (.cells #[Value.int .i64 x.1] 120))
  have B1 := Bx.new ((w.alloc (.cells #[] 82)).alloc (.cells #[] 82)) [Value.int .i64 x.1] 120
  have Y1 := bty_alloc_new ((w.alloc (.cells #[] 82)).alloc (.cells #[] 82)) #[Value.int .i64 x.1] 120
  have hsz : ((w.alloc (.cells #[] 82)).alloc (.cells #[] 82)).heap.size = w.heap.size + 1 + 1 := by simp
  rw [hsz] at B1 Y1
  clear hsz
  have hnb : ¬ S (w.heap.size + 1 + 1) := fun h => by have := HR.out.rep.lt _ h; omega
  generalize (((w.alloc (.cells #[] 82)).alloc (.cells #[] 82)).alloc (.cells #[Value.int .i64 x.1] 120)) = w1 at R1 E1 B1 Y1 ⊢
  have c2 : w1.cell? ⟨s.m, 2, none⟩ = some (.pointer (some ⟨n, 0, none⟩)) := by rw [(mcell R1).2.2.2.1, HRT.out]; rfl
  have d1 := B1.cell 0 rfl
  have HR1 := hidp R1
  have HE1 := hidp E1
  have HB1 := hidp B1
  have HY := hidp Y1
  clear R1 E1 B1 Y1 hm1 hm2 m2' m3 m4 hmlt
  go_region_held3 (fun w' => w'.cell? ⟨(w.heap.size + 1 + 1), 0, none⟩ = some (Value.int .i64 x.1)) (go_keep)
    ((go_at_call 133
      first | refine (HCA.out w1.drew HR1.out.drew).mono ?_ | refine (HCA.out (w1.alloc (.cells #[] 82)).drew (HR1.out.alloc _).drew).mono ?_
      rintro e w' ⟨S3, rfl, hE0, R3⟩
      have hE3 : Ext S w1 S3 w' := by first | exact (Ext.refl S w1).drew.trans hE0 | exact ((Ext.refl S w1).alloc (.cells #[] 82)).drew.trans hE0
      clear hE0
      have k1 := (HB1.out.keep hE3.fr hnb).cell 0 rfl
      have HE3 := hidp hE3
      have HR3 := hidp R3
      clear hE3 R3))
  · have hnb3 : ¬ S3 (w.heap.size + 1 + 1) := fun h => (HE3.out.new _ h).elim hnb (fun h' => by have := HB1.out.1; omega)
    have R4 := HR3.out.alloc (Obj.cells #[] 82)
    have E4 := (HE1.out.trans HE3.out).alloc (Obj.cells #[] 82)
    have B4 := (HB1.out.keep HE3.out.fr hnb).alloc (Obj.cells #[] 82)
    have Y4 : bty ((w'.alloc (Obj.cells #[] 82))) (w.heap.size + 1 + 1) = some 120 := ((HE3.out.alloc (Obj.cells #[] 82)).fr.ty _ HB1.out.1).trans HY.out
    clear k1 c2 d1 HR3 HE3 HR1 HB1 HE1
    generalize (w'.alloc (Obj.cells #[] 82)) = w4 at R4 E4 B4 Y4 ⊢
    have c2 : w4.cell? ⟨s.m, 2, none⟩ = some (.pointer (some ⟨n, 0, none⟩)) := by rw [(mcell R4).2.2.2.1, HRT.out]; rfl
    go_wp2_with fail
    refine (HSP.out _ _ R4).mono ?_
    rintro e w5 ⟨q, S5, s5, il, ir, rfl, E5, R5, hm5, hmp5, T1, T2, hdd⟩
    have B5 := B4.keep E5.fr hnb3
    have hnb5 : ¬ S5 (w.heap.size + 1 + 1) := fun h => (E5.new _ h).elim hnb3 (fun h' => by have := B4.1; omega)
    have Y5 := (E5.fr.ty _ B4.1).trans Y4
    have hsml : s.m < w5.heap.size := by have := (mcell R5).1; rwa [hm5] at this
    go_wp2_with fail
    -- the median in a box
    have hmdn : ¬ S5 w5.heap.size := fun h => by have := R5.rep.lt _ h; omega
    have R6 := R5.alloc (.cells #[Value.int .i64 md.1] 120)
    have E6 := (E4.trans E5).alloc (.cells #[Value.int .i64 md.1] 120)
    have B6 := B5.alloc (.cells #[Value.int .i64 md.1] 120)
    have M6 := Bx.new w5 [Value.int .i64 md.1] 120
    have Y6 := (bty_alloc_old w5 (.cells #[Value.int .i64 md.1] 120) B5.1).trans Y5
    clear R4 E4 B4 c2 E5 R5 B5 hsml Y4 Y5 
    generalize hmb : w5.heap.size = mb at M6 hmdn ⊢
    generalize w5.alloc (.cells #[Value.int .i64 md.1] 120) = w6 at R6 E6 B6 M6 Y6 ⊢
    clear hmb
    have hNN := newNode_inner R6
    rw [hm5] at hNN
    refine hNN.mono ?_
    clear hNN
    rintro e w7 ⟨rt, qh, S7, rfl, hn1, hn2, hq1, hq2, hqr, E7, R7⟩
    have HNRT : Hid (∀ k r, s5.nd k = some r → k ≠ rt) := hidp fun k r hk e => hn2 (e ▸ R6.inS_node hk)
    have hb7 : ∀ z vs, Bx w6 z vs → ¬ S5 z → ¬ S7 z := fun z vs hz hn h => (E7.new _ h).elim hn (fun h' => by have := hz.1; omega)
    have B7 := B6.keep E7.fr hnb5
    have M7 := M6.keep E7.fr hmdn
    have hnb7 := hb7 _ _ B6 hnb5
    have hmd7 := hb7 _ _ M6 hmdn
    have Y7 := (E7.fr.ty _ B6.1).trans Y6
    obtain ⟨E8, R8⟩ := R7.put_mp { s5.mp with root := some rt } (off := 2) (.pointer (some ⟨rt, 0, none⟩)) (by show 2 < 9; decide) rfl
    have B8 := B7.keep E8.fr hnb7
    have M8 := M7.keep E8.fr hmd7
    have Y8 := (E8.fr.ty _ B7.1).trans Y7
    have c2 : w7.cell? ⟨s.m, 2, none⟩ = some (pv s.mp.root) := by
      have := (mcell R7).2.2.2.1
      rw [Sto.m_setNd, hm5, Sto.mp_setNd, hmp5] at this; exact this
    have f2 : w7.frozen? ⟨s.m, 2, none⟩ = false := by
      have := R7.map.froz 2 (v := pv s.mp.root) (by rw [Sto.mp_setNd, hmp5]; rfl)
      rwa [Sto.m_setNd, hm5] at this
    rw [HRT.out] at c2
    have EE8 := (E6.trans E7).trans E8
    rw [Sto.m_setNd, hm5] at EE8 R8 B8 M8 Y8
    clear E6 R6 B6 M6 E7 R7 B7 M7 E8 hn1 hn2 hq1 hq2 Y6 Y7 hb7
    obtain ⟨sB, hsB⟩ : ∃ sB : Sto It, sB = s5.setMp { s5.mp with root := some rt } := ⟨_, rfl⟩
    have hndB : sB.nd = s5.nd := by rw [hsB]; rfl
    have hmB : sB.m = s.m := by rw [hsB]; exact hm5
    have hmpB : sB.mp = { s.mp with root := some rt } := by rw [hsB]; show { s5.mp with root := some rt } = _; rw [hmp5]
    have R8' : RepS E S7 (w7.setCell ⟨s.m, 2, none⟩ (.pointer (some ⟨rt, 0, none⟩))) (sB.setNd rt ⟨s5.mp.iso, 0, [], none, 0, some ⟨qh, none, 0, []⟩⟩) := by rw [hsB]; exact R8
    clear R8
    go_wp2_with fail
    generalize w7.setCell ⟨s.m, 2, none⟩ (.pointer (some ⟨rt, 0, none⟩)) = w8 at R8' B8 M8 EE8 Y8 ⊢
    clear c2 f2
    have N8 : (sB.setNd rt ⟨s5.mp.iso, 0, [], none, 0, some ⟨qh, none, 0, []⟩⟩).nd rt = some ⟨s5.mp.iso, 0, [], none, 0, some ⟨qh, none, 0, []⟩⟩ := Sto.nd_same _ _ _
    have c2 : w8.cell? ⟨s.m, 2, none⟩ = some (.pointer (some ⟨rt, 0, none⟩)) := by
      have := (mcell R8').2.2.2.1
      rw [Sto.m_setNd, hmB, Sto.mp_setNd, hmpB] at this; exact this
    have c7 : w8.cell? ⟨s.m, 6, none⟩ = some (.int .i64 ((2 * D - 1 : Nat) : Int)) := by
      have := (mcell R8').2.2.2.2.2.2.2.2.1
      rw [Sto.m_setNd, hmB, Sto.mp_setNd, hmpB] at this; rw [this]; show some (Value.int .i64 s.mp.mx) = _; rw [HMX.out]
    have n3 : w8.cell? ⟨rt, 3, none⟩ = some (.pointer (some ⟨qh, 0, none⟩)) := (ncell R8' N8).2.2.2.2
    have h0 : w8.cell? ⟨qh, 0, none⟩ = some (.slice none 0 0) := (R8'.hdr N8 rfl).cell 0 rfl
    have h0f : w8.frozen? ⟨qh, 0, none⟩ = false := (R8'.hdr N8 rfl).froz 0 (v := sv none 0 0) rfl
    have hml : s.m < w8.heap.size := by have := (mcell R8').1; rwa [Sto.m_setNd, hmB] at this
    have hrl : rt < w8.heap.size := (ncell R8' N8).1
    have hql : qh < w8.heap.size := (R8'.hdr N8 rfl).1
    refine Last.start_ (S := fun w' => w'.cell? ⟨s.m, 2, none⟩ = some (.pointer (some ⟨rt, 0, none⟩)) ∧ w'.cell? ⟨rt, 3, none⟩ = some (.pointer (some ⟨qh, 0, none⟩)) ∧ w'.cell? ⟨s.m, 6, none⟩ = some (.int .i64 ((2 * D - 1 : Nat) : Int))) (ds := [14]) #[Z,Z,Z,Z,Z,Z,Z,Z,Z,Z,Z,Z,Z,Z,Z] (by rfl) (by rfl) (by rfl) ⟨((Fr.refl (fun _ => False) _).drew.cell (x := ⟨s.m, 2, none⟩) hml (fun h => h)).trans c2, ((Fr.refl (fun _ => False) _).drew.cell (x := ⟨rt, 3, none⟩) hrl (fun h => h)).trans n3, ((Fr.refl (fun _ => False) _).drew.cell (x := ⟨s.m, 6, none⟩) hml (fun h => h)).trans c7⟩ (fun hHeld => ?_)
    refine Last.tk 0 80 #[Y,Z,Z,Z,Z,Z,Z,Z,Z,Z,Z,Z,Z,Z,Z] rfl rfl hHeld ?_
    refine Last.tk 1 81 #[Y,Y,Z,Z,Z,Z,Z,Z,Z,Z,Z,Z,Z,Z,Z] rfl rfl hHeld ?_
    refine Last.tk 2 82 #[Y,Y,Y,Z,Z,Z,Z,Z,Z,Z,Z,Z,Z,Z,Z] rfl rfl hHeld ?_
    refine Last.tk 3 83 #[Y,Y,Y,Y,Z,Z,Z,Z,Z,Z,Z,Z,Z,Z,Z] rfl rfl hHeld ?_
    refine Last.tk 4 84 #[Y,Y,Y,Y,Y,Z,Z,Z,Z,Z,Z,Z,Z,Z,Z] rfl rfl hHeld ?_
    refine Last.tk 5 85 #[Y,Y,Y,Y,Y,Y,Z,Z,Z,Z,Z,Z,Z,Z,Z] rfl rfl hHeld ?_
    refine Last.tk 6 86 #[Y,Y,Y,Y,Y,Y,Y,Z,Z,Z,Z,Z,Z,Z,Z] rfl rfl hHeld ?_
    refine Last.tk 7 87 #[Y,Y,Y,Y,Y,Y,Y,Y,Z,Z,Z,Z,Z,Z,Z] rfl rfl hHeld ?_
    refine Last.tk 8 88 #[Y,Y,Y,Y,Y,Y,Y,Y,Y,Z,Z,Z,Z,Z,Z] rfl rfl hHeld ?_
    refine Last.tk 9 89 #[Y,Y,Y,Y,Y,Y,Y,Y,Y,Y,Z,Z,Z,Z,Z] rfl rfl hHeld ?_
    refine Last.tk 10 90 #[Y,Y,Y,Y,Y,Y,Y,Y,Y,Y,Y,Z,Z,Z,Z] rfl rfl hHeld ?_
    refine Last.tk 11 91 #[Y,Y,Y,Y,Y,Y,Y,Y,Y,Y,Y,Y,Z,Z,Z] rfl rfl hHeld ?_
    refine Last.one_ (i := 12) (N := some 92) #[Y,Y,Y,Y,Y,Y,Y,Y,Y,Y,Y,Y,Y,Z,Z] rfl rfl (by kernel_rfl) (by decide) (fun K hK => ?_)
    refine step_make (by rfl) _ _ _ (by rfl) 118 j0 _ 1 8 Try.underlying185 HJ0.out HY0.out HY1.out HY2.out (2 * D) (by rfl) (by rfl) (by omega) (by unfold maxLen; omega) ?_
    intro w6 hok hgl hty hF6
    refine hK.out _ _ ?_ (fun hHeld => ?_)
    · exact ⟨((Fr.trans (Fr.refl (fun _ => False) _).drew hF6 (fun _ h => h.elim)).cell (x := ⟨s.m, 2, none⟩) hml (fun h => h)).trans c2, ((Fr.trans (Fr.refl (fun _ => False) _).drew hF6 (fun _ h => h.elim)).cell (x := ⟨rt, 3, none⟩) hrl (fun h => h)).trans n3, ((Fr.trans (Fr.refl (fun _ => False) _).drew hF6 (fun _ h => h.elim)).cell (x := ⟨s.m, 6, none⟩) hml (fun h => h)).trans c7⟩
    clear hK K
    try simp only [Act.put, setIfInBounds_toArray, set_cons_zero, set_cons_succ]
    refine Last.tk 13 93 #[Y,Y,Y,Y,Y,Y,Y,Y,Y,Y,Y,Y,Y,Y,Z] rfl rfl hHeld ?_
    have k1 := ((Fr.trans (Fr.refl (fun _ => False) _).drew hF6 (fun _ h => h.elim)).cell (x := ⟨qh, 0, none⟩) hql (fun h => h)).trans h0
    have k2 := ((Fr.trans (Fr.refl (fun _ => False) _).drew hF6 (fun _ h => h.elim)).froz (x := ⟨qh, 0, none⟩) hql (fun h => h)).trans h0f
    refine Last.last_ (i := 14) (N := none) #[Y,Y,Y,Y,Y,Y,Y,Y,Y,Y,Y,Y,Y,Y,Y] rfl rfl (by kernel_rfl) (by decide) (fun K hK => ?_)
    go_simp
    refine hK.out _ _ ?_
    clear hK K hHeld
    try simp only [Act.put, setIfInBounds_toArray, set_cons_zero, set_cons_succ]
    refine Last.done_ (by kernel_rfl) ?_
    have hu9 := Upd.one w6 (b := qh) (o := 0) (.slice (some ⟨w8.heap.size, 0, none⟩) 0 (2 * D)) (by rw [M_of k1 k2]; rfl)
    obtain ⟨E9, R9⟩ := R8'.drew.new_kids N8 rfl [] (g := w8.heap.size) (cap := 2 * D) (Nat.le_refl _) hgl (by simpa using hok) (by simp) hF6 hu9
    have B9 := B8.drew.keep E9.fr hnb7
    have M9 := M8.drew.keep E9.fr hmd7
    have Y9 := (E9.fr.ty _ B8.1).trans Y8
    generalize (fun i => S7 i ∨ i = w8.heap.size) = S9 at R9 E9
    have hnb9 : ¬ S9 (w.heap.size + 1 + 1) := fun h => (E9.new _ h).elim hnb7 (fun h' => by have := B8.1; have e : w8.drew.heap.size = w8.heap.size := rfl; omega)
    have hmd9 : ¬ S9 mb := fun h => (E9.new _ h).elim hmd7 (fun h' => by have := M8.1; have e : w8.drew.heap.size = w8.heap.size := rfl; omega)
    have EE9 := EE8.drew.trans E9
    rw [Sto.setNd_again] at R9
    clear R8' B8 M8 EE8 N8 c2 c7 n3 h0 h0f hml hrl hql hok hgl hty hF6 k1 k2 hu9 E9 hnb7 hmd7 Y8
    generalize w8.heap.size = g9 at R9 B9 M9 EE9 Y9 ⊢
    generalize w6.setCell ⟨qh, 0, none⟩ (.slice (some ⟨g9, 0, none⟩) 0 (2 * D)) = w9 at R9 B9 M9 EE9 Y9 ⊢
    obtain ⟨r9, hr9⟩ : ∃ r9 : NodeR It, r9 = ⟨s5.mp.iso, 0, [], none, 0, some ⟨qh, some (g9, 0), 2 * D, []⟩⟩ := ⟨_, rfl⟩
    have R9' : RepS E S9 w9 (sB.setNd rt r9) := by rw [hr9]; exact R9
    have N9 : (sB.setNd rt r9).nd rt = some r9 := Sto.nd_same _ _ _
    have K9 : r9.kids = some ⟨qh, some (g9, 0), 2 * D, []⟩ := by rw [hr9]
    have c2 : w9.cell? ⟨s.m, 2, none⟩ = some (.pointer (some ⟨rt, 0, none⟩)) := by
      have := (mcell R9').2.2.2.1
      rw [Sto.m_setNd, hmB, Sto.mp_setNd, hmpB] at this; exact this
    have n3 : w9.cell? ⟨rt, 3, none⟩ = some (.pointer (some ⟨qh, 0, none⟩)) := by
      have := (ncell R9' N9).2.2.2.2
      rw [K9] at this; exact this
    have h0 : w9.cell? ⟨qh, 0, none⟩ = some (.slice (some ⟨g9, 0, none⟩) 0 (2 * D)) := (R9'.hdr N9 K9).cell 0 rfl
    have h0f : w9.frozen? ⟨qh, 0, none⟩ = false := (R9'.hdr N9 K9).froz 0 (v := sv (some (g9, 0)) 0 (2 * D)) rfl
    have hml : s.m < w9.heap.size := by have := (mcell R9').1; rwa [Sto.m_setNd, hmB] at this
    have hrl : rt < w9.heap.size := (ncell R9' N9).1
    have hql : qh < w9.heap.size := (R9'.hdr N9 K9).1
    clear R9
    go_wp2_with fail
    refine Last.start_ (S := fun w' => w'.cell? ⟨s.m, 2, none⟩ = some (.pointer (some ⟨rt, 0, none⟩)) ∧ w'.cell? ⟨rt, 3, none⟩ = some (.pointer (some ⟨qh, 0, none⟩))) (ds := [13]) #[Z,Z,Z,Z,Z,Z,Z,Z,Z,Z,Z,Z,Z,Z] (by rfl) (by rfl) (by rfl) ⟨((Fr.refl (fun _ => False) _).drew.cell (x := ⟨s.m, 2, none⟩) hml (fun h => h)).trans c2, ((Fr.refl (fun _ => False) _).drew.cell (x := ⟨rt, 3, none⟩) hrl (fun h => h)).trans n3⟩ (fun hHeld => ?_)
    refine Last.tk 0 94 #[Y,Z,Z,Z,Z,Z,Z,Z,Z,Z,Z,Z,Z,Z] rfl rfl hHeld ?_
    refine Last.tk 1 95 #[Y,Y,Z,Z,Z,Z,Z,Z,Z,Z,Z,Z,Z,Z] rfl rfl hHeld ?_
    refine Last.tk 2 96 #[Y,Y,Y,Z,Z,Z,Z,Z,Z,Z,Z,Z,Z,Z] rfl rfl hHeld ?_
    refine Last.tk 3 97 #[Y,Y,Y,Y,Z,Z,Z,Z,Z,Z,Z,Z,Z,Z] rfl rfl hHeld ?_
    refine Last.tk 4 98 #[Y,Y,Y,Y,Y,Z,Z,Z,Z,Z,Z,Z,Z,Z] rfl rfl hHeld ?_
    refine Last.tk 5 99 #[Y,Y,Y,Y,Y,Y,Z,Z,Z,Z,Z,Z,Z,Z] rfl rfl hHeld ?_
    refine Last.tk 6 100 #[Y,Y,Y,Y,Y,Y,Y,Z,Z,Z,Z,Z,Z,Z] rfl rfl hHeld ?_
    refine Last.tk 8 102 #[Y,Y,Y,Y,Y,Y,Y,Z,Y,Z,Z,Z,Z,Z] rfl rfl hHeld ?_
    refine Last.tk 9 103 #[Y,Y,Y,Y,Y,Y,Y,Z,Y,Y,Z,Z,Z,Z] rfl rfl hHeld ?_
    refine Last.join_ (σ := Nat × Nat) 3 #[Y,Y,Y,Y,Y,Y,Y,Y,Y,Y,Y,Z,Z,Z] (fun s => [(101, .slice (some ⟨s.1, 0, none⟩) 0 0), (104, .slice (some ⟨s.2, 0, none⟩) 2 2)]) (fun s W => Two (w9).drew W s.1 s.2 [.pointer (some ⟨n, 0, none⟩), .pointer (some ⟨q, 0, none⟩)]) (fun s wj hTw => ?_) (fun hcont => ?_)
    rotate_left
    · refine Last.two_ (i := 7) (j := 10) (Ni := some 101) (Nj := some 104) #[Y,Y,Y,Y,Y,Y,Y,Y,Y,Y,Z,Z,Z,Z] #[Y,Y,Y,Y,Y,Y,Y,Z,Y,Y,Y,Z,Z,Z] rfl rfl rfl rfl (by kernel_rfl) (by decide) (by decide) (fun K hK => ?_) (fun K hK => ?_)
      · go_simp
        refine hK.out _ _ ?_ (fun hHeld => ?_)
        · exact ⟨(((Fr.refl (fun _ => False) _).drew.alloc _).cell (x := ⟨s.m, 2, none⟩) hml (fun h => h)).trans c2, (((Fr.refl (fun _ => False) _).drew.alloc _).cell (x := ⟨rt, 3, none⟩) hrl (fun h => h)).trans n3⟩
        clear hK K
        try simp only [Act.put, setIfInBounds_toArray, set_cons_zero, set_cons_succ]
        refine Last.one_ (i := 10) (N := some 104) #[Y,Y,Y,Y,Y,Y,Y,Y,Y,Y,Y,Z,Z,Z] rfl rfl (by kernel_rfl) (by decide) (fun K hK => ?_)
        go_simp
        refine hK.out _ _ ?_ (fun hHeld => ?_)
        · exact ⟨((((Fr.refl (fun _ => False) _).drew.alloc _).alloc _).cell (x := ⟨s.m, 2, none⟩) hml (fun h => h)).trans c2, ((((Fr.refl (fun _ => False) _).drew.alloc _).alloc _).cell (x := ⟨rt, 3, none⟩) hrl (fun h => h)).trans n3⟩
        clear hK K
        try simp only [Act.put, setIfInBounds_toArray, set_cons_zero, set_cons_succ]
        exact hcont (_, _) _ (Two.one _ _ _ _ _)
      · go_simp
        refine hK.out _ _ ?_ (fun hHeld => ?_)
        · exact ⟨(((Fr.refl (fun _ => False) _).drew.alloc _).cell (x := ⟨s.m, 2, none⟩) hml (fun h => h)).trans c2, (((Fr.refl (fun _ => False) _).drew.alloc _).cell (x := ⟨rt, 3, none⟩) hrl (fun h => h)).trans n3⟩
        clear hK K
        try simp only [Act.put, setIfInBounds_toArray, set_cons_zero, set_cons_succ]
        refine Last.one_ (i := 7) (N := some 101) #[Y,Y,Y,Y,Y,Y,Y,Y,Y,Y,Y,Z,Z,Z] rfl rfl (by kernel_rfl) (by decide) (fun K hK => ?_)
        go_simp
        refine hK.out _ _ ?_ (fun hHeld => ?_)
        · exact ⟨((((Fr.refl (fun _ => False) _).drew.alloc _).alloc _).cell (x := ⟨s.m, 2, none⟩) hml (fun h => h)).trans c2, ((((Fr.refl (fun _ => False) _).drew.alloc _).alloc _).cell (x := ⟨rt, 3, none⟩) hrl (fun h => h)).trans n3⟩
        clear hK K
        try simp only [Act.put, setIfInBounds_toArray, set_cons_zero, set_cons_succ]
        exact hcont (_, _) _ (Two.other _ _ _ _ _)
    obtain ⟨g0, g1⟩ := s
    try simp only [Last.putAll, Act.put, List.setIfInBounds_toArray, List.set_cons_zero, List.set_cons_succ]
    have hHeld : (fun w' => w'.cell? ⟨s.m, 2, none⟩ = some (.pointer (some ⟨rt, 0, none⟩)) ∧ w'.cell? ⟨rt, 3, none⟩ = some (.pointer (some ⟨qh, 0, none⟩))) wj := ⟨((Fr.trans (Fr.refl (fun _ => False) _).drew hTw.fr (fun _ h => h.elim)).cell (x := ⟨s.m, 2, none⟩) hml (fun h => h)).trans c2, ((Fr.trans (Fr.refl (fun _ => False) _).drew hTw.fr (fun _ h => h.elim)).cell (x := ⟨rt, 3, none⟩) hrl (fun h => h)).trans n3⟩
    refine Last.one_ (i := 11) (N := some 105) #[Y,Y,Y,Y,Y,Y,Y,Y,Y,Y,Y,Y,Z,Z] rfl rfl (by kernel_rfl) (by decide) (fun K hK => ?_)
    refine step_app (by rfl) _ _ _ (by rfl) 118 j0 _ 1 8 Try.underlying185 HJ0.out HY0.out HY1.out HY2.out rfl (by decide) (some (g0, 0)) 0 0 [] (by rfl) (fun h => absurd h (by simp)) (by simp)
            (fun b o hb => by cases hb; exact Ch.ok_empty _ _ _ _) ⟨g1, 0, none⟩ 2 2 [.pointer (some ⟨n, 0, none⟩), .pointer (some ⟨q, 0, none⟩)] (by rfl) (by decide) (by rfl) (fun j u hj => by rw [Addr.add_lit, Nat.zero_add]; exact hTw.bx.cell j hj) (by simp [Value.oneCell']) (by unfold maxLen; omega) (by omega) ?_
    intro v' w6 happ
    obtain ⟨g, gc, rfl, hg1, hg2, hgc, hok, hty, hF0⟩ := happ.fresh (by decide)
    have hF6 := Fr.trans hTw.fr hF0 (S := fun _ => False) (fun _ h => h.elim)
    have hgl : (w9).heap.size ≤ g := Nat.le_trans hTw.fr.size hg1
    clear happ hF0
    refine hK.out _ _ ?_ (fun hHeld => ?_)
    · exact ⟨((Fr.trans (Fr.refl (fun _ => False) _).drew hF6 (fun _ h => h.elim)).cell (x := ⟨s.m, 2, none⟩) hml (fun h => h)).trans c2, ((Fr.trans (Fr.refl (fun _ => False) _).drew hF6 (fun _ h => h.elim)).cell (x := ⟨rt, 3, none⟩) hrl (fun h => h)).trans n3⟩
    clear hK K hTw hg1
    try simp only [Act.put, setIfInBounds_toArray, set_cons_zero, set_cons_succ]
    refine Last.tk 12 106 #[Y,Y,Y,Y,Y,Y,Y,Y,Y,Y,Y,Y,Y,Z] rfl rfl hHeld ?_
    have k1 := ((Fr.trans (Fr.refl (fun _ => False) _).drew hF6 (fun _ h => h.elim)).cell (x := ⟨qh, 0, none⟩) hql (fun h => h)).trans h0
    have k2 := ((Fr.trans (Fr.refl (fun _ => False) _).drew hF6 (fun _ h => h.elim)).froz (x := ⟨qh, 0, none⟩) hql (fun h => h)).trans h0f
    refine Last.last_ (i := 13) (N := none) #[Y,Y,Y,Y,Y,Y,Y,Y,Y,Y,Y,Y,Y,Y] rfl rfl (by kernel_rfl) (by decide) (fun K hK => ?_)
    unfold sv
    go_simp
    refine hK.out _ _ ?_
    clear hK K hHeld
    try simp only [Act.put, setIfInBounds_toArray, set_cons_zero, set_cons_succ]
    refine Last.done_ (by kernel_rfl) ?_
    have hu10 := Upd.one w6 (b := qh) (o := 0) (.slice (some ⟨g, 0, none⟩) 2 gc) (by rw [M_of k1 k2]; rfl)
    obtain ⟨E10, R10⟩ := R9'.drew.new_kids N9 K9 [some n, some q] hgl hok.blt (by rw [Nat.mul_one] at hok; exact hok) (by simpa using hgc) hF6 hu10
    have B10 := B9.drew.keep E10.fr hnb9
    have M10 := M9.drew.keep E10.fr hmd9
    have Y10 := (E10.fr.ty _ B9.1).trans Y9
    generalize (fun i => S9 i ∨ i = g) = S10 at R10 E10
    have hnb10 : ¬ S10 (w.heap.size + 1 + 1) := fun h => (E10.new _ h).elim hnb9 (fun h' => by have := B9.1; have e : w9.drew.heap.size = w9.heap.size := rfl; omega)
    have hmd10 : ¬ S10 mb := fun h => (E10.new _ h).elim hmd9 (fun h' => by have := M9.1; have e : w9.drew.heap.size = w9.heap.size := rfl; omega)
    have EE10 := EE9.drew.trans E10
    rw [Sto.setNd_again] at R10
    clear R9' B9 M9 EE9 N9 c2 n3 h0 h0f hml hrl hql hok hgl hty hF6 k1 k2 hu10 E10 hnb9 hmd9 hgc Y9
    generalize w6.setCell ⟨qh, 0, none⟩ (.slice (some ⟨g, 0, none⟩) 2 gc) = w10 at R10 B10 M10 EE10 Y10 ⊢
    obtain ⟨r10, hr10⟩ : ∃ r10 : NodeR It, r10 = { r9 with kids := some ⟨qh, some (g, 0), gc, [some n, some q]⟩ } := ⟨_, rfl⟩
    have R10' : RepS E S10 w10 (sB.setNd rt r10) := by rw [hr10]; exact R10
    have N10 : (sB.setNd rt r10).nd rt = some r10 := Sto.nd_same _ _ _
    have K10 : r10.kids = some ⟨qh, some (g, 0), gc, [some n, some q]⟩ := by rw [hr10]
    have hib10 : r10.ib = none ∧ r10.items = [] ∧ r10.icap = 0 := by rw [hr10, hr9]; exact ⟨rfl, rfl, rfl⟩
    have c2 : w10.cell? ⟨s.m, 2, none⟩ = some (.pointer (some ⟨rt, 0, none⟩)) := by
      have := (mcell R10').2.2.2.1
      rw [Sto.m_setNd, hmB, Sto.mp_setNd, hmpB] at this; exact this
    have n2 : w10.cell? ⟨rt, 2, none⟩ = some (.slice none 0 0) := by
      have := (ncell R10' N10).2.2.2.1
      rw [hib10.1, hib10.2.1, hib10.2.2] at this; exact this
    have n2f : w10.frozen? ⟨rt, 2, none⟩ = false := (R10'.node N10).froz 2 rfl
    have e1 := M10.cell 0 rfl
    have hml : s.m < w10.heap.size := by have := (mcell R10').1; rwa [Sto.m_setNd, hmB] at this
    have hrl : rt < w10.heap.size := (ncell R10' N10).1
    have hbl : mb < w10.heap.size := M10.1
    have HBL := hidp B10.1
    clear R10
    go_wp2_with fail
    refine Last.start_ (S := fun w' => w'.cell? ⟨s.m, 2, none⟩ = some (.pointer (some ⟨rt, 0, none⟩)) ∧ w'.cell? ⟨mb, 0, none⟩ = some (Value.int .i64 md.1)) (ds := [10]) #[Z,Z,Z,Z,Z,Z,Z,Z,Z,Z,Z] (by rfl) (by rfl) (by rfl) ⟨((Fr.refl (fun _ => False) _).drew.cell (x := ⟨s.m, 2, none⟩) hml (fun h => h)).trans c2, ((Fr.refl (fun _ => False) _).drew.cell (x := ⟨mb, 0, none⟩) hbl (fun h => h)).trans e1⟩ (fun hHeld => ?_)
    refine Last.tk 0 107 #[Y,Z,Z,Z,Z,Z,Z,Z,Z,Z,Z] rfl rfl hHeld ?_
    refine Last.tk 1 108 #[Y,Y,Z,Z,Z,Z,Z,Z,Z,Z,Z] rfl rfl hHeld ?_
    refine Last.tk 2 109 #[Y,Y,Y,Z,Z,Z,Z,Z,Z,Z,Z] rfl rfl hHeld ?_
    refine Last.tk 3 110 #[Y,Y,Y,Y,Z,Z,Z,Z,Z,Z,Z] rfl rfl hHeld ?_
    refine Last.tk 5 112 #[Y,Y,Y,Y,Z,Y,Z,Z,Z,Z,Z] rfl rfl hHeld ?_
    refine Last.join_ (σ := Nat × Nat) 4 #[Y,Y,Y,Y,Y,Y,Y,Z,Z,Z,Z] (fun s => [(111, .slice (some ⟨s.1, 0, none⟩) 0 0), (113, .slice (some ⟨s.2, 0, none⟩) 1 1)]) (fun s W => Two (w10).drew W s.1 s.2 [Value.int .i64 md.1]) (fun s wj hTw => ?_) (fun hcont => ?_)
    rotate_left
    · refine Last.two_ (i := 4) (j := 6) (Ni := some 111) (Nj := some 113) #[Y,Y,Y,Y,Y,Y,Z,Z,Z,Z,Z] #[Y,Y,Y,Y,Z,Y,Y,Z,Z,Z,Z] rfl rfl rfl rfl (by kernel_rfl) (by decide) (by decide) (fun K hK => ?_) (fun K hK => ?_)
      · go_simp
        refine hK.out _ _ ?_ (fun hHeld => ?_)
        · exact ⟨(((Fr.refl (fun _ => False) _).drew.alloc _).cell (x := ⟨s.m, 2, none⟩) hml (fun h => h)).trans c2, (((Fr.refl (fun _ => False) _).drew.alloc _).cell (x := ⟨mb, 0, none⟩) hbl (fun h => h)).trans e1⟩
        clear hK K
        try simp only [Act.put, setIfInBounds_toArray, set_cons_zero, set_cons_succ]
        refine Last.one_ (i := 6) (N := some 113) #[Y,Y,Y,Y,Y,Y,Y,Z,Z,Z,Z] rfl rfl (by kernel_rfl) (by decide) (fun K hK => ?_)
        go_simp
        refine hK.out _ _ ?_ (fun hHeld => ?_)
        · exact ⟨((((Fr.refl (fun _ => False) _).drew.alloc _).alloc _).cell (x := ⟨s.m, 2, none⟩) hml (fun h => h)).trans c2, ((((Fr.refl (fun _ => False) _).drew.alloc _).alloc _).cell (x := ⟨mb, 0, none⟩) hbl (fun h => h)).trans e1⟩
        clear hK K
        try simp only [Act.put, setIfInBounds_toArray, set_cons_zero, set_cons_succ]
        exact hcont (_, _) _ (Two.one _ _ _ _ _)
      · go_simp
        refine hK.out _ _ ?_ (fun hHeld => ?_)
        · exact ⟨(((Fr.refl (fun _ => False) _).drew.alloc _).cell (x := ⟨s.m, 2, none⟩) hml (fun h => h)).trans c2, (((Fr.refl (fun _ => False) _).drew.alloc _).cell (x := ⟨mb, 0, none⟩) hbl (fun h => h)).trans e1⟩
        clear hK K
        try simp only [Act.put, setIfInBounds_toArray, set_cons_zero, set_cons_succ]
        refine Last.one_ (i := 4) (N := some 111) #[Y,Y,Y,Y,Y,Y,Y,Z,Z,Z,Z] rfl rfl (by kernel_rfl) (by decide) (fun K hK => ?_)
        go_simp
        refine hK.out _ _ ?_ (fun hHeld => ?_)
        · exact ⟨((((Fr.refl (fun _ => False) _).drew.alloc _).alloc _).cell (x := ⟨s.m, 2, none⟩) hml (fun h => h)).trans c2, ((((Fr.refl (fun _ => False) _).drew.alloc _).alloc _).cell (x := ⟨mb, 0, none⟩) hbl (fun h => h)).trans e1⟩
        clear hK K
        try simp only [Act.put, setIfInBounds_toArray, set_cons_zero, set_cons_succ]
        exact hcont (_, _) _ (Two.other _ _ _ _ _)
    obtain ⟨g0, g1⟩ := s
    try simp only [Last.putAll, Act.put, List.setIfInBounds_toArray, List.set_cons_zero, List.set_cons_succ]
    have hHeld : (fun w' => w'.cell? ⟨s.m, 2, none⟩ = some (.pointer (some ⟨rt, 0, none⟩)) ∧ w'.cell? ⟨mb, 0, none⟩ = some (Value.int .i64 md.1)) wj := ⟨((Fr.trans (Fr.refl (fun _ => False) _).drew hTw.fr (fun _ h => h.elim)).cell (x := ⟨s.m, 2, none⟩) hml (fun h => h)).trans c2, ((Fr.trans (Fr.refl (fun _ => False) _).drew hTw.fr (fun _ h => h.elim)).cell (x := ⟨mb, 0, none⟩) hbl (fun h => h)).trans e1⟩
    refine Last.one_ (i := 7) (N := some 114) #[Y,Y,Y,Y,Y,Y,Y,Y,Z,Z,Z] rfl rfl (by kernel_rfl) (by decide) (fun K hK => ?_)
    refine step_app (by rfl) _ _ _ (by rfl) 120 i0 _ 1 8 Try.underlying181 HI0.out HZ0.out HZ1.out HZ2.out rfl (by decide) (some (g0, 0)) 0 0 [] (by rfl) (fun h => absurd h (by simp)) (by simp)
            (fun b o hb => by cases hb; exact Ch.ok_empty _ _ _ _) ⟨g1, 0, none⟩ 1 1 [Value.int .i64 md.1] (by rfl) (by decide) (by rfl) (fun j u hj => by rw [Addr.add_lit, Nat.zero_add]; exact hTw.bx.cell j hj) (by simp [Value.oneCell']) (by unfold maxLen; omega) (by omega) ?_
    intro v' w6 happ
    obtain ⟨g_, gc_, rfl, hg1, hg2, hgc, hok, hty, hF0⟩ := happ.fresh (by decide)
    have hF6 := Fr.trans hTw.fr hF0 (S := fun _ => False) (fun _ h => h.elim)
    have hgl : (w10).heap.size ≤ g_ := Nat.le_trans hTw.fr.size hg1
    clear happ hF0
    refine hK.out _ _ ?_ (fun hHeld => ?_)
    · exact ⟨((Fr.trans (Fr.refl (fun _ => False) _).drew hF6 (fun _ h => h.elim)).cell (x := ⟨s.m, 2, none⟩) hml (fun h => h)).trans c2, ((Fr.trans (Fr.refl (fun _ => False) _).drew hF6 (fun _ h => h.elim)).cell (x := ⟨mb, 0, none⟩) hbl (fun h => h)).trans e1⟩
    clear hK K hTw hg1
    try simp only [Act.put, setIfInBounds_toArray, set_cons_zero, set_cons_succ]
    refine Last.tk 8 115 #[Y,Y,Y,Y,Y,Y,Y,Y,Y,Z,Z] rfl rfl hHeld ?_
    refine Last.tk 9 116 #[Y,Y,Y,Y,Y,Y,Y,Y,Y,Y,Z] rfl rfl hHeld ?_
    have k1 := ((Fr.trans (Fr.refl (fun _ => False) _).drew hF6 (fun _ h => h.elim)).cell (x := ⟨rt, 2, none⟩) hrl (fun h => h)).trans n2
    have k2 := ((Fr.trans (Fr.refl (fun _ => False) _).drew hF6 (fun _ h => h.elim)).froz (x := ⟨rt, 2, none⟩) hrl (fun h => h)).trans n2f
    refine Last.last_ (i := 10) (N := none) #[Y,Y,Y,Y,Y,Y,Y,Y,Y,Y,Y] rfl rfl (by kernel_rfl) (by decide) (fun K hK => ?_)
    unfold sv
    go_simp
    refine hK.out _ _ ?_
    clear hK K hHeld
    try simp only [Act.put, setIfInBounds_toArray, set_cons_zero, set_cons_succ]
    refine Last.done_ (by kernel_rfl) ?_
    have hu11 := Upd.one w6 (b := rt) (o := 2) (.slice (some ⟨g_, 0, none⟩) 1 gc_) (by rw [M_of k1 k2]; rfl)
    obtain ⟨E11, R11⟩ := R10'.drew.new_items N10 [md] hgl hok.blt hok hty (by simpa using hgc) hF6 hu11
    have B11 := B10.drew.keep E11.fr hnb10
    have Y11 := (E11.fr.ty _ B10.1).trans Y10
    have EE11 := EE10.drew.trans E11
    rw [Sto.setNd_again] at R11
    clear R10' B10 M10 EE10 N10 c2 n2 n2f e1 hml hrl hbl hok hgl hty hF6 k1 k2 hu11 hmd10 hgc Y10
    generalize (fun i => S10 i ∨ i = g_) = S11 at R11 EE11 E11
    have hnb11 : ¬ S11 (w.heap.size + 1 + 1) := fun h => (E11.new _ h).elim hnb10 (fun h' => by have h1 := B11.1; have := HBL.out; have e : w10.drew.heap.size = w10.heap.size := rfl; omega)
    clear E11 hnb10
    generalize w6.setCell ⟨rt, 2, none⟩ (.slice (some ⟨g_, 0, none⟩) 1 gc_) = w11 at R11 B11 EE11 Y11 ⊢
    obtain ⟨r11, hr11⟩ : ∃ r11 : NodeR It, r11 = { r10 with items := [md], ib := some (g_, 0), icap := gc_ } := ⟨_, rfl⟩
    rw [← hr11] at R11
    have N11 : (sB.setNd rt r11).nd rt = some r11 := Sto.nd_same _ _ _
    have K11 : r11.kids = some ⟨qh, some (g, 0), gc, [some n, some q]⟩ := by rw [hr11]; exact K10
    have I11 : r11.items = [md] ∧ r11.ib = some (g_, 0) ∧ r11.icap = gc_ ∧ r11.iso = s5.mp.iso := by rw [hr11, hr10, hr9]; exact ⟨rfl, rfl, rfl, rfl⟩
    clear hr9 hr10 hr11 hib10 K9 K10
    have c2 : w11.cell? ⟨s.m, 2, none⟩ = some (.pointer (some ⟨rt, 0, none⟩)) := by
      have := (mcell R11).2.2.2.1
      rw [Sto.m_setNd, hmB, Sto.mp_setNd, hmpB] at this; exact this
    have T1' : ∀ r, Tr (sB.setNd rt r).nd s.mp.iso h n tl il := fun r => T1.keep fun k hk => by
      obtain ⟨rk, hk', _⟩ := T1.mem k hk
      rw [Sto.nd_ne _ _ (HNRT.out k rk hk'), hndB]
    have T2' : ∀ r, Tr (sB.setNd rt r).nd s.mp.iso h q tr ir := fun r => T2.keep fun k hk => by
      obtain ⟨rk, hk', _⟩ := T2.mem k hk
      rw [Sto.nd_ne _ _ (HNRT.out k rk hk'), hndB]
    have hmem : ∀ k ∈ il ++ ir, k ≠ rt := fun k hk => by
      rcases List.mem_append.1 hk with h' | h'
      · obtain ⟨rk, hk', _⟩ := T1.mem k h'
        exact HNRT.out k rk hk'
      · obtain ⟨rk, hk', _⟩ := T2.mem k h'
        exact HNRT.out k rk hk'
    obtain ⟨hni, rn, hrn, _, _, hcn, _⟩ := (T1' r11).root
    obtain ⟨hqi, rq, hrq, _, _, hcq, _⟩ := (T2' r11).root
    have hsum : (BT.all h t).length = (BT.all h tl).length + 1 + (BT.all h tr).length := by
      rw [← HALL2.out]
      show (weave [md] [BT.all h tl, BT.all h tr]).length = _
      simp [weave]; omega
    have hgc2 : 2 ≤ gc := (R11.wf _ _ N11).2.2.2 _ K11
    have hci := count_inner (w := w11) (q := rt) (hd := qh) (b := g) (o := 0) (ib := some (g_, 0)) (len := 1) (cap := gc_) (kcap := gc) (ps := [n, q]) (cs := [((BT.all h tl).length : Int), ((BT.all h tr).length : Int)])
      ((R11.node N11).2 1 _ rfl) (by have := (R11.node N11).2 2 _ rfl; rw [I11.1, I11.2.1, I11.2.2.1] at this; exact this) (by have := (R11.node N11).2 3 _ rfl; rw [K11] at this; exact this) ((R11.hdr N11 K11).2 0 _ rfl)
      (fun j p hp => by
        have hk := R11.kid N11 K11 (b := g) (o := 0) rfl (i := j) (p := some p)
        match j, hp with
        | 0, hp =>
          obtain rfl := Option.some.inj hp
          refine ⟨hk rfl, hmem _ (List.mem_append.2 (.inl hni)), _, rfl, ?_⟩
          have := (R11.node hrn).2 1 _ rfl
          rw [hcn] at this; exact this
        | 1, hp =>
          obtain rfl := Option.some.inj hp
          refine ⟨hk rfl, hmem _ (List.mem_append.2 (.inr hqi)), _, rfl, ?_⟩
          have := (R11.node hrq).2 1 _ rfl
          rw [hcq] at this; exact this
        | j + 2, hp => simp at hp)
      (fun j hj => R11.arr_ne_node N11 K11 rfl N11 (by have hj' : j < 2 := hj; show j < gc; omega) (by decide))
      (fun c hc => by simp only [List.mem_cons, List.not_mem_nil, or_false] at hc; rcases hc with rfl | rfl <;> exact Int.natCast_nonneg _)
      rfl (by have := HT.out.2; simp only [List.sum_cons, List.sum_nil]; omega) (by simp)
    go_wp2_with fail
    refine hci.mono ?_
    rintro e w12 ⟨rfl, dm, w13, rfl, hu13⟩
    have hcs : ((1 : Nat) : Int) + [((BT.all h tl).length : Int), ((BT.all h tr).length : Int)].sum = (((BT.all h t).length : Nat) : Int) := by rw [hsum]; simp only [List.sum_cons, List.sum_nil]; omega
    rw [hcs] at hu13
    have R12 := (R11.set_count N11 _ hu13).drewN dm
    rw [Sto.setNd_again] at R12
    have E12 := (EE11.upd hu13 (.inl (R11.inS_node N11))).drewN dm
    have B12 := (B11.keep hu13.fr (fun e => hnb11 (e ▸ R11.inS_node N11))).drewN dm
    have Y12 : bty (w13.drewN dm) (w.heap.size + 1 + 1) = some 120 := (hu13.fr.ty _ B11.1).trans Y11
    have T12 : Tr (sB.setNd rt { r11 with count := ((BT.all h t).length : Nat) }).nd s.mp.iso (h + 1) rt (([md], [tl, tr]) : BT It (h + 1)) (rt :: [il, ir].flatten) := by
      refine ⟨_, _, [n, q], [il, ir], Sto.nd_same _ _ _, ?_, I11.1, K11, rfl, ?_, rfl, rfl, rfl, fun i p c is hp hc hi => ?_⟩
      · show r11.iso = _; rw [I11.2.2.2, hmp5]
      · show ((BT.all h t).length : Int) = _; rw [HALL2.out]
      · match i, hp, hc, hi with
        | 0, hp, hc, hi =>
          obtain rfl := Option.some.inj hp
          obtain rfl := Option.some.inj hc
          obtain rfl := Option.some.inj hi
          exact T1' _
        | 1, hp, hc, hi =>
          obtain rfl := Option.some.inj hp
          obtain rfl := Option.some.inj hc
          obtain rfl := Option.some.inj hi
          exact T2' _
        | i + 2, hp, _, _ => simp at hp
    have hfin := set_nodeT hD hD2 R12 (n := rt) (t := (([md], [tl, tr]) : BT It (h + 1))) (by rw [Sto.mp_setNd, hmpB]) (by rw [Sto.mp_setNd, hmpB]; exact T12) (by
        refine List.nodup_cons.2 ⟨fun h' => hmem rt (by simpa using h') rfl, by simpa using hdd⟩) HOK2.out (by rw [HALL2.out]; exact HT.out.1) (by rw [Sto.mp_setNd, hmpB]; exact HMN.out) (by rw [Sto.mp_setNd, hmpB]; exact HMX.out) (by rw [HALL2.out]; exact HT.out.2) (by rw [Sto.mp_setNd, hmpB, HALL2.out]; exact HC.out) x HNE2.out
    rw [Sto.m_setNd, hmB, HALL2.out] at hfin
    have HFIN := hidp (hfin.mono fun e w' hp => SetPostP.from (s := s) (SetPostP.mono (Pt' := StepS D t x s.mp.iso) (fun s' hs => ⟨tl, md, tr, HSPL.out, by rw [Sto.mp_setNd, hmpB] at hs; exact hs⟩) hp) E12 (by rw [Sto.m_setNd]; exact hmB) (by rw [Sto.mp_setNd, hmpB]) (by rw [Sto.mp_setNd, hmpB]))
    have d1 := B12.cell 0 rfl
    have hpp := part_pair 0 Y12
    clear R11 N11 K11 I11 R12 E12 B12 T12 hfin hci hcs hu13 hsum hgc2 T1 T2 T1' T2' hmem hdd EE11 B11 hnb11 c2 hrn hrq hcn hcq hni hqi Y11 Y12
    generalize w13.drewN dm = w14 at *
    go_wp2_with fail
    refine HFIN.out.mono ?_
    intro e w' hpo
    obtain ⟨vv, bb, rfl⟩ := hpo.form
    have HPO := hidp hpo
    clear hpo
    go_wp2
    refine bodyPost_ret (v := .tuple #[Value.agg #[], .bool bb]) (by simp [results, Try.results97, go_sem]) rfl ?_
    exact HPO.out
  · have hnb3 : ¬ S3 (w.heap.size + 1 + 1) := fun h => (HE3.out.new _ h).elim hnb (fun h' => by have := HB1.out.1; omega)
    have R4 := HR3.out
    have E4 := (HE1.out.trans HE3.out)
    have B4 := (HB1.out.keep HE3.out.fr hnb)
    have Y4 : bty (w') (w.heap.size + 1 + 1) = some 120 := ((HE3.out).fr.ty _ HB1.out.1).trans HY.out
    clear k1 c2 d1 HR3 HE3 HR1 HB1 HE1
    generalize w' = w4 at R4 E4 B4 Y4 ⊢
    have c2 : w4.cell? ⟨s.m, 2, none⟩ = some (.pointer (some ⟨n, 0, none⟩)) := by rw [(mcell R4).2.2.2.1, HRT.out]; rfl
    go_wp2_with fail
    refine (HSP.out _ _ R4).mono ?_
    rintro e w5 ⟨q, S5, s5, il, ir, rfl, E5, R5, hm5, hmp5, T1, T2, hdd⟩
    have B5 := B4.keep E5.fr hnb3
    have hnb5 : ¬ S5 (w.heap.size + 1 + 1) := fun h => (E5.new _ h).elim hnb3 (fun h' => by have := B4.1; omega)
    have Y5 := (E5.fr.ty _ B4.1).trans Y4
    have hsml : s.m < w5.heap.size := by have := (mcell R5).1; rwa [hm5] at this
    go_wp2_with fail
    -- the median in a box
    have hmdn : ¬ S5 w5.heap.size := fun h => by have := R5.rep.lt _ h; omega
    have R6 := R5.alloc (.cells #[Value.int .i64 md.1] 120)
    have E6 := (E4.trans E5).alloc (.cells #[Value.int .i64 md.1] 120)
    have B6 := B5.alloc (.cells #[Value.int .i64 md.1] 120)
    have M6 := Bx.new w5 [Value.int .i64 md.1] 120
    have Y6 := (bty_alloc_old w5 (.cells #[Value.int .i64 md.1] 120) B5.1).trans Y5
    clear R4 E4 B4 c2 E5 R5 B5 hsml Y4 Y5 
    generalize hmb : w5.heap.size = mb at M6 hmdn ⊢
    generalize w5.alloc (.cells #[Value.int .i64 md.1] 120) = w6 at R6 E6 B6 M6 Y6 ⊢
    clear hmb
    have hNN := newNode_inner R6
    rw [hm5] at hNN
    refine hNN.mono ?_
    clear hNN
    rintro e w7 ⟨rt, qh, S7, rfl, hn1, hn2, hq1, hq2, hqr, E7, R7⟩
    have HNRT : Hid (∀ k r, s5.nd k = some r → k ≠ rt) := hidp fun k r hk e => hn2 (e ▸ R6.inS_node hk)
    have hb7 : ∀ z vs, Bx w6 z vs → ¬ S5 z → ¬ S7 z := fun z vs hz hn h => (E7.new _ h).elim hn (fun h' => by have := hz.1; omega)
    have B7 := B6.keep E7.fr hnb5
    have M7 := M6.keep E7.fr hmdn
    have hnb7 := hb7 _ _ B6 hnb5
    have hmd7 := hb7 _ _ M6 hmdn
    have Y7 := (E7.fr.ty _ B6.1).trans Y6
    obtain ⟨E8, R8⟩ := R7.put_mp { s5.mp with root := some rt } (off := 2) (.pointer (some ⟨rt, 0, none⟩)) (by show 2 < 9; decide) rfl
    have B8 := B7.keep E8.fr hnb7
    have M8 := M7.keep E8.fr hmd7
    have Y8 := (E8.fr.ty _ B7.1).trans Y7
    have c2 : w7.cell? ⟨s.m, 2, none⟩ = some (pv s.mp.root) := by
      have := (mcell R7).2.2.2.1
      rw [Sto.m_setNd, hm5, Sto.mp_setNd, hmp5] at this; exact this
    have f2 : w7.frozen? ⟨s.m, 2, none⟩ = false := by
      have := R7.map.froz 2 (v := pv s.mp.root) (by rw [Sto.mp_setNd, hmp5]; rfl)
      rwa [Sto.m_setNd, hm5] at this
    rw [HRT.out] at c2
    have EE8 := (E6.trans E7).trans E8
    rw [Sto.m_setNd, hm5] at EE8 R8 B8 M8 Y8
    clear E6 R6 B6 M6 E7 R7 B7 M7 E8 hn1 hn2 hq1 hq2 Y6 Y7 hb7
    obtain ⟨sB, hsB⟩ : ∃ sB : Sto It, sB = s5.setMp { s5.mp with root := some rt } := ⟨_, rfl⟩
    have hndB : sB.nd = s5.nd := by rw [hsB]; rfl
    have hmB : sB.m = s.m := by rw [hsB]; exact hm5
    have hmpB : sB.mp = { s.mp with root := some rt } := by rw [hsB]; show { s5.mp with root := some rt } = _; rw [hmp5]
    have R8' : RepS E S7 (w7.setCell ⟨s.m, 2, none⟩ (.pointer (some ⟨rt, 0, none⟩))) (sB.setNd rt ⟨s5.mp.iso, 0, [], none, 0, some ⟨qh, none, 0, []⟩⟩) := by rw [hsB]; exact R8
    clear R8
    go_wp2_with fail
    generalize w7.setCell ⟨s.m, 2, none⟩ (.pointer (some ⟨rt, 0, none⟩)) = w8 at R8' B8 M8 EE8 Y8 ⊢
    clear c2 f2
    have N8 : (sB.setNd rt ⟨s5.mp.iso, 0, [], none, 0, some ⟨qh, none, 0, []⟩⟩).nd rt = some ⟨s5.mp.iso, 0, [], none, 0, some ⟨qh, none, 0, []⟩⟩ := Sto.nd_same _ _ _
    have c2 : w8.cell? ⟨s.m, 2, none⟩ = some (.pointer (some ⟨rt, 0, none⟩)) := by
      have := (mcell R8').2.2.2.1
      rw [Sto.m_setNd, hmB, Sto.mp_setNd, hmpB] at this; exact this
    have c7 : w8.cell? ⟨s.m, 6, none⟩ = some (.int .i64 ((2 * D - 1 : Nat) : Int)) := by
      have := (mcell R8').2.2.2.2.2.2.2.2.1
      rw [Sto.m_setNd, hmB, Sto.mp_setNd, hmpB] at this; rw [this]; show some (Value.int .i64 s.mp.mx) = _; rw [HMX.out]
    have n3 : w8.cell? ⟨rt, 3, none⟩ = some (.pointer (some ⟨qh, 0, none⟩)) := (ncell R8' N8).2.2.2.2
    have h0 : w8.cell? ⟨qh, 0, none⟩ = some (.slice none 0 0) := (R8'.hdr N8 rfl).cell 0 rfl
    have h0f : w8.frozen? ⟨qh, 0, none⟩ = false := (R8'.hdr N8 rfl).froz 0 (v := sv none 0 0) rfl
    have hml : s.m < w8.heap.size := by have := (mcell R8').1; rwa [Sto.m_setNd, hmB] at this
    have hrl : rt < w8.heap.size := (ncell R8' N8).1
    have hql : qh < w8.heap.size := (R8'.hdr N8 rfl).1
    refine Last.start_ (S := fun w' => w'.cell? ⟨s.m, 2, none⟩ = some (.pointer (some ⟨rt, 0, none⟩)) ∧ w'.cell? ⟨rt, 3, none⟩ = some (.pointer (some ⟨qh, 0, none⟩)) ∧ w'.cell? ⟨s.m, 6, none⟩ = some (.int .i64 ((2 * D - 1 : Nat) : Int))) (ds := [14]) #[Z,Z,Z,Z,Z,Z,Z,Z,Z,Z,Z,Z,Z,Z,Z] (by rfl) (by rfl) (by rfl) ⟨((Fr.refl (fun _ => False) _).drew.cell (x := ⟨s.m, 2, none⟩) hml (fun h => h)).trans c2, ((Fr.refl (fun _ => False) _).drew.cell (x := ⟨rt, 3, none⟩) hrl (fun h => h)).trans n3, ((Fr.refl (fun _ => False) _).drew.cell (x := ⟨s.m, 6, none⟩) hml (fun h => h)).trans c7⟩ (fun hHeld => ?_)
    refine Last.tk 0 80 #[Y,Z,Z,Z,Z,Z,Z,Z,Z,Z,Z,Z,Z,Z,Z] rfl rfl hHeld ?_
    refine Last.tk 1 81 #[Y,Y,Z,Z,Z,Z,Z,Z,Z,Z,Z,Z,Z,Z,Z] rfl rfl hHeld ?_
    refine Last.tk 2 82 #[Y,Y,Y,Z,Z,Z,Z,Z,Z,Z,Z,Z,Z,Z,Z] rfl rfl hHeld ?_
    refine Last.tk 3 83 #[Y,Y,Y,Y,Z,Z,Z,Z,Z,Z,Z,Z,Z,Z,Z] rfl rfl hHeld ?_
    refine Last.tk 4 84 #[Y,Y,Y,Y,Y,Z,Z,Z,Z,Z,Z,Z,Z,Z,Z] rfl rfl hHeld ?_
    refine Last.tk 5 85 #[Y,Y,Y,Y,Y,Y,Z,Z,Z,Z,Z,Z,Z,Z,Z] rfl rfl hHeld ?_
    refine Last.tk 6 86 #[Y,Y,Y,Y,Y,Y,Y,Z,Z,Z,Z,Z,Z,Z,Z] rfl rfl hHeld ?_
    refine Last.tk 7 87 #[Y,Y,Y,Y,Y,Y,Y,Y,Z,Z,Z,Z,Z,Z,Z] rfl rfl hHeld ?_
    refine Last.tk 8 88 #[Y,Y,Y,Y,Y,Y,Y,Y,Y,Z,Z,Z,Z,Z,Z] rfl rfl hHeld ?_
    refine Last.tk 9 89 #[Y,Y,Y,Y,Y,Y,Y,Y,Y,Y,Z,Z,Z,Z,Z] rfl rfl hHeld ?_
    refine Last.tk 10 90 #[Y,Y,Y,Y,Y,Y,Y,Y,Y,Y,Y,Z,Z,Z,Z] rfl rfl hHeld ?_
    refine Last.tk 11 91 #[Y,Y,Y,Y,Y,Y,Y,Y,Y,Y,Y,Y,Z,Z,Z] rfl rfl hHeld ?_
    refine Last.one_ (i := 12) (N := some 92) #[Y,Y,Y,Y,Y,Y,Y,Y,Y,Y,Y,Y,Y,Z,Z] rfl rfl (by kernel_rfl) (by decide) (fun K hK => ?_)
    refine step_make (by rfl) _ _ _ (by rfl) 118 j0 _ 1 8 Try.underlying185 HJ0.out HY0.out HY1.out HY2.out (2 * D) (by rfl) (by rfl) (by omega) (by unfold maxLen; omega) ?_
    intro w6 hok hgl hty hF6
    refine hK.out _ _ ?_ (fun hHeld => ?_)
    · exact ⟨((Fr.trans (Fr.refl (fun _ => False) _).drew hF6 (fun _ h => h.elim)).cell (x := ⟨s.m, 2, none⟩) hml (fun h => h)).trans c2, ((Fr.trans (Fr.refl (fun _ => False) _).drew hF6 (fun _ h => h.elim)).cell (x := ⟨rt, 3, none⟩) hrl (fun h => h)).trans n3, ((Fr.trans (Fr.refl (fun _ => False) _).drew hF6 (fun _ h => h.elim)).cell (x := ⟨s.m, 6, none⟩) hml (fun h => h)).trans c7⟩
    clear hK K
    try simp only [Act.put, setIfInBounds_toArray, set_cons_zero, set_cons_succ]
    refine Last.tk 13 93 #[Y,Y,Y,Y,Y,Y,Y,Y,Y,Y,Y,Y,Y,Y,Z] rfl rfl hHeld ?_
    have k1 := ((Fr.trans (Fr.refl (fun _ => False) _).drew hF6 (fun _ h => h.elim)).cell (x := ⟨qh, 0, none⟩) hql (fun h => h)).trans h0
    have k2 := ((Fr.trans (Fr.refl (fun _ => False) _).drew hF6 (fun _ h => h.elim)).froz (x := ⟨qh, 0, none⟩) hql (fun h => h)).trans h0f
    refine Last.last_ (i := 14) (N := none) #[Y,Y,Y,Y,Y,Y,Y,Y,Y,Y,Y,Y,Y,Y,Y] rfl rfl (by kernel_rfl) (by decide) (fun K hK => ?_)
    go_simp
    refine hK.out _ _ ?_
    clear hK K hHeld
    try simp only [Act.put, setIfInBounds_toArray, set_cons_zero, set_cons_succ]
    refine Last.done_ (by kernel_rfl) ?_
    have hu9 := Upd.one w6 (b := qh) (o := 0) (.slice (some ⟨w8.heap.size, 0, none⟩) 0 (2 * D)) (by rw [M_of k1 k2]; rfl)
    obtain ⟨E9, R9⟩ := R8'.drew.new_kids N8 rfl [] (g := w8.heap.size) (cap := 2 * D) (Nat.le_refl _) hgl (by simpa using hok) (by simp) hF6 hu9
    have B9 := B8.drew.keep E9.fr hnb7
    have M9 := M8.drew.keep E9.fr hmd7
    have Y9 := (E9.fr.ty _ B8.1).trans Y8
    generalize (fun i => S7 i ∨ i = w8.heap.size) = S9 at R9 E9
    have hnb9 : ¬ S9 (w.heap.size + 1 + 1) := fun h => (E9.new _ h).elim hnb7 (fun h' => by have := B8.1; have e : w8.drew.heap.size = w8.heap.size := rfl; omega)
    have hmd9 : ¬ S9 mb := fun h => (E9.new _ h).elim hmd7 (fun h' => by have := M8.1; have e : w8.drew.heap.size = w8.heap.size := rfl; omega)
    have EE9 := EE8.drew.trans E9
    rw [Sto.setNd_again] at R9
    clear R8' B8 M8 EE8 N8 c2 c7 n3 h0 h0f hml hrl hql hok hgl hty hF6 k1 k2 hu9 E9 hnb7 hmd7 Y8
    generalize w8.heap.size = g9 at R9 B9 M9 EE9 Y9 ⊢
    generalize w6.setCell ⟨qh, 0, none⟩ (.slice (some ⟨g9, 0, none⟩) 0 (2 * D)) = w9 at R9 B9 M9 EE9 Y9 ⊢
    obtain ⟨r9, hr9⟩ : ∃ r9 : NodeR It, r9 = ⟨s5.mp.iso, 0, [], none, 0, some ⟨qh, some (g9, 0), 2 * D, []⟩⟩ := ⟨_, rfl⟩
    have R9' : RepS E S9 w9 (sB.setNd rt r9) := by rw [hr9]; exact R9
    have N9 : (sB.setNd rt r9).nd rt = some r9 := Sto.nd_same _ _ _
    have K9 : r9.kids = some ⟨qh, some (g9, 0), 2 * D, []⟩ := by rw [hr9]
    have c2 : w9.cell? ⟨s.m, 2, none⟩ = some (.pointer (some ⟨rt, 0, none⟩)) := by
      have := (mcell R9').2.2.2.1
      rw [Sto.m_setNd, hmB, Sto.mp_setNd, hmpB] at this; exact this
    have n3 : w9.cell? ⟨rt, 3, none⟩ = some (.pointer (some ⟨qh, 0, none⟩)) := by
      have := (ncell R9' N9).2.2.2.2
      rw [K9] at this; exact this
    have h0 : w9.cell? ⟨qh, 0, none⟩ = some (.slice (some ⟨g9, 0, none⟩) 0 (2 * D)) := (R9'.hdr N9 K9).cell 0 rfl
    have h0f : w9.frozen? ⟨qh, 0, none⟩ = false := (R9'.hdr N9 K9).froz 0 (v := sv (some (g9, 0)) 0 (2 * D)) rfl
    have hml : s.m < w9.heap.size := by have := (mcell R9').1; rwa [Sto.m_setNd, hmB] at this
    have hrl : rt < w9.heap.size := (ncell R9' N9).1
    have hql : qh < w9.heap.size := (R9'.hdr N9 K9).1
    clear R9
    go_wp2_with fail
    refine Last.start_ (S := fun w' => w'.cell? ⟨s.m, 2, none⟩ = some (.pointer (some ⟨rt, 0, none⟩)) ∧ w'.cell? ⟨rt, 3, none⟩ = some (.pointer (some ⟨qh, 0, none⟩))) (ds := [13]) #[Z,Z,Z,Z,Z,Z,Z,Z,Z,Z,Z,Z,Z,Z] (by rfl) (by rfl) (by rfl) ⟨((Fr.refl (fun _ => False) _).drew.cell (x := ⟨s.m, 2, none⟩) hml (fun h => h)).trans c2, ((Fr.refl (fun _ => False) _).drew.cell (x := ⟨rt, 3, none⟩) hrl (fun h => h)).trans n3⟩ (fun hHeld => ?_)
    refine Last.tk 0 94 #[Y,Z,Z,Z,Z,Z,Z,Z,Z,Z,Z,Z,Z,Z] rfl rfl hHeld ?_
    refine Last.tk 1 95 #[Y,Y,Z,Z,Z,Z,Z,Z,Z,Z,Z,Z,Z,Z] rfl rfl hHeld ?_
    refine Last.tk 2 96 #[Y,Y,Y,Z,Z,Z,Z,Z,Z,Z,Z,Z,Z,Z] rfl rfl hHeld ?_
    refine Last.tk 3 97 #[Y,Y,Y,Y,Z,Z,Z,Z,Z,Z,Z,Z,Z,Z] rfl rfl hHeld ?_
    refine Last.tk 4 98 #[Y,Y,Y,Y,Y,Z,Z,Z,Z,Z,Z,Z,Z,Z] rfl rfl hHeld ?_
    refine Last.tk 5 99 #[Y,Y,Y,Y,Y,Y,Z,Z,Z,Z,Z,Z,Z,Z] rfl rfl hHeld ?_
    refine Last.tk 6 100 #[Y,Y,Y,Y,Y,Y,Y,Z,Z,Z,Z,Z,Z,Z] rfl rfl hHeld ?_
    refine Last.tk 8 102 #[Y,Y,Y,Y,Y,Y,Y,Z,Y,Z,Z,Z,Z,Z] rfl rfl hHeld ?_
    refine Last.tk 9 103 #[Y,Y,Y,Y,Y,Y,Y,Z,Y,Y,Z,Z,Z,Z] rfl rfl hHeld ?_
    refine Last.join_ (σ := Nat × Nat) 3 #[Y,Y,Y,Y,Y,Y,Y,Y,Y,Y,Y,Z,Z,Z] (fun s => [(101, .slice (some ⟨s.1, 0, none⟩) 0 0), (104, .slice (some ⟨s.2, 0, none⟩) 2 2)]) (fun s W => Two (w9).drew W s.1 s.2 [.pointer (some ⟨n, 0, none⟩), .pointer (some ⟨q, 0, none⟩)]) (fun s wj hTw => ?_) (fun hcont => ?_)
    rotate_left
    · refine Last.two_ (i := 7) (j := 10) (Ni := some 101) (Nj := some 104) #[Y,Y,Y,Y,Y,Y,Y,Y,Y,Y,Z,Z,Z,Z] #[Y,Y,Y,Y,Y,Y,Y,Z,Y,Y,Y,Z,Z,Z] rfl rfl rfl rfl (by kernel_rfl) (by decide) (by decide) (fun K hK => ?_) (fun K hK => ?_)
      · go_simp
        refine hK.out _ _ ?_ (fun hHeld => ?_)
        · exact ⟨(((Fr.refl (fun _ => False) _).drew.alloc _).cell (x := ⟨s.m, 2, none⟩) hml (fun h => h)).trans c2, (((Fr.refl (fun _ => False) _).drew.alloc _).cell (x := ⟨rt, 3, none⟩) hrl (fun h => h)).trans n3⟩
        clear hK K
        try simp only [Act.put, setIfInBounds_toArray, set_cons_zero, set_cons_succ]
        refine Last.one_ (i := 10) (N := some 104) #[Y,Y,Y,Y,Y,Y,Y,Y,Y,Y,Y,Z,Z,Z] rfl rfl (by kernel_rfl) (by decide) (fun K hK => ?_)
        go_simp
        refine hK.out _ _ ?_ (fun hHeld => ?_)
        · exact ⟨((((Fr.refl (fun _ => False) _).drew.alloc _).alloc _).cell (x := ⟨s.m, 2, none⟩) hml (fun h => h)).trans c2, ((((Fr.refl (fun _ => False) _).drew.alloc _).alloc _).cell (x := ⟨rt, 3, none⟩) hrl (fun h => h)).trans n3⟩
        clear hK K
        try simp only [Act.put, setIfInBounds_toArray, set_cons_zero, set_cons_succ]
        exact hcont (_, _) _ (Two.one _ _ _ _ _)
      · go_simp
        refine hK.out _ _ ?_ (fun hHeld => ?_)
        · exact ⟨(((Fr.refl (fun _ => False) _).drew.alloc _).cell (x := ⟨s.m, 2, none⟩) hml (fun h => h)).trans c2, (((Fr.refl (fun _ => False) _).drew.alloc _).cell (x := ⟨rt, 3, none⟩) hrl (fun h => h)).trans n3⟩
        clear hK K
        try simp only [Act.put, setIfInBounds_toArray, set_cons_zero, set_cons_succ]
        refine Last.one_ (i := 7) (N := some 101) #[Y,Y,Y,Y,Y,Y,Y,Y,Y,Y,Y,Z,Z,Z] rfl rfl (by kernel_rfl) (by decide) (fun K hK => ?_)
        go_simp
        refine hK.out _ _ ?_ (fun hHeld => ?_)
        · exact ⟨((((Fr.refl (fun _ => False) _).drew.alloc _).alloc _).cell (x := ⟨s.m, 2, none⟩) hml (fun h => h)).trans c2, ((((Fr.refl (fun _ => False) _).drew.alloc _).alloc _).cell (x := ⟨rt, 3, none⟩) hrl (fun h => h)).trans n3⟩
        clear hK K
        try simp only [Act.put, setIfInBounds_toArray, set_cons_zero, set_cons_succ]
        exact hcont (_, _) _ (Two.other _ _ _ _ _)
    obtain ⟨g0, g1⟩ := s
    try simp only [Last.putAll, Act.put, List.setIfInBounds_toArray, List.set_cons_zero, List.set_cons_succ]
    have hHeld : (fun w' => w'.cell? ⟨s.m, 2, none⟩ = some (.pointer (some ⟨rt, 0, none⟩)) ∧ w'.cell? ⟨rt, 3, none⟩ = some (.pointer (some ⟨qh, 0, none⟩))) wj := ⟨((Fr.trans (Fr.refl (fun _ => False) _).drew hTw.fr (fun _ h => h.elim)).cell (x := ⟨s.m, 2, none⟩) hml (fun h => h)).trans c2, ((Fr.trans (Fr.refl (fun _ => False) _).drew hTw.fr (fun _ h => h.elim)).cell (x := ⟨rt, 3, none⟩) hrl (fun h => h)).trans n3⟩
    refine Last.one_ (i := 11) (N := some 105) #[Y,Y,Y,Y,Y,Y,Y,Y,Y,Y,Y,Y,Z,Z] rfl rfl (by kernel_rfl) (by decide) (fun K hK => ?_)
    refine step_app (by rfl) _ _ _ (by rfl) 118 j0 _ 1 8 Try.underlying185 HJ0.out HY0.out HY1.out HY2.out rfl (by decide) (some (g0, 0)) 0 0 [] (by rfl) (fun h => absurd h (by simp)) (by simp)
            (fun b o hb => by cases hb; exact Ch.ok_empty _ _ _ _) ⟨g1, 0, none⟩ 2 2 [.pointer (some ⟨n, 0, none⟩), .pointer (some ⟨q, 0, none⟩)] (by rfl) (by decide) (by rfl) (fun j u hj => by rw [Addr.add_lit, Nat.zero_add]; exact hTw.bx.cell j hj) (by simp [Value.oneCell']) (by unfold maxLen; omega) (by omega) ?_
    intro v' w6 happ
    obtain ⟨g, gc, rfl, hg1, hg2, hgc, hok, hty, hF0⟩ := happ.fresh (by decide)
    have hF6 := Fr.trans hTw.fr hF0 (S := fun _ => False) (fun _ h => h.elim)
    have hgl : (w9).heap.size ≤ g := Nat.le_trans hTw.fr.size hg1
    clear happ hF0
    refine hK.out _ _ ?_ (fun hHeld => ?_)
    · exact ⟨((Fr.trans (Fr.refl (fun _ => False) _).drew hF6 (fun _ h => h.elim)).cell (x := ⟨s.m, 2, none⟩) hml (fun h => h)).trans c2, ((Fr.trans (Fr.refl (fun _ => False) _).drew hF6 (fun _ h => h.elim)).cell (x := ⟨rt, 3, none⟩) hrl (fun h => h)).trans n3⟩
    clear hK K hTw hg1
    try simp only [Act.put, setIfInBounds_toArray, set_cons_zero, set_cons_succ]
    refine Last.tk 12 106 #[Y,Y,Y,Y,Y,Y,Y,Y,Y,Y,Y,Y,Y,Z] rfl rfl hHeld ?_
    have k1 := ((Fr.trans (Fr.refl (fun _ => False) _).drew hF6 (fun _ h => h.elim)).cell (x := ⟨qh, 0, none⟩) hql (fun h => h)).trans h0
    have k2 := ((Fr.trans (Fr.refl (fun _ => False) _).drew hF6 (fun _ h => h.elim)).froz (x := ⟨qh, 0, none⟩) hql (fun h => h)).trans h0f
    refine Last.last_ (i := 13) (N := none) #[Y,Y,Y,Y,Y,Y,Y,Y,Y,Y,Y,Y,Y,Y] rfl rfl (by kernel_rfl) (by decide) (fun K hK => ?_)
    unfold sv
    go_simp
    refine hK.out _ _ ?_
    clear hK K hHeld
    try simp only [Act.put, setIfInBounds_toArray, set_cons_zero, set_cons_succ]
    refine Last.done_ (by kernel_rfl) ?_
    have hu10 := Upd.one w6 (b := qh) (o := 0) (.slice (some ⟨g, 0, none⟩) 2 gc) (by rw [M_of k1 k2]; rfl)
    obtain ⟨E10, R10⟩ := R9'.drew.new_kids N9 K9 [some n, some q] hgl hok.blt (by rw [Nat.mul_one] at hok; exact hok) (by simpa using hgc) hF6 hu10
    have B10 := B9.drew.keep E10.fr hnb9
    have M10 := M9.drew.keep E10.fr hmd9
    have Y10 := (E10.fr.ty _ B9.1).trans Y9
    generalize (fun i => S9 i ∨ i = g) = S10 at R10 E10
    have hnb10 : ¬ S10 (w.heap.size + 1 + 1) := fun h => (E10.new _ h).elim hnb9 (fun h' => by have := B9.1; have e : w9.drew.heap.size = w9.heap.size := rfl; omega)
    have hmd10 : ¬ S10 mb := fun h => (E10.new _ h).elim hmd9 (fun h' => by have := M9.1; have e : w9.drew.heap.size = w9.heap.size := rfl; omega)
    have EE10 := EE9.drew.trans E10
    rw [Sto.setNd_again] at R10
    clear R9' B9 M9 EE9 N9 c2 n3 h0 h0f hml hrl hql hok hgl hty hF6 k1 k2 hu10 E10 hnb9 hmd9 hgc Y9
    generalize w6.setCell ⟨qh, 0, none⟩ (.slice (some ⟨g, 0, none⟩) 2 gc) = w10 at R10 B10 M10 EE10 Y10 ⊢
    obtain ⟨r10, hr10⟩ : ∃ r10 : NodeR It, r10 = { r9 with kids := some ⟨qh, some (g, 0), gc, [some n, some q]⟩ } := ⟨_, rfl⟩
    have R10' : RepS E S10 w10 (sB.setNd rt r10) := by rw [hr10]; exact R10
    have N10 : (sB.setNd rt r10).nd rt = some r10 := Sto.nd_same _ _ _
    have K10 : r10.kids = some ⟨qh, some (g, 0), gc, [some n, some q]⟩ := by rw [hr10]
    have hib10 : r10.ib = none ∧ r10.items = [] ∧ r10.icap = 0 := by rw [hr10, hr9]; exact ⟨rfl, rfl, rfl⟩
    have c2 : w10.cell? ⟨s.m, 2, none⟩ = some (.pointer (some ⟨rt, 0, none⟩)) := by
      have := (mcell R10').2.2.2.1
      rw [Sto.m_setNd, hmB, Sto.mp_setNd, hmpB] at this; exact this
    have n2 : w10.cell? ⟨rt, 2, none⟩ = some (.slice none 0 0) := by
      have := (ncell R10' N10).2.2.2.1
      rw [hib10.1, hib10.2.1, hib10.2.2] at this; exact this
    have n2f : w10.frozen? ⟨rt, 2, none⟩ = false := (R10'.node N10).froz 2 rfl
    have e1 := M10.cell 0 rfl
    have hml : s.m < w10.heap.size := by have := (mcell R10').1; rwa [Sto.m_setNd, hmB] at this
    have hrl : rt < w10.heap.size := (ncell R10' N10).1
    have hbl : mb < w10.heap.size := M10.1
    have HBL := hidp B10.1
    clear R10
    go_wp2_with fail
    refine Last.start_ (S := fun w' => w'.cell? ⟨s.m, 2, none⟩ = some (.pointer (some ⟨rt, 0, none⟩)) ∧ w'.cell? ⟨mb, 0, none⟩ = some (Value.int .i64 md.1)) (ds := [10]) #[Z,Z,Z,Z,Z,Z,Z,Z,Z,Z,Z] (by rfl) (by rfl) (by rfl) ⟨((Fr.refl (fun _ => False) _).drew.cell (x := ⟨s.m, 2, none⟩) hml (fun h => h)).trans c2, ((Fr.refl (fun _ => False) _).drew.cell (x := ⟨mb, 0, none⟩) hbl (fun h => h)).trans e1⟩ (fun hHeld => ?_)
    refine Last.tk 0 107 #[Y,Z,Z,Z,Z,Z,Z,Z,Z,Z,Z] rfl rfl hHeld ?_
    refine Last.tk 1 108 #[Y,Y,Z,Z,Z,Z,Z,Z,Z,Z,Z] rfl rfl hHeld ?_
    refine Last.tk 2 109 #[Y,Y,Y,Z,Z,Z,Z,Z,Z,Z,Z] rfl rfl hHeld ?_
    refine Last.tk 3 110 #[Y,Y,Y,Y,Z,Z,Z,Z,Z,Z,Z] rfl rfl hHeld ?_
    refine Last.tk 5 112 #[Y,Y,Y,Y,Z,Y,Z,Z,Z,Z,Z] rfl rfl hHeld ?_
    refine Last.join_ (σ := Nat × Nat) 4 #[Y,Y,Y,Y,Y,Y,Y,Z,Z,Z,Z] (fun s => [(111, .slice (some ⟨s.1, 0, none⟩) 0 0), (113, .slice (some ⟨s.2, 0, none⟩) 1 1)]) (fun s W => Two (w10).drew W s.1 s.2 [Value.int .i64 md.1]) (fun s wj hTw => ?_) (fun hcont => ?_)
    rotate_left
    · refine Last.two_ (i := 4) (j := 6) (Ni := some 111) (Nj := some 113) #[Y,Y,Y,Y,Y,Y,Z,Z,Z,Z,Z] #[Y,Y,Y,Y,Z,Y,Y,Z,Z,Z,Z] rfl rfl rfl rfl (by kernel_rfl) (by decide) (by decide) (fun K hK => ?_) (fun K hK => ?_)
      · go_simp
        refine hK.out _ _ ?_ (fun hHeld => ?_)
        · exact ⟨(((Fr.refl (fun _ => False) _).drew.alloc _).cell (x := ⟨s.m, 2, none⟩) hml (fun h => h)).trans c2, (((Fr.refl (fun _ => False) _).drew.alloc _).cell (x := ⟨mb, 0, none⟩) hbl (fun h => h)).trans e1⟩
        clear hK K
        try simp only [Act.put, setIfInBounds_toArray, set_cons_zero, set_cons_succ]
        refine Last.one_ (i := 6) (N := some 113) #[Y,Y,Y,Y,Y,Y,Y,Z,Z,Z,Z] rfl rfl (by kernel_rfl) (by decide) (fun K hK => ?_)
        go_simp
        refine hK.out _ _ ?_ (fun hHeld => ?_)
        · exact ⟨((((Fr.refl (fun _ => False) _).drew.alloc _).alloc _).cell (x := ⟨s.m, 2, none⟩) hml (fun h => h)).trans c2, ((((Fr.refl (fun _ => False) _).drew.alloc _).alloc _).cell (x := ⟨mb, 0, none⟩) hbl (fun h => h)).trans e1⟩
        clear hK K
        try simp only [Act.put, setIfInBounds_toArray, set_cons_zero, set_cons_succ]
        exact hcont (_, _) _ (Two.one _ _ _ _ _)
      · go_simp
        refine hK.out _ _ ?_ (fun hHeld => ?_)
        · exact ⟨(((Fr.refl (fun _ => False) _).drew.alloc _).cell (x := ⟨s.m, 2, none⟩) hml (fun h => h)).trans c2, (((Fr.refl (fun _ => False) _).drew.alloc _).cell (x := ⟨mb, 0, none⟩) hbl (fun h => h)).trans e1⟩
        clear hK K
        try simp only [Act.put, setIfInBounds_toArray, set_cons_zero, set_cons_succ]
        refine Last.one_ (i := 4) (N := some 111) #[Y,Y,Y,Y,Y,Y,Y,Z,Z,Z,Z] rfl rfl (by kernel_rfl) (by decide) (fun K hK => ?_)
        go_simp
        refine hK.out _ _ ?_ (fun hHeld => ?_)
        · exact ⟨((((Fr.refl (fun _ => False) _).drew.alloc _).alloc _).cell (x := ⟨s.m, 2, none⟩) hml (fun h => h)).trans c2, ((((Fr.refl (fun _ => False) _).drew.alloc _).alloc _).cell (x := ⟨mb, 0, none⟩) hbl (fun h => h)).trans e1⟩
        clear hK K
        try simp only [Act.put, setIfInBounds_toArray, set_cons_zero, set_cons_succ]
        exact hcont (_, _) _ (Two.other _ _ _ _ _)
    obtain ⟨g0, g1⟩ := s
    try simp only [Last.putAll, Act.put, List.setIfInBounds_toArray, List.set_cons_zero, List.set_cons_succ]
    have hHeld : (fun w' => w'.cell? ⟨s.m, 2, none⟩ = some (.pointer (some ⟨rt, 0, none⟩)) ∧ w'.cell? ⟨mb, 0, none⟩ = some (Value.int .i64 md.1)) wj := ⟨((Fr.trans (Fr.refl (fun _ => False) _).drew hTw.fr (fun _ h => h.elim)).cell (x := ⟨s.m, 2, none⟩) hml (fun h => h)).trans c2, ((Fr.trans (Fr.refl (fun _ => False) _).drew hTw.fr (fun _ h => h.elim)).cell (x := ⟨mb, 0, none⟩) hbl (fun h => h)).trans e1⟩
    refine Last.one_ (i := 7) (N := some 114) #[Y,Y,Y,Y,Y,Y,Y,Y,Z,Z,Z] rfl rfl (by kernel_rfl) (by decide) (fun K hK => ?_)
    refine step_app (by rfl) _ _ _ (by rfl) 120 i0 _ 1 8 Try.underlying181 HI0.out HZ0.out HZ1.out HZ2.out rfl (by decide) (some (g0, 0)) 0 0 [] (by rfl) (fun h => absurd h (by simp)) (by simp)
            (fun b o hb => by cases hb; exact Ch.ok_empty _ _ _ _) ⟨g1, 0, none⟩ 1 1 [Value.int .i64 md.1] (by rfl) (by decide) (by rfl) (fun j u hj => by rw [Addr.add_lit, Nat.zero_add]; exact hTw.bx.cell j hj) (by simp [Value.oneCell']) (by unfold maxLen; omega) (by omega) ?_
    intro v' w6 happ
    obtain ⟨g_, gc_, rfl, hg1, hg2, hgc, hok, hty, hF0⟩ := happ.fresh (by decide)
    have hF6 := Fr.trans hTw.fr hF0 (S := fun _ => False) (fun _ h => h.elim)
    have hgl : (w10).heap.size ≤ g_ := Nat.le_trans hTw.fr.size hg1
    clear happ hF0
    refine hK.out _ _ ?_ (fun hHeld => ?_)
    · exact ⟨((Fr.trans (Fr.refl (fun _ => False) _).drew hF6 (fun _ h => h.elim)).cell (x := ⟨s.m, 2, none⟩) hml (fun h => h)).trans c2, ((Fr.trans (Fr.refl (fun _ => False) _).drew hF6 (fun _ h => h.elim)).cell (x := ⟨mb, 0, none⟩) hbl (fun h => h)).trans e1⟩
    clear hK K hTw hg1
    try simp only [Act.put, setIfInBounds_toArray, set_cons_zero, set_cons_succ]
    refine Last.tk 8 115 #[Y,Y,Y,Y,Y,Y,Y,Y,Y,Z,Z] rfl rfl hHeld ?_
    refine Last.tk 9 116 #[Y,Y,Y,Y,Y,Y,Y,Y,Y,Y,Z] rfl rfl hHeld ?_
    have k1 := ((Fr.trans (Fr.refl (fun _ => False) _).drew hF6 (fun _ h => h.elim)).cell (x := ⟨rt, 2, none⟩) hrl (fun h => h)).trans n2
    have k2 := ((Fr.trans (Fr.refl (fun _ => False) _).drew hF6 (fun _ h => h.elim)).froz (x := ⟨rt, 2, none⟩) hrl (fun h => h)).trans n2f
    refine Last.last_ (i := 10) (N := none) #[Y,Y,Y,Y,Y,Y,Y,Y,Y,Y,Y] rfl rfl (by kernel_rfl) (by decide) (fun K hK => ?_)
    unfold sv
    go_simp
    refine hK.out _ _ ?_
    clear hK K hHeld
    try simp only [Act.put, setIfInBounds_toArray, set_cons_zero, set_cons_succ]
    refine Last.done_ (by kernel_rfl) ?_
    have hu11 := Upd.one w6 (b := rt) (o := 2) (.slice (some ⟨g_, 0, none⟩) 1 gc_) (by rw [M_of k1 k2]; rfl)
    obtain ⟨E11, R11⟩ := R10'.drew.new_items N10 [md] hgl hok.blt hok hty (by simpa using hgc) hF6 hu11
    have B11 := B10.drew.keep E11.fr hnb10
    have Y11 := (E11.fr.ty _ B10.1).trans Y10
    have EE11 := EE10.drew.trans E11
    rw [Sto.setNd_again] at R11
    clear R10' B10 M10 EE10 N10 c2 n2 n2f e1 hml hrl hbl hok hgl hty hF6 k1 k2 hu11 hmd10 hgc Y10
    generalize (fun i => S10 i ∨ i = g_) = S11 at R11 EE11 E11
    have hnb11 : ¬ S11 (w.heap.size + 1 + 1) := fun h => (E11.new _ h).elim hnb10 (fun h' => by have h1 := B11.1; have := HBL.out; have e : w10.drew.heap.size = w10.heap.size := rfl; omega)
    clear E11 hnb10
    generalize w6.setCell ⟨rt, 2, none⟩ (.slice (some ⟨g_, 0, none⟩) 1 gc_) = w11 at R11 B11 EE11 Y11 ⊢
    obtain ⟨r11, hr11⟩ : ∃ r11 : NodeR It, r11 = { r10 with items := [md], ib := some (g_, 0), icap := gc_ } := ⟨_, rfl⟩
    rw [← hr11] at R11
    have N11 : (sB.setNd rt r11).nd rt = some r11 := Sto.nd_same _ _ _
    have K11 : r11.kids = some ⟨qh, some (g, 0), gc, [some n, some q]⟩ := by rw [hr11]; exact K10
    have I11 : r11.items = [md] ∧ r11.ib = some (g_, 0) ∧ r11.icap = gc_ ∧ r11.iso = s5.mp.iso := by rw [hr11, hr10, hr9]; exact ⟨rfl, rfl, rfl, rfl⟩
    clear hr9 hr10 hr11 hib10 K9 K10
    have c2 : w11.cell? ⟨s.m, 2, none⟩ = some (.pointer (some ⟨rt, 0, none⟩)) := by
      have := (mcell R11).2.2.2.1
      rw [Sto.m_setNd, hmB, Sto.mp_setNd, hmpB] at this; exact this
    have T1' : ∀ r, Tr (sB.setNd rt r).nd s.mp.iso h n tl il := fun r => T1.keep fun k hk => by
      obtain ⟨rk, hk', _⟩ := T1.mem k hk
      rw [Sto.nd_ne _ _ (HNRT.out k rk hk'), hndB]
    have T2' : ∀ r, Tr (sB.setNd rt r).nd s.mp.iso h q tr ir := fun r => T2.keep fun k hk => by
      obtain ⟨rk, hk', _⟩ := T2.mem k hk
      rw [Sto.nd_ne _ _ (HNRT.out k rk hk'), hndB]
    have hmem : ∀ k ∈ il ++ ir, k ≠ rt := fun k hk => by
      rcases List.mem_append.1 hk with h' | h'
      · obtain ⟨rk, hk', _⟩ := T1.mem k h'
        exact HNRT.out k rk hk'
      · obtain ⟨rk, hk', _⟩ := T2.mem k h'
        exact HNRT.out k rk hk'
    obtain ⟨hni, rn, hrn, _, _, hcn, _⟩ := (T1' r11).root
    obtain ⟨hqi, rq, hrq, _, _, hcq, _⟩ := (T2' r11).root
    have hsum : (BT.all h t).length = (BT.all h tl).length + 1 + (BT.all h tr).length := by
      rw [← HALL2.out]
      show (weave [md] [BT.all h tl, BT.all h tr]).length = _
      simp [weave]; omega
    have hgc2 : 2 ≤ gc := (R11.wf _ _ N11).2.2.2 _ K11
    have hci := count_inner (w := w11) (q := rt) (hd := qh) (b := g) (o := 0) (ib := some (g_, 0)) (len := 1) (cap := gc_) (kcap := gc) (ps := [n, q]) (cs := [((BT.all h tl).length : Int), ((BT.all h tr).length : Int)])
      ((R11.node N11).2 1 _ rfl) (by have := (R11.node N11).2 2 _ rfl; rw [I11.1, I11.2.1, I11.2.2.1] at this; exact this) (by have := (R11.node N11).2 3 _ rfl; rw [K11] at this; exact this) ((R11.hdr N11 K11).2 0 _ rfl)
      (fun j p hp => by
        have hk := R11.kid N11 K11 (b := g) (o := 0) rfl (i := j) (p := some p)
        match j, hp with
        | 0, hp =>
          obtain rfl := Option.some.inj hp
          refine ⟨hk rfl, hmem _ (List.mem_append.2 (.inl hni)), _, rfl, ?_⟩
          have := (R11.node hrn).2 1 _ rfl
          rw [hcn] at this; exact this
        | 1, hp =>
          obtain rfl := Option.some.inj hp
          refine ⟨hk rfl, hmem _ (List.mem_append.2 (.inr hqi)), _, rfl, ?_⟩
          have := (R11.node hrq).2 1 _ rfl
          rw [hcq] at this; exact this
        | j + 2, hp => simp at hp)
      (fun j hj => R11.arr_ne_node N11 K11 rfl N11 (by have hj' : j < 2 := hj; show j < gc; omega) (by decide))
      (fun c hc => by simp only [List.mem_cons, List.not_mem_nil, or_false] at hc; rcases hc with rfl | rfl <;> exact Int.natCast_nonneg _)
      rfl (by have := HT.out.2; simp only [List.sum_cons, List.sum_nil]; omega) (by simp)
    go_wp2_with fail
    refine hci.mono ?_
    rintro e w12 ⟨rfl, dm, w13, rfl, hu13⟩
    have hcs : ((1 : Nat) : Int) + [((BT.all h tl).length : Int), ((BT.all h tr).length : Int)].sum = (((BT.all h t).length : Nat) : Int) := by rw [hsum]; simp only [List.sum_cons, List.sum_nil]; omega
    rw [hcs] at hu13
    have R12 := (R11.set_count N11 _ hu13).drewN dm
    rw [Sto.setNd_again] at R12
    have E12 := (EE11.upd hu13 (.inl (R11.inS_node N11))).drewN dm
    have B12 := (B11.keep hu13.fr (fun e => hnb11 (e ▸ R11.inS_node N11))).drewN dm
    have Y12 : bty (w13.drewN dm) (w.heap.size + 1 + 1) = some 120 := (hu13.fr.ty _ B11.1).trans Y11
    have T12 : Tr (sB.setNd rt { r11 with count := ((BT.all h t).length : Nat) }).nd s.mp.iso (h + 1) rt (([md], [tl, tr]) : BT It (h + 1)) (rt :: [il, ir].flatten) := by
      refine ⟨_, _, [n, q], [il, ir], Sto.nd_same _ _ _, ?_, I11.1, K11, rfl, ?_, rfl, rfl, rfl, fun i p c is hp hc hi => ?_⟩
      · show r11.iso = _; rw [I11.2.2.2, hmp5]
      · show ((BT.all h t).length : Int) = _; rw [HALL2.out]
      · match i, hp, hc, hi with
        | 0, hp, hc, hi =>
          obtain rfl := Option.some.inj hp
          obtain rfl := Option.some.inj hc
          obtain rfl := Option.some.inj hi
          exact T1' _
        | 1, hp, hc, hi =>
          obtain rfl := Option.some.inj hp
          obtain rfl := Option.some.inj hc
          obtain rfl := Option.some.inj hi
          exact T2' _
        | i + 2, hp, _, _ => simp at hp
    have hfin := set_nodeT hD hD2 R12 (n := rt) (t := (([md], [tl, tr]) : BT It (h + 1))) (by rw [Sto.mp_setNd, hmpB]) (by rw [Sto.mp_setNd, hmpB]; exact T12) (by
        refine List.nodup_cons.2 ⟨fun h' => hmem rt (by simpa using h') rfl, by simpa using hdd⟩) HOK2.out (by rw [HALL2.out]; exact HT.out.1) (by rw [Sto.mp_setNd, hmpB]; exact HMN.out) (by rw [Sto.mp_setNd, hmpB]; exact HMX.out) (by rw [HALL2.out]; exact HT.out.2) (by rw [Sto.mp_setNd, hmpB, HALL2.out]; exact HC.out) x HNE2.out
    rw [Sto.m_setNd, hmB, HALL2.out] at hfin
    have HFIN := hidp (hfin.mono fun e w' hp => SetPostP.from (s := s) (SetPostP.mono (Pt' := StepS D t x s.mp.iso) (fun s' hs => ⟨tl, md, tr, HSPL.out, by rw [Sto.mp_setNd, hmpB] at hs; exact hs⟩) hp) E12 (by rw [Sto.m_setNd]; exact hmB) (by rw [Sto.mp_setNd, hmpB]) (by rw [Sto.mp_setNd, hmpB]))
    have d1 := B12.cell 0 rfl
    have hpp := part_pair 0 Y12
    clear R11 N11 K11 I11 R12 E12 B12 T12 hfin hci hcs hu13 hsum hgc2 T1 T2 T1' T2' hmem hdd EE11 B11 hnb11 c2 hrn hrq hcn hcq hni hqi Y11 Y12
    generalize w13.drewN dm = w14 at *
    go_wp2_with fail
    refine HFIN.out.mono ?_
    intro e w' hpo
    obtain ⟨vv, bb, rfl⟩ := hpo.form
    have HPO := hidp hpo
    clear hpo
    go_wp2
    refine bodyPost_ret (v := .tuple #[Value.agg #[], .bool bb]) (by simp [results, Try.results97, go_sem]) rfl ?_
    exact HPO.out

/-- 'Set' where the root is split, of the items alone. -/
theorem set_split {D : Nat} (hD : 2 ≤ D) (hD2 : D ≤ 400) (R : RepS E S w s) {h n : Nat} {t : BT It h} {ids : List Nat} (hr : s.mp.root = some n) (T : Tr s.nd s.mp.iso h n t ids) (hd : ids.Nodup) (hok : BT.ok (D - 1) (2 * D - 1) 1 h t) (hs : Srt lt (BT.all h t)) (hmn : s.mp.mn = ((D - 1 : Nat) : Int)) (hmx : s.mp.mx = ((2 * D - 1 : Nat) : Int))
    (hb : (BT.all h t).length ≤ 100000000000) (hc : s.mp.count = ((BT.all h t).length : Nat)) (x : It) (he : insN lt (2 * D - 1) h t x = .split) :
    Calls Try.prog 97 #[.pointer (some ⟨s.m, 0, none⟩), Value.int .i64 x.1, Value.agg #[]] w (SetPost D S w s (BT.all h t) x) :=
  (set_splitT hD hD2 R hr T hd hok hs hmn hmx hb hc x he).mono fun _ _ h => h.post

end Go.Proofs.Ytbjhnefienjncaa.Bt.IU
