/- Maps of numbers (sets): 'Delete', whole. -/
import Derived.Test.YtbjhnefienjncaaBtIUd5
import Derived.Test.YtbjhnefienjncaaBtIUkz
namespace Go.Proofs.Ytbjhnefienjncaa.Bt.IU
set_option linter.unusedVariables false
set_option linter.unusedSimpArgs false
open Go Go.RowKit Go.Proofs.Ytbjhnefienjncaa.Bt

section
variable {I : Type} {E : Enc I} {S0 : Nat → Prop} {w0 w : World} {s0 : Sto I} {BX : List (Nat × List Value)} {L : List (Nat × NodeR I)}
/-- A field of the map is written. -/
theorem KB.mp (K : KB E S0 w0 s0 BX [] w) (r' : MapR) {off : Nat} (v : Value) (hoff : off < E.sz + 8) (hv : mapCells E r' = (mapCells E s0.mp).set off v) : KB E S0 w0 (s0.setMp r') BX [] (w.setCell ⟨s0.m, off, none⟩ v) := by
  obtain ⟨S, s, R, h, a, b, c, d, e, f⟩ := K
  obtain ⟨E1, R1⟩ := R.put_mp r' (off := off) v hoff (by rw [d]; exact hv)
  rw [c] at E1 R1
  exact ⟨S, s.setMp r', R1, h.trans E1, (fun _ _ h => by simp at h), b, c, rfl, e, f.step E1⟩
theorem KB.start0 {S : Nat → Prop} {s : Sto I} (R : RepS E S w s) : KB E S w s [] [] w := KB.start R (fun _ _ h => by simp at h) (by simp)
/-- What a call has left. -/
theorem KB.called {S2 S3 : Nat → Prop} {w2 w3 : World} {s3 : Sto I} (hE2 : Ext S0 w0 S2 w2) (hbx : Boxes S2 w0 w2 BX) (hE3 : Ext S2 w2 S3 w3) (R3 : RepS E S3 w3 s3) : KB E S0 w0 s3 BX [] w3 :=
  ⟨S3, s3, R3, hE2.trans hE3, fun a r' h => by simp at h, by simp, rfl, rfl, fun _ _ => rfl, hbx.step hE3⟩
end

variable {S : Nat → Prop} {w : World} {s : Sto It}

theorem cut_sub (l : List It) (x : It) : (cut lt l x).Sublist l := by
  unfold cut
  conv => rhs; rw [← List.take_append_drop (pos lt l x) l]
  exact List.Sublist.append (List.Sublist.refl _) (by rw [← List.drop_drop]; exact List.drop_sublist _ _)

/-- What 'Delete' leaves. -/
def DelPost (D : Nat) (S : Nat → Prop) (w : World) (s : Sto It) (l : List It) (x : It) (e : Ending) (w' : World) : Prop :=
  ∃ S' s', e = .returned (.tuple #[SetVal l x, .bool (fnd lt l x)]) ∧ Ext S w S' w' ∧ MapIs D S' w' s' (cut lt l x) ∧ s'.m = s.m ∧ s'.mp.iso = s.mp.iso ∧ s'.mp.ctr = s.mp.ctr
/-- The map's tree holds the items l; its height is h, or one less than h, or there is no node and h is 0. -/
def TreeH (D h : Nat) (s' : Sto It) (l : List It) : Prop :=
  (s'.mp.root = none ∧ l = [] ∧ h = 0) ∨ ∃ h' n t ids, (h' = h ∨ h' + 1 = h) ∧ s'.mp.root = some n ∧ Tr s'.nd s'.mp.iso h' n t ids ∧ ids.Nodup ∧ BT.ok (D - 1) (2 * D - 1) 1 h' t ∧ l = BT.all h' t
theorem TreeH.tree {D h : Nat} {s' : Sto It} {l : List It} (h : TreeH D h s' l) : (s'.mp.root = none ∧ l = []) ∨ ∃ h n t ids, s'.mp.root = some n ∧ Tr s'.nd s'.mp.iso h n t ids ∧ ids.Nodup ∧ BT.ok (D - 1) (2 * D - 1) 1 h t ∧ l = BT.all h t := by
  rcases h with ⟨h1, h2, _⟩ | ⟨h', n, t, ids, _, h⟩
  · exact .inl ⟨h1, h2⟩
  · exact .inr ⟨h', n, t, ids, h⟩
/-- .. and how high the tree is that is left. -/
def DelPostH (D h : Nat) (S : Nat → Prop) (w : World) (s : Sto It) (l : List It) (x : It) (e : Ending) (w' : World) : Prop :=
  ∃ S' s', e = .returned (.tuple #[SetVal l x, .bool (fnd lt l x)]) ∧ Ext S w S' w' ∧ MapIs D S' w' s' (cut lt l x) ∧ s'.m = s.m ∧ s'.mp.iso = s.mp.iso ∧ s'.mp.ctr = s.mp.ctr ∧ TreeH D h s' (cut lt l x)
theorem DelPostH.post {D h : Nat} {l : List It} {x : It} {e : Ending} {w' : World} (p : DelPostH D h S w s l x e w') : DelPost D S w s l x e w' := by
  obtain ⟨S', s', h1, h2, h3, h4, h5, h6, _⟩ := p
  exact ⟨S', s', h1, h2, h3, h4, h5, h6⟩
theorem del_post {D hh : Nat} {BX : List (Nat × List Value)} {s' : Sto It} {l : List It} {x : It} {e : Ending} {wF : World} (K : KB E S w s' BX [] wF) (hm : s'.m = s.m) (h1 : s'.mp.iso = s.mp.iso) (h2 : s'.mp.ctr = s.mp.ctr) (he : e = .returned (.tuple #[SetVal l x, .bool (fnd lt l x)])) (hs : Srt lt l)
    (hcnt : s'.mp.count = ((cut lt l x).length : Nat)) (hmm : (s'.mp.mn = 0 ∧ D = 32 ∧ s'.mp.root = none) ∨ (s'.mp.mn = ((D - 1 : Nat) : Int) ∧ s'.mp.mx = ((2 * D - 1 : Nat) : Int)))
    (ht : TreeH D hh s' (cut lt l x)) : DelPostH D hh S w s l x e wF := by
  obtain ⟨S2, s2, R2, E2, _, _, e1, e2, e3, _⟩ := K.ex
  have e4 : s2.nd = s'.nd := funext fun z => e3 z (by simp)
  have ht2 : TreeH D hh s2 (cut lt l x) := by unfold TreeH; rw [e2, e4]; exact ht
  rw [← e2] at h1 h2 hcnt hmm
  exact ⟨S2, s2, he, E2, ⟨R2, hs.sublist (cut_sub l x), hcnt, hmm, ht2.tree⟩, e1.trans hm, h1, h2, ht2⟩

set_option maxHeartbeats 1000000 in
set_option maxRecDepth 100000 in
/-- 'Delete' where the map has no node. -/
theorem delete_none {D : Nat} (m : MapIs D S w s []) (hr : s.mp.root = none) (x : It) :
    Calls Try.prog 64 #[.pointer (some ⟨s.m, 0, none⟩), Value.int .i64 x.1] w (DelPostH D 0 S w s [] x) := by
  have R := m.rep
  obtain ⟨hmlt, _, _, m2, m3, m4, _⟩ := mcell R
  have m2' : w.cell? ⟨s.m, 2, none⟩ = some (.pointer none) := by rw [m2, hr]; rfl
  have K1 := (KB.start0 R).box [] 82
  have hpe := part_empty (R.alloc (.cells #[] 82))
  have KF := K1
  have hzb : ∀ a : Array Value, Array.foldl (fun (cs : Array Value) (x : Value × Nat) => cs.setIfInBounds x.snd x.fst) a (#[] : Array Value).zipIdx 0 0 = a := fun _ => rfl
  have HKF := hidp KF
  have HM := hidp m
  have HRT := hidp hr
  clear m R K1 KF hr m2
  go_enter Try.func64, Try.ntmps64
  go_wp2
  refine bodyPost_ret (v := .tuple #[Value.agg #[], .bool false]) (by simp [results, Try.results64, go_sem]) rfl ?_
  have hc : cut lt ([] : List It) x = [] := rfl
  refine del_post HKF.out rfl rfl rfl rfl List.Pairwise.nil ?_ HM.out.mm (.inl ⟨HRT.out, hc, rfl⟩)
  rw [hc]; exact HM.out.cnt

theorem all_nil {h : Nat} {t : BT It (h + 1)} {c : BT It h} (h1 : t.1 = []) (h2 : t.2 = [c]) : BT.all (h + 1) t = BT.all h c := by
  show weave t.1 (t.2.map (BT.all h)) = _
  rw [h1, h2]; simp [weave]

theorem its_le {h : Nat} (t : BT It h) : (BT.its t).length ≤ (BT.all h t).length := by
  cases h with
  | zero => exact Nat.le_refl _
  | succ h =>
    have h1 := all_length t
    have h2 : (BT.its t).length = t.1.length := rfl
    have h3 : (0 : Int) ≤ (cnts t.2).sum := by
      have hn := cnts_nonneg t.2
      generalize cnts t.2 = cs at hn
      induction cs with
      | nil => simp
      | cons c cs ih => rw [List.sum_cons]; have a := hn c (by simp); have b := ih (fun d hd => hn d (by simp [hd])); omega
    omega

set_option maxHeartbeats 4000000 in
set_option maxRecDepth 100000 in
/-- 'Delete' where the map has a node. -/
theorem delete_node {D : Nat} (hD : 2 ≤ D) (hD2 : D ≤ 400) (R : RepS E S w s) {h n : Nat} {t : BT It h} {ids : List Nat} (hr : s.mp.root = some n) (T : Tr s.nd s.mp.iso h n t ids) (hd : ids.Nodup) (hok : BT.ok (D - 1) (2 * D - 1) 1 h t) (hs : Srt lt (BT.all h t)) (hmn : s.mp.mn = ((D - 1 : Nat) : Int)) (hmx : s.mp.mx = ((2 * D - 1 : Nat) : Int))
    (hb : (BT.all h t).length ≤ 100000000000) (hc : s.mp.count = ((BT.all h t).length : Nat)) (x : It) :
    Calls Try.prog 64 #[.pointer (some ⟨s.m, 0, none⟩), Value.int .i64 x.1] w (DelPostH D h S w s (BT.all h t) x) := by
  obtain ⟨hmlt, _, _, m2, m3, m4, _⟩ := mcell R
  have m2' : w.cell? ⟨s.m, 2, none⟩ = some (.pointer (some ⟨n, 0, none⟩)) := by rw [m2, hr]; rfl
  have K1 := (KB.start0 R).box [] 82
  have hDR := delN_ok ord (mn := D - 1) (mx := 2 * D - 1) (by omega) (by omega) h 1 t x (by omega) hok hs
  have HCA : Hid (Calls Try.prog 98 #[.pointer (some ⟨s.m, 0, none⟩), .pointer (some ⟨s.m, 2, none⟩), .bool false, Value.int .i64 x.1] (w.alloc (.cells #[] 82)) (fun e w' => ∃ s2 : Sto It, s2.m = s.m ∧ s2.mp = s.mp ∧ KB E S w s2 [(w.heap.size, [])] [] w' ∧
      ((delN lt (D - 1) (2 * D - 1) h t x = none ∧ e = .returned (.tuple #[.agg #[Value.int .i64 0], .bool false]) ∧ ∀ z, s2.nd z = s.nd z) ∨ ∃ t' y ids', delN lt (D - 1) (2 * D - 1) h t x = some (t', y) ∧ e = .returned (.tuple #[.agg #[Value.int .i64 y.1], .bool true]) ∧ Tr s2.nd s.mp.iso h n t' ids' ∧ ids'.Nodup))) := hidp (by
    obtain ⟨S1, s1, R1, hE1, _, _, hm1, hmp1, hnd1, hbx⟩ := K1.ex
    have hI := del_tr (mn := D - 1) (L := 2 * D - 1) (by omega) (by omega) (by omega) h R1 (A := ⟨s.m, 2, none⟩) (n := n) (by rw [← hm1, (mcell R1).2.2.2.1, hmp1, hr]) (t := t) (ids := ids) (by rw [hmp1]; exact T.keep fun z _ => hnd1 z (by simp)) hd (by omega) hok hs (by rw [hmp1]; exact hmx) (by rw [hmp1]; exact hmn) hb false x
    rw [hm1] at hI
    refine hI.mono ?_
    rintro e w' ⟨S2, s2, hE2, R2, hm2, hmp2, hres⟩
    refine ⟨s2, hm2.trans hm1, hmp2.trans hmp1, KB.called hE1 hbx hE2 R2, ?_⟩
    have e0 : delB (D - 1) (2 * D - 1) false h t x = delN lt (D - 1) (2 * D - 1) h t x := rfl
    rw [e0] at hres
    cases hdn : delN lt (D - 1) (2 * D - 1) h t x with
    | none =>
      rw [hdn] at hres
      exact .inl ⟨rfl, hres.1, fun z => (hres.2 z).trans (hnd1 z (by simp))⟩
    | some q =>
      obtain ⟨t', y⟩ := q
      rw [hdn] at hres
      obtain ⟨he, ids', T', hd', _, _⟩ := hres
      exact .inr ⟨t', y, ids', rfl, he, by rw [← hmp1]; exact T', hd'⟩)
  have hzb : ∀ a : Array Value, Array.foldl (fun (cs : Array Value) (x : Value × Nat) => cs.setIfInBounds x.snd x.fst) a (#[] : Array Value).zipIdx 0 0 = a := fun _ => rfl
  have HDR := hidp hDR
  have HT := hidp (And.intro T (And.intro hd (And.intro hs hb)))
  have HOK := hidp hok
  have HC := hidp hc
  have HRT := hidp hr
  have HMN := hidp hmn
  have HMX := hidp hmx
  clear hmn hmx R T hd hs hb m2 hok hr hc hDR K1
  go_enter Try.func64, Try.ntmps64
  go_wp2_with fail
  refine HCA.out.mono ?_
  rintro e w2 ⟨s2, hm2, hmp2, K2, hq⟩
  clear HCA m2' m3 m4 hmlt
  rcases hq with ⟨hdn, rfl, hnd2⟩ | ⟨t', y, ids', hdn, rfl, T', hd'⟩
  · have HDN := hidp (And.intro hdn (And.intro hm2 (And.intro hmp2 hnd2)))
    have K3 := K2.box [Value.int .i64 0] 120
    have hPE : Hid (w.heap.size < w2.heap.size) := hidp (K2.bx (b := w.heap.size) (vs := []) (by simp)).1
    obtain ⟨_, _, R2, _, _, _, hm2', _⟩ := K3.ex
    have hpe := part_empty R2
    rw [hm2', hm2] at hpe
    have KF := K3
    have HKF := hidp KF
    have hmlt2 := K2.map.1.1
    rw [hm2] at hmlt2
    clear K2 K3 KF hdn hm2 hmp2 hnd2 R2 hm2'
    go_wp2
    refine bodyPost_ret (v := .tuple #[Value.agg #[], .bool false]) (by simp [results, Try.results64, go_sem]) rfl ?_
    obtain ⟨hdn, hm2, hmp2, hnd2⟩ := HDN.out
    have hlk : look lt (BT.all h t) x = none := by have h := HDR.out; rw [hdn] at h; exact h
    have hct := cut_none hlk
    refine del_post HKF.out hm2 (by rw [hmp2]) (by rw [hmp2]) ?_ HT.out.2.2.1 (by rw [hmp2, HC.out, hct]) (.inr (by rw [hmp2]; exact ⟨HMN.out, HMX.out⟩)) (.inr ⟨h, n, t, ids, .inl rfl, by rw [hmp2]; exact HRT.out, ?_, HT.out.2.1, HOK.out, hct⟩)
    · rw [fnd_none hlk]; unfold SetVal; rw [hlk]
    · rw [hmp2]; exact HT.out.1.keep fun z _ => hnd2 z
  · have hD' : look lt (BT.all h t) x = some y ∧ BT.all h t' = cut lt (BT.all h t) x ∧ BT.ok (D - 1) (2 * D - 1) (1 - 1) h t' := by have h := HDR.out; rw [hdn] at h; exact h
    obtain ⟨hlk, hall, hok'⟩ := hD'
    have hcl := cut_len hlk
    obtain ⟨_, rn, hrn, hrn1, hrn2, hrn3, hrn4⟩ := T'.root
    have K3 := K2.box [Value.int .i64 y.1] 120
    have hbq : w.heap.size < w2.heap.size := (K2.bx (b := w.heap.size) (vs := []) (by simp)).1
    have HQ := hidp (And.intro hm2 (And.intro hmp2 (And.intro hlk (And.intro hall (And.intro hok' (And.intro T' hd'))))))
    have HBT := hidp (bty_alloc_new w2 #[Value.int .i64 y.1] 120)
    go_upto_if 28 with (fail)
    generalize (w2.alloc (.cells #[Value.int .i64 y.1] 120)) = w3 at K3 HBT ⊢
    generalize w2.heap.size = bq at K3 HBT hbq ⊢
    clear K2
    have hmlt : s.m < w3.heap.size := by rw [← hm2]; exact K3.map.1.1
    have c2 : w3.cell? ⟨s.m, 2, none⟩ = some (.pointer (some ⟨n, 0, none⟩)) := by
      have h := K3.map.1.cell 2 (v := pv s2.mp.root) rfl
      rw [hm2, hmp2, HRT.out] at h; exact h
    have c3 : w3.cell? ⟨s.m, 3, none⟩ = some (.int .i64 s2.mp.count) := by rw [← hm2]; exact K3.map.1.cell 3 rfl
    have f3 : w3.frozen? ⟨s.m, 3, none⟩ = false := by rw [← hm2]; exact K3.map.1.froz 3 (v := .int .i64 s2.mp.count) rfl
    have f2 : w3.frozen? ⟨s.m, 2, none⟩ = false := by rw [← hm2]; exact K3.map.1.froz 2 (v := pv s2.mp.root) rfl
    have hms : ¬ s.m = w.heap.size := by
      obtain ⟨S3, s3, R3, _, _, _, e1, _, _, hbx⟩ := K3.ex
      intro e
      exact (hbx (w.heap.size, []) (by simp)).2.1 (by rw [← e, ← hm2, ← e1]; exact R3.inS_map)
    have hmq : ¬ s.m = bq := by
      obtain ⟨S3, s3, R3, _, _, _, e1, _, _, hbx⟩ := K3.ex
      intro e
      exact (hbx (bq, [Value.int .i64 y.1]) (by simp)).2.1 (by rw [← e, ← hm2, ← e1]; exact R3.inS_map)
    have hms' : ¬ w.heap.size = s.m := fun e => hms e.symm
    have hmq' : ¬ bq = s.m := fun e => hmq e.symm
    have d1 := (K3.bx (b := bq) (vs := [Value.int .i64 y.1]) (by simp)).cell 0 rfl
    have hcw : s2.mp.count = ((cut lt (BT.all h t) x).length : Nat) + 1 := by rw [hmp2, HC.out]; omega
    have hcb : (cut lt (BT.all h t) x).length ≤ 100000000000 := by have := HT.out.2.2.2; omega
    have hwc : IntKind.i64.wrap (s2.mp.count - 1) = s2.mp.count - 1 := by rw [Last.i64_w]; exact IntWalk.wrap64_in _ ⟨by omega, by omega⟩
    have hle := its_le t'
    rw [hall] at hle
    have HN : Hid (w3.cell? ⟨n, 2, none⟩ = some (sv rn.ib (BT.its t').length rn.icap) ∧ w3.cell? ⟨n, 3, none⟩ = some (pv (rn.kids.map (·.hdr)))) := hidp (by
      obtain ⟨S3, s3, R3, _, _, _, _, _, e3, _⟩ := K3.ex
      have hr3 : s3.nd n = some rn := (e3 n (by simp)).trans hrn
      exact ⟨by rw [← hrn2]; exact (ncell R3 hr3).2.2.2.1, (ncell R3 hr3).2.2.2.2⟩)
    by_cases h0 : (BT.its t').length = 0
    · cases h with
      | zero =>
        have hkn := hrn4.2 rfl
        obtain ⟨ba, n2⟩ : ∃ ba, w3.cell? ⟨n, 2, none⟩ = some (.slice ba 0 rn.icap) := ⟨_, by rw [HN.out.1, h0]; rfl⟩
        have n3 : w3.cell? ⟨n, 3, none⟩ = some (pv none) := by rw [HN.out.2, hkn]; rfl
        have hz : s2.mp.count - 1 = 0 := by
          have : (BT.all 0 t').length = (BT.its t').length := rfl
          rw [hall] at this; omega
        clear hm2 hmp2 hlk hall hok' T' hd' hdn hrn hrn1 hrn2 hrn3 hrn4 hcl hcw hle HN hkn
        go_wp2_with fail
        refine (leaf_raw n3).mono ?_
        rintro e w' ⟨rfl, rfl⟩
        clear n3
        have KF := KB.mp (KB.mp K3 { s2.mp with count := 0 } (off := 3) (.int .i64 0) (by show 3 < 9; decide) rfl) { s2.mp with count := 0, root := none } (off := 2) (.pointer none) (by show 2 < 9; decide) rfl
        have hmm : (s2.setMp { s2.mp with count := 0 }).m = s.m := HQ.out.1
        rw [hmm, HQ.out.1] at KF
        clear hmm
        have KG : KB E S w _ [(w.heap.size, []), (bq, [Value.int .i64 y.1])] [] (((w3.setCell ⟨s.m, 3, none⟩ (.int .i64 0)).setCell ⟨s.m, 2, none⟩ (.pointer none))) := KF.swap
        have hpe := part_pair (b := bq) (w := ((w3.setCell ⟨s.m, 3, none⟩ (.int .i64 0)).setCell ⟨s.m, 2, none⟩ (.pointer none))) 0 (by simp only [bty_setCell]; exact HBT.out)
        have HKG := hidp KG
        clear KF KG
        go_wp2
        refine bodyPost_ret (v := .tuple #[Value.agg #[], .bool true]) (by simp [results, Try.results64, go_sem]) rfl ?_
        obtain ⟨hm2, hmp2, hlk, hall, hok', T', hd'⟩ := HQ.out
        have hnil : cut lt (BT.all 0 t) x = [] := by rw [← hall]; exact List.eq_nil_of_length_eq_zero h0
        refine del_post HKG.out hm2 (by show s2.mp.iso = _; rw [hmp2]) (by show s2.mp.ctr = _; rw [hmp2]) ?_ HT.out.2.2.1 ?_ (.inr (by show s2.mp.mn = _ ∧ s2.mp.mx = _; rw [hmp2]; exact ⟨HMN.out, HMX.out⟩)) (.inl ⟨rfl, hnil, rfl⟩)
        · rw [fnd_some hlk]; unfold SetVal; rw [hlk]
        · show (0 : Int) = _; rw [hnil]; rfl
      | succ h =>
        obtain ⟨r, k, ps, idss, a1, a2, a3, a4, a5, a6, a7, a8, a9, a10⟩ := T'
        rw [hrn] at a1; obtain rfl := Option.some.inj a1
        have hnil : t'.1 = [] := List.eq_nil_of_length_eq_zero h0
        have hkl : t'.2.length = 1 := by have := hok'.2.2.1; rw [hnil] at this; exact this
        obtain ⟨c0, hc0⟩ : ∃ c0, t'.2 = [c0] := List.length_eq_one_iff.1 hkl
        obtain ⟨p0, hp0⟩ : ∃ p0, ps = [p0] := List.length_eq_one_iff.1 (a7.trans hkl)
        obtain ⟨is0, hi0⟩ : ∃ is0, idss = [is0] := List.length_eq_one_iff.1 (a8.trans hkl)
        have T0 := a10 0 p0 c0 is0 (by rw [hp0]; rfl) (by rw [hc0]; rfl) (by rw [hi0]; rfl)
        have hd0 : is0.Nodup := by rw [a9, hi0] at hd'; simpa using (List.nodup_cons.1 hd').2
        have hok0 : BT.ok (D - 1) (2 * D - 1) (D - 1) h c0 := hok'.2.2.2 c0 (by rw [hc0]; simp)
        have hc0l := its_le c0
        have hc0m := (BT.ok_its hok0).1
        have hall0 : BT.all (h + 1) t' = BT.all h c0 := all_nil hnil hc0
        have HZ := hidp (And.intro T0 (And.intro hd0 (And.intro (BT.ok_le hok0 (show 1 ≤ D - 1 by omega)) hall0)))
        obtain ⟨ba, n2⟩ : ∃ ba, w3.cell? ⟨n, 2, none⟩ = some (.slice ba 0 rn.icap) := ⟨_, by rw [HN.out.1, h0]; rfl⟩
        have n3 : w3.cell? ⟨n, 3, none⟩ = some (pv (some k.hdr)) := by rw [HN.out.2, a4]; rfl
        have HH : Hid (∃ kb ko, w3.cell? ⟨k.hdr, 0, none⟩ = some (.slice (some ⟨kb, ko, none⟩) 1 k.cap) ∧ w3.cell? ⟨kb, ko, none⟩ = some (.pointer (some ⟨p0, 0, none⟩))) := hidp (by
          obtain ⟨S3, s3, R3, _, _, _, _, _, e3, _⟩ := K3.ex
          have hr3 : s3.nd n = some rn := (e3 n (by simp)).trans hrn
          obtain ⟨kb, ko, hkb⟩ := R3.kb_some hr3 a4 (by rw [a5, hp0]; simp)
          have h1 := (R3.hdr hr3 a4).cell 0 rfl
          rw [hkb, a5, hp0] at h1
          have h2 := M_cell (R3.kid hr3 a4 hkb (i := 0) (p := some p0) (by rw [a5, hp0]; rfl))
          exact ⟨kb, ko, h1, h2⟩)
        obtain ⟨kb, ko, h1, h2⟩ := HH.out
        have hz : ¬ s2.mp.count - 1 = 0 := by rw [← hall, hall0] at hcw; omega
        clear hm2 hmp2 hlk hall hok' hd' hdn hrn hrn1 hrn2 hrn3 hrn4 hcl hcw hle HN HH a2 a3 a4 a5 a6 a7 a8 a9 a10 hnil hkl hc0 hp0 hi0 T0 hd0 hok0 hc0l hc0m hall0
        go_wp2_with fail
        refine (leaf_raw n3).mono ?_
        rintro e w' ⟨rfl, rfl⟩
        have n3' : w3.cell? ⟨n, 3, none⟩ = some (.pointer (some ⟨k.hdr, 0, none⟩)) := n3
        clear n3
        have KF := KB.mp (KB.mp K3 { s2.mp with root := some p0 } (off := 2) (.pointer (some ⟨p0, 0, none⟩)) (by show 2 < 9; decide) rfl) { s2.mp with count := s2.mp.count - 1, root := some p0 } (off := 3) (.int .i64 (s2.mp.count - 1)) (by show 3 < 9; decide) rfl
        have hmm : (s2.setMp { s2.mp with root := some p0 }).m = s.m := HQ.out.1
        rw [hmm, HQ.out.1] at KF
        clear hmm
        have KG : KB E S w _ [(w.heap.size, []), (bq, [Value.int .i64 y.1])] [] (((w3.setCell ⟨s.m, 2, none⟩ (.pointer (some ⟨p0, 0, none⟩))).setCell ⟨s.m, 3, none⟩ (.int .i64 (s2.mp.count - 1)))) := KF.swap
        have hpe := part_pair (b := bq) (w := ((w3.setCell ⟨s.m, 2, none⟩ (.pointer (some ⟨p0, 0, none⟩))).setCell ⟨s.m, 3, none⟩ (.int .i64 (s2.mp.count - 1)))) 0 (by simp only [bty_setCell]; exact HBT.out)
        have HKG := hidp KG
        clear KF KG
        go_wp2
        refine bodyPost_ret (v := .tuple #[Value.agg #[], .bool true]) (by simp [results, Try.results64, go_sem]) rfl ?_
        obtain ⟨hm2, hmp2, hlk, hall, hok', T', hd'⟩ := HQ.out
        refine del_post HKG.out hm2 (by show s2.mp.iso = _; rw [hmp2]) (by show s2.mp.ctr = _; rw [hmp2]) ?_ HT.out.2.2.1 ?_ (.inr (by show s2.mp.mn = _ ∧ s2.mp.mx = _; rw [hmp2]; exact ⟨HMN.out, HMX.out⟩)) (.inr ⟨h, p0, c0, is0, .inr rfl, rfl, by show Tr s2.nd s2.mp.iso _ _ _ _; rw [hmp2]; exact HZ.out.1, HZ.out.2.1, HZ.out.2.2.1, by rw [← hall]; exact HZ.out.2.2.2⟩)
        · rw [fnd_some hlk]; unfold SetVal; rw [hlk]
        · show s2.mp.count - 1 = _; rw [hmp2, HC.out]; have := cut_len hlk; omega
    · obtain ⟨ba, n2⟩ : ∃ ba, w3.cell? ⟨n, 2, none⟩ = some (.slice ba (BT.its t').length rn.icap) := ⟨_, HN.out.1⟩
      have hz : ¬ s2.mp.count - 1 = 0 := by omega
      have hl0 : ¬ ((BT.its t').length : Int) = 0 := by omega
      clear hm2 hmp2 hlk hall hok' T' hd' hdn hrn hrn1 hrn2 hrn3 hrn4 hcl hcw hle HN
      have KF := KB.mp K3 { s2.mp with count := s2.mp.count - 1 } (off := 3) (.int .i64 (s2.mp.count - 1)) (by show 3 < 9; decide) rfl
      rw [HQ.out.1] at KF
      have KG : KB E S w _ [(w.heap.size, []), (bq, [Value.int .i64 y.1])] [] ((w3.setCell ⟨s.m, 3, none⟩ (.int .i64 (s2.mp.count - 1)))) := KF.swap
      have hpe := part_pair (b := bq) (w := (w3.setCell ⟨s.m, 3, none⟩ (.int .i64 (s2.mp.count - 1)))) 0 (by simp only [bty_setCell]; exact HBT.out)
      have HKG := hidp KG
      clear KF KG
      go_wp2
      refine bodyPost_ret (v := .tuple #[Value.agg #[], .bool true]) (by simp [results, Try.results64, go_sem]) rfl ?_
      obtain ⟨hm2, hmp2, hlk, hall, hok', T', hd'⟩ := HQ.out
      refine del_post HKG.out hm2 (by show s2.mp.iso = _; rw [hmp2]) (by show s2.mp.ctr = _; rw [hmp2]) ?_ HT.out.2.2.1 ?_ (.inr (by show s2.mp.mn = _ ∧ s2.mp.mx = _; rw [hmp2]; exact ⟨HMN.out, HMX.out⟩)) (.inr ⟨h, n, t', ids', .inl rfl, by show s2.mp.root = _; rw [hmp2]; exact HRT.out, by show Tr s2.nd s2.mp.iso _ _ _ _; rw [hmp2]; exact T', hd', BT.ok_of hok' (by omega), hall.symm⟩)
      · rw [fnd_some hlk]; unfold SetVal; rw [hlk]
      · show s2.mp.count - 1 = _; rw [hmp2, HC.out]; have := cut_len hlk; omega

/-- 'Delete' -/
theorem delete_is {D : Nat} (hD : 2 ≤ D) (hD2 : D ≤ 400) {l : List It} (m : MapIs D S w s l) (hb : l.length ≤ 100000000000) (x : It) :
    Calls Try.prog 64 #[.pointer (some ⟨s.m, 0, none⟩), Value.int .i64 x.1] w (DelPost D S w s l x) := by
  rcases m.tree with ⟨hr, rfl⟩ | ⟨h, n, t, ids, hr, T, hd, hok, rfl⟩
  · exact (delete_none m hr x).mono fun _ _ h => h.post
  · obtain ⟨hmn, hmx⟩ : s.mp.mn = ((D - 1 : Nat) : Int) ∧ s.mp.mx = ((2 * D - 1 : Nat) : Int) := by
      rcases m.mm with ⟨_, _, h3⟩ | h
      · rw [hr] at h3; cases h3
      · exact h
    exact (delete_node hD hD2 m.rep hr T hd hok m.srt hmn hmx hb m.cnt x).mono fun _ _ h => h.post

theorem DelPost.form {D : Nat} {l : List It} {x : It} {e : Ending} {w' : World} (h : DelPost D S w s l x e w') : ∃ (v : Unit) (b : Bool), e = .returned (.tuple #[.agg #[], .bool b]) := by
  obtain ⟨_, _, he, _⟩ := h
  obtain ⟨v, hv⟩ : ∃ v : Unit, SetVal l x = .agg #[] := by
    unfold SetVal
    split
    · exact ⟨(), rfl⟩
    · exact ⟨(), rfl⟩
  exact ⟨v, _, by rw [he, hv]⟩
/-- 'Delete' of a set -/
theorem set_delete {D : Nat} (hD : 2 ≤ D) (hD2 : D ≤ 400) {l : List It} (m : MapIs D S w s l) (hb : l.length ≤ 100000000000) (x : It) :
    Calls Try.prog 33 #[.pointer (some ⟨s.m, 0, none⟩), Value.int .i64 x.1] w (fun e w' => ∃ S' s', e = .returned (.tuple #[]) ∧ Ext S w S' w' ∧ MapIs D S' w' s' (cut lt l x) ∧ s'.m = s.m) := by
  have HC := hidp (delete_is hD hD2 m hb x)
  clear m
  go_enter Try.func33, Try.ntmps33
  go_wp2_with fail
  refine HC.out.mono ?_
  intro e w2 hp
  obtain ⟨v, b, rfl⟩ := hp.form
  obtain ⟨S', s', _, hE, hM, hm, _⟩ := hp
  have HF := hidp (And.intro hE (And.intro hM hm))
  clear hE hM hm
  go_wp2
  go_end0
  exact ⟨S', s', rfl, HF.out.1, HF.out.2.1, HF.out.2.2⟩
end Go.Proofs.Ytbjhnefienjncaa.Bt.IU
