/- Maps of numbers (sets): setting an item in an empty map. -/
import Derived.Test.YtbjhnefienjncaaBtIUk
import Derived.Test.YtbjhnefienjncaaBtNew
namespace Go.Proofs.Ytbjhnefienjncaa.Bt.IU
set_option linter.unusedVariables false
set_option linter.unusedSimpArgs false
open Go Go.RowKit Go.Proofs.Ytbjhnefienjncaa.Bt
open Go.Proofs.Ytbjhnefienjncaa.Bt.Last (Y Z)
open _root_.List (setIfInBounds_toArray set_cons_zero set_cons_succ)

variable {S : Nat → Prop} {w : World} {s : Sto It}

/-- 'init' -/
theorem init_any {D : Nat} (hD : 2 ≤ D) (hD2 : D ≤ 400) (R : RepS E S w s) (h : (s.mp.mn = 0 ∧ D = 32) ∨ (s.mp.mn = ((D - 1 : Nat) : Int) ∧ s.mp.mx = ((2 * D - 1 : Nat) : Int))) :
    Calls Try.prog 131 #[.pointer (some ⟨s.m, 0, none⟩), .int .i64 0] w (fun e w' => e = .returned (.tuple #[]) ∧ Ext S w S w' ∧ RepS E S w' (s.setMp { s.mp with mn := ((D - 1 : Nat) : Int), mx := ((2 * D - 1 : Nat) : Int) })) := by
  rcases h with ⟨h, rfl⟩ | ⟨h1, h2⟩
  · exact init_new R h (.inl ⟨rfl, rfl⟩)
  · refine (init_done R (by omega) 0).mono ?_
    rintro e w' ⟨rfl, rfl⟩
    refine ⟨rfl, Ext.refl _ _, ?_⟩
    have e : { s.mp with mn := ((D - 1 : Nat) : Int), mx := ((2 * D - 1 : Nat) : Int) } = s.mp := by rw [← h1, ← h2]
    rw [e]; exact R

set_option maxHeartbeats 1000000 in
set_option maxRecDepth 100000 in
/-- 'Set' where the map has no node. -/
theorem set_empty {D : Nat} (hD : 2 ≤ D) (hD2 : D ≤ 400) (R : RepS E S w s) (hr : s.mp.root = none) (hmm : (s.mp.mn = 0 ∧ D = 32) ∨ (s.mp.mn = ((D - 1 : Nat) : Int) ∧ s.mp.mx = ((2 * D - 1 : Nat) : Int))) (x : It) :
    Calls Try.prog 97 #[.pointer (some ⟨s.m, 0, none⟩), Value.int .i64 x.1, Value.agg #[]] w (SetPost D S w s [] x) := by
  obtain ⟨hmlt, _, _, m2, _⟩ := mcell R
  have m2' : w.cell? ⟨s.m, 2, none⟩ = some (.pointer none) := by rw [m2, hr]; rfl
  obtain ⟨i0, hi0, hz0, hz1, hz2⟩ := info_parts infoP
  have HI0 := hidp hi0
  have HZ0 := hidp hz0
  have HZ1 := hidp hz1
  have HZ2 := hidp hz2
  have HIN : Hid (∀ w1, RepS E S w1 s → _) := hidp fun w1 R1 => init_any (w := w1) hD hD2 R1 hmm
  have HR := hidp R
  have HRT := hidp hr
  have hm1 : s.m < w.heap.size + 1 := by omega
  have hm2 : s.m < w.heap.size + 1 + 1 := by omega
  have hzb : ∀ a : Array Value, Array.foldl (fun (cs : Array Value) (x : Value × Nat) => cs.setIfInBounds x.snd x.fst) a (#[] : Array Value).zipIdx 0 0 = a := fun _ => rfl
  clear R hr hmm m2 hi0 hz0 hz1 hz2
  go_enter Try.func97, Try.ntmps97
  go_wp2_with fail
  have R1 := (((HR.out.alloc (.cells #[] 82)).alloc (.cells #[] 82)).alloc (.cells #[Value.int .i64 x.1] 120))
  have E1 := ((((Ext.refl S w).alloc (.cells #[] 82)).alloc (.cells #[] 82)).alloc (.cells #[Value.int .i64 x.1] 120))
  have B1 := Bx.new ((w.alloc (.cells #[] 82)).alloc (.cells #[] 82)) [Value.int .i64 x.1] 120
  have hsz : ((w.alloc (.cells #[] 82)).alloc (.cells #[] 82)).heap.size = w.heap.size + 1 + 1 := by simp
  rw [hsz] at B1
  clear hsz
  have hnb : ¬ S (w.heap.size + 1 + 1) := fun h => by have := HR.out.rep.lt _ h; omega
  generalize (((w.alloc (.cells #[] 82)).alloc (.cells #[] 82)).alloc (.cells #[Value.int .i64 x.1] 120)) = w1 at R1 E1 B1 ⊢
  refine (HIN.out w1 R1).mono ?_
  rintro e w2 ⟨rfl, E2, R2⟩
  have B2 := B1.keep E2.fr hnb
  go_wp2_with fail
  refine (newNode_leaf R2).mono ?_
  rintro e w3 ⟨n, S3, rfl, hn1, hn2, E3, R3⟩
  have hmn : ((s.setMp { s.mp with mn := ((D - 1 : Nat) : Int), mx := ((2 * D - 1 : Nat) : Int) }).setNd n ⟨s.mp.iso, 0, [], none, 0, none⟩).m = s.m := rfl
  have B3 := B2.keep E3.fr hnb
  have hnb3 : ¬ S3 (w.heap.size + 1 + 1) := fun h => (E3.new _ h).elim hnb (fun h' => by have := B2.1; omega)
  obtain ⟨E4, R4⟩ := R3.put_mp { s.mp with mn := ((D - 1 : Nat) : Int), mx := ((2 * D - 1 : Nat) : Int), root := some n } (off := 2) (.pointer (some ⟨n, 0, none⟩)) (by show 2 < 9; decide) rfl
  have B4 := B3.keep E4.fr hnb3
  have c2 : w3.cell? ⟨s.m, 2, none⟩ = some (.pointer none) := (mcell R3).2.2.2.1.trans (by show some (pv s.mp.root) = _; rw [HRT.out]; rfl)
  have f2 : w3.frozen? ⟨s.m, 2, none⟩ = false := R3.map.froz 2 (v := pv s.mp.root) rfl
  clear R2 hn2
  go_wp2_with fail
  have R4' : RepS E S3 (w3.setCell ⟨s.m, 2, none⟩ (.pointer (some ⟨n, 0, none⟩))) (({ s with mp := { s.mp with mn := ((D - 1 : Nat) : Int), mx := ((2 * D - 1 : Nat) : Int), root := some n } } : Sto It).setNd n ⟨s.mp.iso, 0, [], none, 0, none⟩) := R4
  have E4' : Ext S3 w3 S3 (w3.setCell ⟨s.m, 2, none⟩ (.pointer (some ⟨n, 0, none⟩))) := E4
  have B4' : Bx (w3.setCell ⟨s.m, 2, none⟩ (.pointer (some ⟨n, 0, none⟩))) (w.heap.size + 1 + 1) [Value.int .i64 x.1] := B4
  have EE := (E1.trans (E2.trans E3)).trans E4'
  clear R1 E1 B1 E2 B2 R3 E3 B3 R4 E4 B4 E4' c2 f2 hmlt hm1 hm2 m2' hn1
  generalize w3.setCell ⟨s.m, 2, none⟩ (.pointer (some ⟨n, 0, none⟩)) = w4 at R4' B4' EE ⊢
  obtain ⟨s4, hs4⟩ : ∃ s4 : Sto It, s4 = ({ s with mp := { s.mp with mn := ((D - 1 : Nat) : Int), mx := ((2 * D - 1 : Nat) : Int), root := some n } } : Sto It) := ⟨_, rfl⟩
  rw [← hs4] at R4'
  have hm4 : s4.m = s.m := by rw [hs4]
  have HS4 := hidp hs4
  clear hs4
  obtain ⟨r4, hr4⟩ : ∃ r4 : NodeR It, r4 = ⟨s.mp.iso, 0, [], none, 0, none⟩ := ⟨_, rfl⟩
  rw [← hr4] at R4'
  have N4 : (s4.setNd n r4).nd n = some r4 := Sto.nd_same _ _ _
  have c2 : w4.cell? ⟨s.m, 2, none⟩ = some (.pointer (some ⟨n, 0, none⟩)) := by
    have := (mcell R4').2.2.2.1
    rw [Sto.m_setNd, hm4, Sto.mp_setNd, HS4.out] at this; exact this
  have n2 : w4.cell? ⟨n, 2, none⟩ = some (.slice none 0 0) := by
    have := (ncell R4' N4).2.2.2.1
    rw [hr4] at this; exact this
  have n2f : w4.frozen? ⟨n, 2, none⟩ = false := (R4'.node N4).froz 2 rfl
  have d1 := B4'.cell 0 rfl
  have hml : s.m < w4.heap.size := by have := (mcell R4').1; rwa [Sto.m_setNd, hm4] at this
  have hnl : n < w4.heap.size := (ncell R4' N4).1
  have hbl := B4'.1
  go_wp2_with fail
  refine Last.start_ (S := fun w' => w'.cell? ⟨s.m, 2, none⟩ = some (.pointer (some ⟨n, 0, none⟩)) ∧ w'.cell? ⟨(w.heap.size + 1 + 1), 0, none⟩ = some (Value.int .i64 x.1)) (ds := [10]) #[Z,Z,Z,Z,Z,Z,Z,Z,Z,Z,Z] (by rfl) (by rfl) (by rfl) ⟨((Fr.refl (fun _ => False) _).drew.cell (x := ⟨s.m, 2, none⟩) hml (fun h => h)).trans c2, ((Fr.refl (fun _ => False) _).drew.cell (x := ⟨(w.heap.size + 1 + 1), 0, none⟩) hbl (fun h => h)).trans d1⟩ (fun hHeld => ?_)
  refine Last.tk 0 30 #[Y,Z,Z,Z,Z,Z,Z,Z,Z,Z,Z] rfl rfl hHeld ?_
  refine Last.tk 1 31 #[Y,Y,Z,Z,Z,Z,Z,Z,Z,Z,Z] rfl rfl hHeld ?_
  refine Last.tk 2 32 #[Y,Y,Y,Z,Z,Z,Z,Z,Z,Z,Z] rfl rfl hHeld ?_
  refine Last.tk 3 33 #[Y,Y,Y,Y,Z,Z,Z,Z,Z,Z,Z] rfl rfl hHeld ?_
  refine Last.tk 5 35 #[Y,Y,Y,Y,Z,Y,Z,Z,Z,Z,Z] rfl rfl hHeld ?_
  refine Last.join_ (σ := Nat × Nat) 4 #[Y,Y,Y,Y,Y,Y,Y,Z,Z,Z,Z] (fun s => [(34, .slice (some ⟨s.1, 0, none⟩) 0 0), (36, .slice (some ⟨s.2, 0, none⟩) 1 1)]) (fun s W => Two (w4).drew W s.1 s.2 [Value.int .i64 x.1]) (fun s wj hTw => ?_) (fun hcont => ?_)
  rotate_left
  · refine Last.two_ (i := 4) (j := 6) (Ni := some 34) (Nj := some 36) #[Y,Y,Y,Y,Y,Y,Z,Z,Z,Z,Z] #[Y,Y,Y,Y,Z,Y,Y,Z,Z,Z,Z] rfl rfl rfl rfl (by kernel_rfl) (by decide) (by decide) (fun K hK => ?_) (fun K hK => ?_)
    · go_simp
      refine hK.out _ _ ?_ (fun hHeld => ?_)
      · exact ⟨(((Fr.refl (fun _ => False) _).drew.alloc _).cell (x := ⟨s.m, 2, none⟩) hml (fun h => h)).trans c2, (((Fr.refl (fun _ => False) _).drew.alloc _).cell (x := ⟨(w.heap.size + 1 + 1), 0, none⟩) hbl (fun h => h)).trans d1⟩
      clear hK K
      try simp only [Act.put, setIfInBounds_toArray, set_cons_zero, set_cons_succ]
      refine Last.one_ (i := 6) (N := some 36) #[Y,Y,Y,Y,Y,Y,Y,Z,Z,Z,Z] rfl rfl (by kernel_rfl) (by decide) (fun K hK => ?_)
      go_simp
      refine hK.out _ _ ?_ (fun hHeld => ?_)
      · exact ⟨((((Fr.refl (fun _ => False) _).drew.alloc _).alloc _).cell (x := ⟨s.m, 2, none⟩) hml (fun h => h)).trans c2, ((((Fr.refl (fun _ => False) _).drew.alloc _).alloc _).cell (x := ⟨(w.heap.size + 1 + 1), 0, none⟩) hbl (fun h => h)).trans d1⟩
      clear hK K
      try simp only [Act.put, setIfInBounds_toArray, set_cons_zero, set_cons_succ]
      exact hcont (_, _) _ (Two.one _ _ _ _ _)
    · go_simp
      refine hK.out _ _ ?_ (fun hHeld => ?_)
      · exact ⟨(((Fr.refl (fun _ => False) _).drew.alloc _).cell (x := ⟨s.m, 2, none⟩) hml (fun h => h)).trans c2, (((Fr.refl (fun _ => False) _).drew.alloc _).cell (x := ⟨(w.heap.size + 1 + 1), 0, none⟩) hbl (fun h => h)).trans d1⟩
      clear hK K
      try simp only [Act.put, setIfInBounds_toArray, set_cons_zero, set_cons_succ]
      refine Last.one_ (i := 4) (N := some 34) #[Y,Y,Y,Y,Y,Y,Y,Z,Z,Z,Z] rfl rfl (by kernel_rfl) (by decide) (fun K hK => ?_)
      go_simp
      refine hK.out _ _ ?_ (fun hHeld => ?_)
      · exact ⟨((((Fr.refl (fun _ => False) _).drew.alloc _).alloc _).cell (x := ⟨s.m, 2, none⟩) hml (fun h => h)).trans c2, ((((Fr.refl (fun _ => False) _).drew.alloc _).alloc _).cell (x := ⟨(w.heap.size + 1 + 1), 0, none⟩) hbl (fun h => h)).trans d1⟩
      clear hK K
      try simp only [Act.put, setIfInBounds_toArray, set_cons_zero, set_cons_succ]
      exact hcont (_, _) _ (Two.other _ _ _ _ _)
  obtain ⟨g0, g1⟩ := s
  try simp only [Last.putAll, Act.put, List.setIfInBounds_toArray, List.set_cons_zero, List.set_cons_succ]
  have hHeld : (fun w' => w'.cell? ⟨s.m, 2, none⟩ = some (.pointer (some ⟨n, 0, none⟩)) ∧ w'.cell? ⟨(w.heap.size + 1 + 1), 0, none⟩ = some (Value.int .i64 x.1)) wj := ⟨((Fr.trans (Fr.refl (fun _ => False) _).drew hTw.fr (fun _ h => h.elim)).cell (x := ⟨s.m, 2, none⟩) hml (fun h => h)).trans c2, ((Fr.trans (Fr.refl (fun _ => False) _).drew hTw.fr (fun _ h => h.elim)).cell (x := ⟨(w.heap.size + 1 + 1), 0, none⟩) hbl (fun h => h)).trans d1⟩
  refine Last.one_ (i := 7) (N := some 37) #[Y,Y,Y,Y,Y,Y,Y,Y,Z,Z,Z] rfl rfl (by kernel_rfl) (by decide) (fun K hK => ?_)
  refine step_app (by rfl) _ _ _ (by rfl) 120 i0 _ 1 8 Try.underlying181 HI0.out HZ0.out HZ1.out HZ2.out rfl (by decide) (some (g0, 0)) 0 0 [] (by rfl) (fun h => absurd h (by simp)) (by simp)
          (fun b o hb => by cases hb; exact Ch.ok_empty _ _ _ _) ⟨g1, 0, none⟩ 1 1 [Value.int .i64 x.1] (by rfl) (by decide) (by rfl) (fun j u hj => by rw [Addr.add_lit, Nat.zero_add]; exact hTw.bx.cell j hj) (by simp [Value.oneCell']) (by unfold maxLen; omega) (by omega) ?_
  intro v' w6 happ
  obtain ⟨g, gc, rfl, hg1, hg2, hgc, hok, hty, hF0⟩ := happ.fresh (by decide)
  have hF6 := Fr.trans hTw.fr hF0 (S := fun _ => False) (fun _ h => h.elim)
  have hgl : (w4).heap.size ≤ g := Nat.le_trans hTw.fr.size hg1
  clear happ hF0
  refine hK.out _ _ ?_ (fun hHeld => ?_)
  · exact ⟨((Fr.trans (Fr.refl (fun _ => False) _).drew hF6 (fun _ h => h.elim)).cell (x := ⟨s.m, 2, none⟩) hml (fun h => h)).trans c2, ((Fr.trans (Fr.refl (fun _ => False) _).drew hF6 (fun _ h => h.elim)).cell (x := ⟨(w.heap.size + 1 + 1), 0, none⟩) hbl (fun h => h)).trans d1⟩
  clear hK K hTw hg1
  try simp only [Act.put, setIfInBounds_toArray, set_cons_zero, set_cons_succ]
  refine Last.tk 8 38 #[Y,Y,Y,Y,Y,Y,Y,Y,Y,Z,Z] rfl rfl hHeld ?_
  refine Last.tk 9 39 #[Y,Y,Y,Y,Y,Y,Y,Y,Y,Y,Z] rfl rfl hHeld ?_
  have k1 := ((Fr.trans (Fr.refl (fun _ => False) _).drew hF6 (fun _ h => h.elim)).cell (x := ⟨n, 2, none⟩) hnl (fun h => h)).trans n2
  have k2 := ((Fr.trans (Fr.refl (fun _ => False) _).drew hF6 (fun _ h => h.elim)).froz (x := ⟨n, 2, none⟩) hnl (fun h => h)).trans n2f
  refine Last.last_ (i := 10) (N := none) #[Y,Y,Y,Y,Y,Y,Y,Y,Y,Y,Y] rfl rfl (by kernel_rfl) (by decide) (fun K hK => ?_)
  unfold sv
  go_simp
  refine hK.out _ _ ?_
  clear hK K hHeld
  try simp only [Act.put, setIfInBounds_toArray, set_cons_zero, set_cons_succ]
  refine Last.done_ (by kernel_rfl) ?_
  have hu7 := Upd.one w6 (b := n) (o := 2) (.slice (some ⟨g, 0, none⟩) 1 gc) (by rw [M_of k1 k2]; rfl)
  obtain ⟨E7, R7⟩ := R4'.drew.new_items N4 [x] hgl hok.blt hok hty (by simpa using hgc) hF6 hu7
  have EE7 := EE.drew.trans E7
  rw [Sto.setNd_again] at R7
  clear hu7 hok hty hF6 k1 k2 E7 EE B4' d1 c2 n2 n2f R4' N4 hgl hml hnl hbl
  generalize w6.setCell ⟨n, 2, none⟩ (.slice (some ⟨g, 0, none⟩) 1 gc) = w7 at R7 EE7 ⊢
  obtain ⟨r7, hr7⟩ : ∃ r7 : NodeR It, r7 = { r4 with items := [x], ib := some (g, 0), icap := gc } := ⟨_, rfl⟩
  rw [← hr7] at R7
  have N7 : (s4.setNd n r7).nd n = some r7 := Sto.nd_same _ _ _
  have c2 : w7.cell? ⟨s.m, 2, none⟩ = some (.pointer (some ⟨n, 0, none⟩)) := by
    have := (mcell R7).2.2.2.1
    rw [Sto.m_setNd, hm4, Sto.mp_setNd, HS4.out] at this; exact this
  have n1 := (ncell R7 N7).2.2.1
  have n1f := (R7.node N7).froz 1 rfl
  have hu8 := Upd.one w7 (b := n) (o := 1) (.int .i64 1) (by rw [(R7.node N7).2 1 _ rfl]; rfl)
  have R8 := R7.set_count N7 1 hu8
  have E8 := EE7.upd hu8 (.inl (R7.inS_node N7))
  rw [Sto.setNd_again] at R8
  have c3 : (w7.setCell ⟨n, 1, none⟩ (.int .i64 1)).cell? ⟨s.m, 3, none⟩ = some (.int .i64 s.mp.count) := by
    have := (mcell R8).2.2.2.2.1
    rw [Sto.m_setNd, hm4, Sto.mp_setNd, HS4.out] at this; exact this
  have f3 : (w7.setCell ⟨n, 1, none⟩ (.int .i64 1)).frozen? ⟨s.m, 3, none⟩ = false := by
    have := R8.map.froz 3 (v := .int .i64 s.mp.count) (by rw [Sto.mp_setNd, HS4.out]; rfl)
    rw [Sto.m_setNd, hm4] at this; exact this
  have hnm : ¬ s.m = n := fun e => R7.node_ne_map N7 (by rw [Sto.m_setNd, hm4]; exact e.symm)
  obtain ⟨E9, R9⟩ := R8.put_mp { (s4.setNd n { r7 with count := 1 }).mp with count := 1 } (off := 3) (.int .i64 1) (by show 3 < 9; decide) rfl
  have hpe := part_empty R9
  rw [Sto.m_setMp, Sto.m_setNd, hm4] at hpe
  rw [Sto.m_setNd, hm4] at E9 R9
  have HF := hidp (And.intro (E8.trans E9) R9)
  have HR7 := hidp hr7
  clear R7 N7 hu8 R8 E8 E9 R9 EE7 hr7
  go_wp2
  refine bodyPost_ret (v := .tuple #[Value.agg #[], .bool false]) (by simp [results, Try.results97, go_sem]) rfl ?_
  obtain ⟨E9, R9⟩ := HF.out
  have hp : put lt [] x = [x] := rfl
  have hs4 := HS4.out
  subst hs4
  refine ⟨_, _, rfl, E9, ⟨R9, by rw [hp]; exact List.pairwise_singleton _ _, by rw [hp]; rfl, .inr ⟨rfl, rfl⟩, .inr ⟨0, n, [x], [n], rfl, ⟨rfl, _, Sto.nd_same _ _ _, ?_, ?_, ?_, rfl⟩, by simp, ⟨?_, ?_⟩, by rw [hp]; rfl⟩⟩, rfl, rfl, rfl⟩
  · show r7.iso = _; rw [HR7.out, hr4]; rfl
  · show r7.items = _; rw [HR7.out]
  · show r7.kids = _; rw [HR7.out, hr4]
  · show 1 ≤ [x].length; simp
  · show [x].length ≤ 2 * D - 1; simp; omega

end Go.Proofs.Ytbjhnefienjncaa.Bt.IU
