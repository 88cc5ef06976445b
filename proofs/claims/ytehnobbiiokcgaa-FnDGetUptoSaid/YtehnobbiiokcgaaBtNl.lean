/- Nodes as data: a node of a map is made of one. -/
import Derived.Test.YtehnobbiiokcgaaBtNk
import Derived.Deep.RegionHeld3
namespace Go.Proofs.Ytehnobbiiokcgaa.Bt.ND
set_option linter.unusedVariables false
set_option linter.unusedSimpArgs false
open Go Go.RowKit Go.Proofs.Ytehnobbiiokcgaa.Bt

/-- What 'plantedMap' does. -/
def PIH (D n : Nat) : Prop := ∀ (h least : Nat) (t : DT n), lev n t = (h + 1, true) → filled D least n t = true → bulk n t ≤ 10000000 → ∀ {w0 w : World} {S : Nat → Prop} {s : Sto II.It} {vi vk : Value} {c : Int}, NodeAt w0 n t vi vk c → Below w0.heap.size w0 w → (∀ i, S i → w0.heap.size ≤ i) → RepS II.E S w s →
  Calls Try.prog 57 #[.pointer (some ⟨s.m, 0, none⟩), .agg #[vi, vk, .int .i64 c]] w (Planted S w s h (toBT h n t))

theorem take_snoc {α : Type} {l : List α} {j : Nat} {x : α} (h : l[j]? = some x) : l.take (j + 1) = l.take j ++ [x] := by
  rw [List.take_add_one, h]; rfl

set_option maxHeartbeats 2000000 in
set_option maxRecDepth 100000 in
/-- 'plantedMap' of a leaf. -/
theorem planted_leaf {its : List Im} {c : Int} {a : Option Addr} {cap : Nat} (hil0 : its.length ≤ 10000000) {w0 w : World} {S : Nat → Prop} {s : Sto II.It} {ia : Option Addr} {icap : Nat} (hi : ∀ j x, its[j]? = some x → ∃ b off, ia = some ⟨b, off, none⟩ ∧ w0.cell? ⟨b, off + j * 2, none⟩ = some (.int .i64 x.1) ∧ w0.cell? ⟨b, off + j * 2 + 1, none⟩ = some (.int .i64 x.2))
    (hb0 : Below w0.heap.size w0 w) (hS : ∀ i, S i → w0.heap.size ≤ i) (R : RepS II.E S w s) :
    Calls Try.prog 57 #[.pointer (some ⟨s.m, 0, none⟩), .agg #[.slice ia its.length icap, .slice a 0 cap, .int .i64 c]] w (Planted S w s 0 (its : BT II.It 0)) := by
  have hns : ¬ S w.heap.size := fun h => by have := R.rep.lt _ h; omega
  have hns1 : ¬ S (w.heap.size + 1) := fun h => by have := R.rep.lt _ h; omega
  have hsz0 : (w.alloc (.cells #[.slice ia its.length icap, .slice a 0 cap, .int .i64 c] 25)).heap.size = w.heap.size + 1 := by simp
  have R1 := (R.alloc (.cells #[.slice ia its.length icap, .slice a 0 cap, .int .i64 c] 25)).alloc (.cells #[Value.pointer none] 96)
  have hE1 := ((Ext.refl S w).alloc (.cells #[.slice ia its.length icap, .slice a 0 cap, .int .i64 c] 25)).alloc (.cells #[Value.pointer none] 96)
  have B1 := (Bx.new w [.slice ia its.length icap, .slice a 0 cap, .int .i64 c] 25).alloc (.cells #[Value.pointer none] 96)
  have B2 := Bx.new (w.alloc (.cells #[.slice ia its.length icap, .slice a 0 cap, .int .i64 c] 25)) [Value.pointer none] 96
  rw [hsz0] at B2
  obtain ⟨w1, hw1⟩ : ∃ w1, (w.alloc (.cells #[.slice ia its.length icap, .slice a 0 cap, .int .i64 c] 25)).alloc (.cells #[Value.pointer none] 96) = w1 := ⟨_, rfl⟩
  have B1' : Bx w1 w.heap.size [.slice ia its.length icap, .slice a 0 cap, .int .i64 c] := hw1 ▸ B1
  have B2' : Bx w1 (w.heap.size + 1) [Value.pointer none] := hw1 ▸ B2
  rw [hw1] at R1 hE1
  have HW1 := hidp hw1
  have HL := hidp (II.doorLeaf_is R1)
  have HB := hidp (And.intro B1' (And.intro B2' hE1))
  have HI := hidp hi
  have HS := hidp (And.intro hS hb0)
  have hil : its.length ≤ 10000000 := hil0
  clear R R1 hE1 B1 B2 B1' B2' hw1 hi hsz0 hS hb0
  go_enter Try.func57, Try.ntmps57
  go_wp2_with fail
  rw [HW1.out]
  refine HL.out.mono ?_
  rintro e w2 ⟨m, S2, rfl, hm1, hm2, hE2, R2⟩
  unfold II.dv
  have HP : Hid (PB S w s w.heap.size (w.heap.size + 1) w2.heap.size m (.slice ia its.length icap) (.slice a 0 cap) c ⟨s.mp.iso, 0, [], none, 0, none⟩ (h := 0) [] [] [] (w2.alloc (.cells #[.pointer (some ⟨m, 0, none⟩)] 96))) :=
    hidp (PB.first HB.out.2.2 (by have := HB.out.2.2.fr.size; omega) hE2 R2 HB.out.1 HB.out.2.1 hns hns1 (Nat.le_refl _) (Nat.le_succ _) 0 96)
  obtain ⟨x0, x1, x2, xd, xr, xf, l0, l1, l2⟩ := HP.out.cells
  clear hm1 hm2 hE2 R2 HL
  go_wp2
  go_loopw [21] (fun i wr => ∃ j : Nat, j ≤ its.length ∧ i = .int .i64 j ∧ Hid (∃ ib' cap', PB S w s w.heap.size (w.heap.size + 1) w2.heap.size m (.slice ia its.length icap) (.slice a 0 cap) c ⟨s.mp.iso, 0, its.take j, ib', cap', none⟩ (h := 0) [] [] [] wr)) (fun i _ => its.length - (intOf i).toNat)
  case atStart => exact ⟨0, Nat.zero_le _, rfl, hidp ⟨none, 0, HP.out⟩⟩
  case round =>
    clear HP
    obtain ⟨j, hj, rfl, HQ⟩ := hrel
    obtain ⟨ib', cap', P⟩ := HQ.out
    obtain ⟨x0, x1, x2, xd, xr, xf, l0, l1, l2⟩ := P.cells
    by_cases hlt : j < its.length
    · obtain ⟨x, hx⟩ : ∃ x, its[j]? = some x := ⟨its[j], List.getElem?_eq_getElem hlt⟩
      obtain ⟨b, off, rfl, f1, f2⟩ := HI.out j x hx
      have hbl : b < w0.heap.size := World.block_lt_of_cell? w0 _ f1
      have y1 := ((P.below HS.out.1 HS.out.2).cell (p := ⟨b, off + j * 2, none⟩) hbl).trans f1
      have y2 := ((P.below HS.out.1 HS.out.2).cell (p := ⟨b, off + j * 2 + 1, none⟩) hbl).trans f2
      have HC := hidp ((P.alloc (.cells #[.int .i64 x.1, .int .i64 x.2] 35)).item (by rw [List.length_take]; omega) x)
      have jlt : (j : Int) < (its.length : Int) := by omega
      have HX := hidp (take_snoc hx)
      clear f1 f2 hx P HQ
      go_wp2_with fail
      refine HC.out.mono ?_
      rintro e w3 ⟨rfl, ib2, cap2, P3⟩
      have HP3 := hidp P3
      clear P3 HC
      go_wp2
      go_roundw
      case rel => exact ⟨j + 1, by omega, by go_num, hidp ⟨ib2, cap2, by rw [HX.out]; exact HP3.out⟩⟩
      case measure => simp [intOf]; omega
    · obtain rfl : j = its.length := by omega
      rw [List.take_length] at P
      have HP := hidp P
      clear P HQ
      have HCT := hidp (HP.out.count (fun k hk => by cases hk) (fun _ => rfl) (by show (its.length : Int) + 0 ≤ _; omega) (Nat.zero_le _))
      go_wp2
      refine wp_loop_rounds 1 ?_; rw [rounds_succ]
      go_wp2_with fail
      refine HCT.out.mono ?_
      rintro e w4 ⟨rfl, P4⟩
      obtain ⟨z0, z1, z2, zd, zr, zf, e0, e1, e2⟩ := P4.cells
      have HF := hidp (P4.leaf (l := its) rfl rfl rfl (by show (its.length : Int) + 0 = _; omega) (.pointer (some ⟨m, 0, none⟩)))
      clear P4 HCT HP
      go_wp2
      refine bodyPost_ret (v := II.dv m) (by simp [results, Try.results57, II.dv, go_sem, zr, zf, e2]) rfl ?_
      exact HF.out

set_option maxHeartbeats 4000000 in
set_option maxRecDepth 100000 in
/-- 'plantedMap' of a node with children. -/
theorem planted_inner {D n h : Nat} (IH : PIH D n) {its : List Im} {kids : List (DT n)} {c : Int} {a : Option Addr} {cap : Nat} (hil0 : its.length ≤ 10000000) (hne : kids ≠ []) (hkl : kids.length ≤ 1000000) (hkids : ∀ k ∈ kids, lev n k = (h + 1, true) ∧ filled D (D - 1) n k = true ∧ bulk n k ≤ 10000000)
    (hbd : (its.length : Int) + (cnts (kids.map (toBT h n))).sum ≤ 1000000000000) {w0 w : World} {S : Nat → Prop} {s : Sto II.It} {ia : Option Addr} {icap : Nat} (hi : ∀ j x, its[j]? = some x → ∃ b off, ia = some ⟨b, off, none⟩ ∧ w0.cell? ⟨b, off + j * 2, none⟩ = some (.int .i64 x.1) ∧ w0.cell? ⟨b, off + j * 2 + 1, none⟩ = some (.int .i64 x.2))
    (hk : ∀ j k, kids[j]? = some k → ∃ b off vi' vk' c', a = some ⟨b, off, none⟩ ∧ w0.cell? ⟨b, off + j * 3, none⟩ = some vi' ∧ w0.cell? ⟨b, off + j * 3 + 1, none⟩ = some vk' ∧ w0.cell? ⟨b, off + j * 3 + 2, none⟩ = some (.int .i64 c') ∧ NodeAt w0 n k vi' vk' c')
    (hb0 : Below w0.heap.size w0 w) (hS : ∀ i, S i → w0.heap.size ≤ i) (R : RepS II.E S w s) :
    Calls Try.prog 57 #[.pointer (some ⟨s.m, 0, none⟩), .agg #[.slice ia its.length icap, .slice a kids.length cap, .int .i64 c]] w (Planted S w s (h + 1) ((its, kids.map (toBT h n)) : BT II.It (h + 1))) := by
  have hpos : (0 : Int) < (kids.length : Int) := by cases kids with | nil => exact absurd rfl hne | cons _ _ => (simp only [List.length_cons]; omega)
  have HKS := hidp hkids
  have HK := hidp hk
  have HBD := hidp hbd
  have HIH := hidp IH
  clear hkids hk hbd IH
  have hns : ¬ S w.heap.size := fun h => by have := R.rep.lt _ h; omega
  have hns1 : ¬ S (w.heap.size + 1) := fun h => by have := R.rep.lt _ h; omega
  have hsz0 : (w.alloc (.cells #[.slice ia its.length icap, .slice a kids.length cap, .int .i64 c] 25)).heap.size = w.heap.size + 1 := by simp
  have R1 := (R.alloc (.cells #[.slice ia its.length icap, .slice a kids.length cap, .int .i64 c] 25)).alloc (.cells #[Value.pointer none] 96)
  have hE1 := ((Ext.refl S w).alloc (.cells #[.slice ia its.length icap, .slice a kids.length cap, .int .i64 c] 25)).alloc (.cells #[Value.pointer none] 96)
  have B1 := (Bx.new w [.slice ia its.length icap, .slice a kids.length cap, .int .i64 c] 25).alloc (.cells #[Value.pointer none] 96)
  have B2 := Bx.new (w.alloc (.cells #[.slice ia its.length icap, .slice a kids.length cap, .int .i64 c] 25)) [Value.pointer none] 96
  rw [hsz0] at B2
  obtain ⟨w1, hw1⟩ : ∃ w1, (w.alloc (.cells #[.slice ia its.length icap, .slice a kids.length cap, .int .i64 c] 25)).alloc (.cells #[Value.pointer none] 96) = w1 := ⟨_, rfl⟩
  have B1' : Bx w1 w.heap.size [.slice ia its.length icap, .slice a kids.length cap, .int .i64 c] := hw1 ▸ B1
  have B2' : Bx w1 (w.heap.size + 1) [Value.pointer none] := hw1 ▸ B2
  rw [hw1] at R1 hE1
  have HW1 := hidp hw1
  have HL := hidp (II.doorLeaf_is R1)
  have HB := hidp (And.intro B1' (And.intro B2' hE1))
  have HI := hidp hi
  have HS := hidp (And.intro hS hb0)
  have hil : its.length ≤ 10000000 := hil0
  clear R R1 hE1 B1 B2 B1' B2' hw1 hi hsz0 hS hb0
  go_enter Try.func57, Try.ntmps57
  go_wp2_with fail
  rw [HW1.out]
  refine HL.out.mono ?_
  rintro e w2 ⟨m, S2, rfl, hm1, hm2, hE2, R2⟩
  unfold II.dv
  have HP : Hid (PB S w s w.heap.size (w.heap.size + 1) w2.heap.size m (.slice ia its.length icap) (.slice a kids.length cap) c ⟨s.mp.iso, 0, [], none, 0, none⟩ (h := h) [] [] [] (w2.alloc (.cells #[.pointer (some ⟨m, 0, none⟩)] 96))) :=
    hidp (PB.first HB.out.2.2 (by have := HB.out.2.2.fr.size; omega) hE2 R2 HB.out.1 HB.out.2.1 hns hns1 (Nat.le_refl _) (Nat.le_succ _) h 96)
  obtain ⟨x0, x1, x2, xd, xr, xf, l0, l1, l2⟩ := HP.out.cells
  clear hm1 hm2 hE2 R2 HL
  have HQ2 := hidp (HP.out.second rfl)
  go_wp2_with fail
  refine HQ2.out.mono ?_
  rintro e w3 ⟨m2, q, rfl, d0, df, dl, P3⟩
  have HP := hidp P3
  obtain ⟨x0, x1, x2, xd, xr, xf, l0, l1, l2⟩ := P3.cells
  clear P3 HQ2
  go_wp2
  go_loopw [21] (fun i wr => ∃ j : Nat, j ≤ its.length ∧ i = .int .i64 j ∧ Hid (∃ ib' cap', PB S w s w.heap.size (w.heap.size + 1) w2.heap.size m2 (.slice ia its.length icap) (.slice a kids.length cap) c ⟨s.mp.iso, 0, its.take j, ib', cap', some ⟨q, none, 0, []⟩⟩ (h := h) [] [] [] wr)) (fun i _ => its.length - (intOf i).toNat)
  case atStart => exact ⟨0, Nat.zero_le _, rfl, hidp ⟨none, 0, HP.out⟩⟩
  case round =>
    clear HP d0 df dl
    obtain ⟨j, hj, rfl, HQ⟩ := hrel
    obtain ⟨ib', cap', P⟩ := HQ.out
    obtain ⟨x0, x1, x2, xd, xr, xf, l0, l1, l2⟩ := P.cells
    by_cases hlt : j < its.length
    · obtain ⟨x, hx⟩ : ∃ x, its[j]? = some x := ⟨its[j], List.getElem?_eq_getElem hlt⟩
      obtain ⟨b, off, rfl, f1, f2⟩ := HI.out j x hx
      have hbl : b < w0.heap.size := World.block_lt_of_cell? w0 _ f1
      have y1 := ((P.below HS.out.1 HS.out.2).cell (p := ⟨b, off + j * 2, none⟩) hbl).trans f1
      have y2 := ((P.below HS.out.1 HS.out.2).cell (p := ⟨b, off + j * 2 + 1, none⟩) hbl).trans f2
      have HC := hidp ((P.alloc (.cells #[.int .i64 x.1, .int .i64 x.2] 35)).item (by rw [List.length_take]; omega) x)
      have jlt : (j : Int) < (its.length : Int) := by omega
      have HX := hidp (take_snoc hx)
      clear f1 f2 hx P HQ
      go_wp2_with fail
      refine HC.out.mono ?_
      rintro e w3 ⟨rfl, ib2, cap2, P3⟩
      have HP3 := hidp P3
      clear P3 HC
      go_wp2
      go_roundw
      case rel => exact ⟨j + 1, by omega, by go_num, hidp ⟨ib2, cap2, by rw [HX.out]; exact HP3.out⟩⟩
      case measure => simp [intOf]; omega
    · obtain rfl : j = its.length := by omega
      rw [List.take_length] at P
      have HP := hidp P
      clear P HQ
      have HP0 := hidp HP.out
      go_wp2
      go_loopw [35] (fun i wr => ∃ j : Nat, j ≤ kids.length ∧ i = .int .i64 j ∧ Hid (∃ ps iss kb kcap, ps.length = j ∧ PB S w s w.heap.size (w.heap.size + 1) w2.heap.size m2 (.slice ia its.length icap) (.slice a kids.length cap) c ⟨s.mp.iso, 0, its, ib', cap', some ⟨q, kb, kcap, ps.map some⟩⟩ (h := h) ps ((kids.take j).map (toBT h n)) iss wr)) (fun i _ => kids.length - (intOf i).toNat)
      case atStart => exact ⟨0, Nat.zero_le _, rfl, hidp ⟨[], [], none, 0, rfl, HP0.out⟩⟩
      case round =>
        clear HP HP0 x0 x1 x2 xd xr xf l0 l1 l2
        obtain ⟨j, hj, rfl, HQ⟩ := hrel
        obtain ⟨ps, iss, kb, kcap, hpl, P⟩ := HQ.out
        obtain ⟨x0, x1, x2, xd, xr, xf, l0, l1, l2⟩ := P.cells
        by_cases hlt : j < kids.length
        · obtain ⟨k', hk'⟩ : ∃ k', kids[j]? = some k' := ⟨kids[j], List.getElem?_eq_getElem hlt⟩
          obtain ⟨b, off, vi', vk', c', rfl, f1, f2, f3, hn'⟩ := HK.out j k' hk'
          have hbl : b < w0.heap.size := World.block_lt_of_cell? w0 _ f1
          have y1 := ((P.below HS.out.1 HS.out.2).cell (p := ⟨b, off + j * 3, none⟩) hbl).trans f1
          have y2 := ((P.below HS.out.1 HS.out.2).cell (p := ⟨b, off + j * 3 + 1, none⟩) hbl).trans f2
          have y3 := ((P.below HS.out.1 HS.out.2).cell (p := ⟨b, off + j * 3 + 2, none⟩) hbl).trans f3
          obtain ⟨⟨i1, i2, icap', rfl⟩, q1, q2, kcap', rfl⟩ := hn'.vals
          have jlt : (j : Int) < (kids.length : Int) := by omega
          obtain ⟨k1, k2, k3⟩ := HKS.out k' (List.mem_of_getElem? hk')
          have PX := (P.alloc (.cells #[.slice i1 i2 icap', .slice q1 q2 kcap', .int .i64 c'] 25)).drew
          have hbX := PX.below HS.out.1 HS.out.2
          obtain ⟨S', s', R', hE', e1, e2, hcont⟩ := PX.kid
          have hC := HIH.out h (D - 1) k' k1 k2 k3 hn' hbX (fun i hi => by
            rcases hE'.new i hi with h | h
            · exact HS.out.1 i h
            · have := HS.out.2.size; omega) R'
          rw [e1] at hC
          have HC := hidp hC
          have HCT := hidp hcont
          have HX := hidp (take_snoc hk')
          have hpl2 : ps.length ≤ 1000000 := by omega
          clear f1 f2 f3 hk' hn' P PX HQ hC hcont R' hE' k1 k2 k3 hbX
          go_wp2
          go_region_with
            ((first
              | (go_at_call 57
                 refine HC.out.mono ?_
                 intro e w5 hPl
                 obtain ⟨q5, ids5, rfl, P5⟩ := HCT.out _ _ _ hPl
                 unfold II.dv
                 have HP5 := hidp P5
                 have x5 := P5.cells.2.2.2.1
                 clear P5 hPl)
              | (go_at_call 86
                 refine (HP5.out.append rfl (by show (ps.map some).length ≤ _; rw [List.length_map]; omega) q5).mono ?_
                 rintro e w6 ⟨rfl, kb6, kcap6, P6⟩
                 have HP6 := hidp P6
                 have x6 := P6.cells.2.2.2.1
                 clear P6)))
          all_goals
            go_wp2
            go_roundw
            case rel => exact ⟨j + 1, by omega, by go_num, hidp ⟨ps ++ [q5], iss ++ [ids5], kb6, kcap6, by simp [hpl], by
              have h := HP6.out
              rw [HX.out, List.map_append, List.map_append]; exact h⟩⟩
            case measure => simp [intOf]; omega
        · obtain rfl : j = kids.length := by omega
          rw [List.take_length] at P
          have hcl : (kids.map (toBT h n)).length = ps.length := by rw [List.length_map, hpl]
          have HCT := hidp (P.count (fun k hk => by obtain rfl := Option.some.inj hk; exact ⟨rfl, fun e => by rw [e] at hpl; simp at hpl; omega⟩) (fun h => by cases h) HBD.out (by omega))
          clear P HQ
          go_wp2_with fail
          refine HCT.out.mono ?_
          rintro e w4 ⟨rfl, P4⟩
          obtain ⟨z0, z1, z2, zd, zr, zf, e0, e1, e2⟩ := P4.cells
          have HF := hidp (P4.inner (l := its) (k := ⟨q, kb, kcap, ps.map some⟩) rfl rfl rfl rfl (all_length ((its, kids.map (toBT h n)) : BT II.It (h + 1))).symm (.pointer (some ⟨m2, 0, none⟩)))
          clear P4 HCT
          go_wp2
          refine bodyPost_ret (v := II.dv m2) (by simp [results, Try.results57, II.dv, go_sem, zr, zf, e2]) rfl ?_
          exact HF.out

/-- 'plantedMap' -/
theorem planted_is {D : Nat} (hD : D ≤ 1000) : ∀ n, PIH D n
  | 0 => fun _ _ _ _ _ _ _ _ _ _ _ _ _ hN => hN.elim
  | n + 1 => by
    intro h least t hl hf hb w0 w S s vi vk c hN hb0 hS R
    have IH := planted_is hD n
    obtain ⟨hc, ⟨ia, icap, rfl, _, hi⟩, a, cap, rfl, hlc, hk⟩ := hN
    have hil : t.1.length ≤ 10000000 := by have : t.1.length ≤ bulk (n + 1) t := (by show t.1.length ≤ 1 + t.1.length + (t.2.1.map (bulk n)).sum; omega); omega
    have hok := toBT_ok (D := D) h (n + 1) least t hl hf
    have hall := toBT_all h (n + 1) t hl
    cases hks : t.2.1 with
    | nil =>
      unfold lev at hl; rw [hks] at hl
      obtain rfl : h = 0 := by simpa using hl.symm
      rw [hks] at hlc
      exact planted_leaf (a := a) (cap := cap) (c := c) (icap := icap) hil hi hb0 hS R
    | cons k0 ks =>
      have hl0 := hl
      rw [lev_cons hks] at hl
      split at hl
      · rename_i hn
        simp only [Prod.mk.injEq] at hl
        have hp0 : 0 < (lev n k0).1 := by
          have h2 := hl.2
          rw [List.all_cons, Bool.and_eq_true, Bool.and_eq_true] at h2
          exact lev_pos n k0 h2.1.1
        obtain ⟨h', rfl⟩ : ∃ h', h = h' + 1 := ⟨h - 1, by omega⟩
        unfold filled at hf
        rw [Bool.and_eq_true, Bool.and_eq_true, decide_eq_true_eq, decide_eq_true_eq] at hf
        rw [← hks] at hn hl ⊢
        have h3 := planted_inner (D := D) (n := n) (h := h') IH (its := t.1) (kids := t.2.1) (c := c) (a := a) (cap := cap) (icap := icap) hil (by rw [hks]; simp) (by omega) (fun k hkm => by
          have h3 := List.all_eq_true.1 hl.2 k hkm
          rw [Bool.and_eq_true, decide_eq_true_eq] at h3
          have hj := List.mem_iff_getElem?.1 hkm
          obtain ⟨j, hj⟩ := hj
          have := bulk_kid (t := t) (j := j) (k := k) hj
          exact ⟨Prod.ext (by rw [h3.2]; show (lev n k0).1 = h' + 1; omega) h3.1, List.all_eq_true.1 hf.2 k hkm, by omega⟩)
          (by
            have e1 := all_length (toBT (h' + 1) (n + 1) t)
            have e2 := dAll_bulk (n + 1) t
            rw [hall] at e1
            show (t.1.length : Int) + (cnts (t.2.1.map (toBT h' n))).sum ≤ _
            have e3 : ((dAll (n + 1) t).length : Int) = (t.1.length : Int) + (cnts (t.2.1.map (toBT h' n))).sum := e1
            omega) hi hk hb0 hS R
        exact h3
      · cases hl
end Go.Proofs.Ytehnobbiiokcgaa.Bt.ND
