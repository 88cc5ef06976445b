/- Maps: PopMin. -/
import Derived.Test.YtehnobbiiokcgaaBtPp
import Derived.Test.YtehnobbiiokcgaaBtLast
import Derived.Test.YtehnobbiiokcgaaBtKb
namespace Go.Proofs.Ytehnobbiiokcgaa.Bt.II
set_option linter.unusedVariables false
set_option linter.unusedSimpArgs false
open Go Go.RowKit Go.Proofs.Ytehnobbiiokcgaa.Bt
open Go.Proofs.Ytehnobbiiokcgaa.Bt.Last (Y Z)
open _root_.List (setIfInBounds_toArray set_cons_zero set_cons_succ)

variable {S : Nat → Prop} {w : World} {s : Sto It}

set_option maxHeartbeats 4000000 in
set_option maxRecDepth 100000 in
/-- 'PopMin' of a map that has items: the way down. -/
theorem popMin_tr {D : Nat} (hD : 2 ≤ D) (hD2 : D ≤ 400) {h n : Nat} {t : BT It h} {ids : List Nat} (m : MapIs D S w s (BT.all h t)) (hr : s.mp.root = some n) (T : Tr s.nd s.mp.iso h n t ids) (hd : ids.Nodup) (hok : BT.ok (D - 1) (2 * D - 1) 1 h t) (hlen : (BT.all h t).length ≤ 1000000000) :
    Calls Try.prog 67 #[.pointer (some ⟨s.m, 0, none⟩)] w (PopPost false D h S w s (BT.all h t)) := by
  have R := m.rep
  have hmm : s.mp.mn = ((D - 1 : Nat) : Int) ∧ s.mp.mx = ((2 * D - 1 : Nat) : Int) := by
    rcases m.mm with ⟨_, _, h3⟩ | h
    · rw [hr] at h3; cases h3
    · exact h
  have hmn := hmm.1
  have HMM := hidp hmm
  have HM := hidp m
  have HT := hidp (And.intro T hd)
  have HCN : Hid (s.mp.count = ((BT.all h t).length : Nat)) := hidp m.cnt
  clear hmm m
  obtain ⟨_, _, _, m2, _⟩ := mcell R
  rw [hr] at m2
  have m2' : w.cell? ⟨s.m, 2, none⟩ = some (.pointer (some ⟨n, 0, none⟩)) := m2
  obtain ⟨_, r, hn, hi, _, _, _⟩ := T.root
  have HISO := hidp (isoLoad_own R m2 hn hi true)
  obtain ⟨P, W, hPd, hPm, hPl⟩ := T.way false hok hd
  have HR := hidp R
  have HW := hidp W
  have HPD := hidp hPd
  have HPM := hidp hPm
  have HOK := hidp hok
  have HPLF := hidp hPl
  have HROOT := hidp hr
  clear R m2 T hok hn hi hr W hPd hPm hPl
  go_enter Try.func67, Try.ntmps67
  go_wp2_with fail
  refine HISO.out.mono ?_
  rintro e w' ⟨rfl, a1, rfl⟩
  clear HISO m2'
  go_wp2
  have hbp : (w.drewN a1).heap.size = w.heap.size := by simp
  obtain ⟨bp, hbpe⟩ : ∃ bp, bp = w.heap.size := ⟨_, rfl⟩
  have HCB : Hid (∀ x ∈ P, (0 : Int) ≤ x.2.count ∧ x.2.count ≤ 1000000000000) := hidp fun x hx => by have h1 := HPM.out x hx; omega
  have HP0 : Hid (∃ r0, P[0]? = some (n, r0)) := hidp HW.out.head
  have HPL : Hid (P.length = h + 1) := hidp HW.out.length
  have HK0 : Hid (KB II.E S w s [(w.heap.size, [.int .i64 0, .int .i64 0])] (wayD P 0) ((w.drewN a1).alloc (.cells #[.int .i64 0, .int .i64 0] 120))) := hidp (by
    have h0 : KB II.E S w s [] P w := KB.start HR.out (fun a r h => HW.out.mem (a, r) h) HPD.out
    have h1 := (h0.drewN a1).box [.int .i64 0, .int .i64 0] 120
    rw [hbp] at h1
    exact h1)
  go_loopw [5] (fun u5 wr => ∃ (i a : Nat) (r : NodeR It), i ≤ h ∧ u5 = .pointer (some ⟨a, 0, none⟩) ∧ P[i]? = some (a, r) ∧ Hid (KB II.E S w s [(w.heap.size, [.int .i64 0, .int .i64 0])] (wayD P i) wr)) (fun u5 _ => h - lst (fun i => ∃ r, P[i]? = some (ptrOf u5, r)))
  case atStart =>
    obtain ⟨r0, h0⟩ := HP0.out
    exact ⟨0, n, r0, Nat.zero_le _, rfl, h0, HK0⟩
  case round =>
    clear HK0
    obtain ⟨i, a, r, hih, rfl, hPi, HK⟩ := hrel
    have hcb : (0 : Int) ≤ r.count ∧ r.count ≤ 1000000000000 := HCB.out (a, r) (List.mem_of_getElem? hPi)
    have K := HK.out
    rw [wayD_at hPi] at K
    obtain ⟨hal, _, c1, c2, c3⟩ := K.cell
    have hcw : IntKind.i64.wrap (r.count - 1) = r.count - 1 := by rw [Last.i64_w, IntWalk.wrap64_in _ ⟨by omega, by omega⟩]
    have hu := Upd.one wr (b := a) (o := 1) (.int .i64 (r.count - 1)) (by rw [K.mem.1]; rfl)
    have K2 := K.count (r.count - 1) hu
    obtain ⟨_, _, n1, n2, n3⟩ := K2.cell
    have KX := K2
    rw [← wayD_next hPi] at K2
    have HK2 := hidp K2
    have HPI := hidp hPi
    have c1f := M_froz K.mem.1
    by_cases hlt : i < h
    · obtain ⟨k, p, rp, hk, hkp, hPn⟩ := HW.out.next i a r hPi hlt
      have hkx := K.hdr hk
      have hb0 : ∃ b o, k.base = some (b, o) := by
        cases hb : k.base with
        | some x => exact ⟨x.1, x.2, rfl⟩
        | none =>
          have h1 := (K.wf.2.1 k hk hb).1
          rw [h1] at hkp
          simp at hkp
      obtain ⟨b, o, hb⟩ := hb0
      have hkd := K.kid hk hb hkp
      have hkl : 0 < k.kids.length := by have := (List.getElem?_eq_some_iff.1 hkp).1; omega
      have hkc : k.kids.length ≤ k.cap := K.wf.2.2.2 k hk
      have hkx2 := KX.hdr hk
      have hkd2 := KX.kid hk hb hkp
      have n3' : (wr.setCell ⟨a, 1, none⟩ (.int .i64 (r.count - 1))).cell? ⟨a, 3, none⟩ = some (pv (some k.hdr)) := by rw [n3, hk]; rfl
      rw [hk] at c3
      rw [hb] at hkx hkx2
      have e0 : (wr.setCell ⟨a, 1, none⟩ (.int .i64 (r.count - 1))).cell? ⟨k.hdr, 0, none⟩ = some (.slice (some ⟨b, o, none⟩) k.kids.length k.cap) := M_cell hkx2.2
      have e1 : (wr.setCell ⟨a, 1, none⟩ (.int .i64 (r.count - 1))).cell? ⟨b, o, none⟩ = some (.pointer (some ⟨p, 0, none⟩)) := M_cell hkd2
      have d0 : wr.cell? ⟨k.hdr, 0, none⟩ = some (.slice (some ⟨b, o, none⟩) k.kids.length k.cap) := M_cell hkx.2
      have d1 : wr.cell? ⟨b, o, none⟩ = some (.pointer (some ⟨p, 0, none⟩)) := M_cell hkd
      have HIS : Hid (Calls Try.prog 100 #[.pointer (some ⟨s.m, 0, none⟩), .pointer (some ⟨b, o, none⟩), .bool true] (wr.setCell ⟨a, 1, none⟩ (.int .i64 (r.count - 1))) (fun e w' => e = .returned (.pointer (some ⟨p, 0, none⟩)) ∧ ∃ d, w' = (wr.setCell ⟨a, 1, none⟩ (.int .i64 (r.count - 1))).drewN d)) := hidp (by
        obtain ⟨S', s', R', _, hns, _, hm, hmp, _⟩ := K2.ex
        have hpm : (p, rp) ∈ wayD P (i + 1) := by
          unfold wayD
          refine List.mem_append.2 (.inr ?_)
          exact List.mem_of_getElem? (i := 0) (by rw [List.getElem?_drop]; exact hPn)
        have h := isoLoad_own R' (A := ⟨b, o, none⟩) (n := p) (r := rp) e1 (hns p rp hpm) (by rw [hmp]; exact (HPM.out (p, rp) (List.mem_of_getElem? hPn)).2.1) true
        rw [hm] at h
        exact h)
      have n3r : (wr.setCell ⟨a, 1, none⟩ (.int .i64 (r.count - 1))).cell? ⟨a, 3, none⟩ = some (.pointer (some ⟨k.hdr, 0, none⟩)) := n3'
      have HPN := hidp hPn
      clear K K2 KX n3 hPn
      have HLF : Hid (Calls Try.prog 78 #[.pointer (some ⟨a, 0, none⟩)] (wr.setCell ⟨a, 1, none⟩ (.int .i64 (r.count - 1))) (fun e w' => e = .returned (.bool false) ∧ (wr.setCell ⟨a, 1, none⟩ (.int .i64 (r.count - 1))) = w')) := hidp (leaf_raw (p := some k.hdr) n3')
      go_wp2_with fail
      refine HLF.out.mono ?_
      rintro e w' ⟨rfl, rfl⟩
      clear n3' HLF
      go_wp2_with fail
      refine HIS.out.mono ?_
      rintro e w' ⟨rfl, d, rfl⟩
      clear HIS n3r n1 n2 e0 e1 d0 d1 c1 c2 c3
      go_wp2
      go_roundw
      case rel => exact ⟨i + 1, p, rp, hlt, rfl, HPN.out, hidp (HK2.out.drewN d)⟩
      case measure =>
        have m1 := way_ix HPD.out HPI.out
        have m2 := way_ix HPD.out HPN.out
        show h - lst (fun i => ∃ r, P[i]? = some (p, r)) < h - lst (fun i => ∃ r, P[i]? = some (a, r))
        rw [m1, m2]
        omega
    · obtain rfl : i = h := by omega
      have hkn := HW.out.leaf a r hPi
      have n3' : (wr.setCell ⟨a, 1, none⟩ (.int .i64 (r.count - 1))).cell? ⟨a, 3, none⟩ = some (pv none) := by rw [n3, hkn]; rfl
      have HLF : Hid (Calls Try.prog 78 #[.pointer (some ⟨a, 0, none⟩)] (wr.setCell ⟨a, 1, none⟩ (.int .i64 (r.count - 1))) (fun e w' => e = .returned (.bool true) ∧ (wr.setCell ⟨a, 1, none⟩ (.int .i64 (r.count - 1))) = w')) := hidp (leaf_raw (p := none) n3')
      clear n3'
      go_wp2_with fail
      refine HLF.out.mono ?_
      rintro e w' ⟨rfl, rfl⟩
      clear HLF
      have hbx := KX.bx (b := w.heap.size) (vs := [.int .i64 0, .int .i64 0]) (by simp)
      have hlf := leafE_ok (mn := D - 1) (mx := 2 * D - 1) false i 1 t HOK.out
      have hri := HPLF.out a r hPi
      have hne : 1 ≤ r.items.length := by
        rw [hri]
        rcases hlf.1 with h0 | h0
        · subst h0
          have h1 : 1 ≤ List.length t := HOK.out.1
          exact h1
        · omega
      obtain ⟨x0, hx0⟩ : ∃ x0, r.items[0]? = some x0 := ⟨_, List.getElem?_eq_getElem (by omega)⟩
      have hib : ∃ b o, r.ib = some (b, o) := by
        cases hb : r.ib with
        | some y => exact ⟨y.1, y.2, rfl⟩
        | none =>
          have h1 := (KX.wf.1 hb).1
          have h2 : r.items = [] := h1
          rw [h2] at hne
          simp at hne
      obtain ⟨b, o, hib⟩ := hib
      have hi0 := M_cell (KX.item (r := { r with count := r.count - 1 }) hib (i := 0) hx0 (j := 0) (v := .int .i64 x0.2) rfl)
      have hi1 := M_cell (KX.item (r := { r with count := r.count - 1 }) hib (i := 0) hx0 (j := 1) (v := .int .i64 x0.1) rfl)
      have hic : r.items.length ≤ r.icap := KX.wf.2.2.1
      have hi0' : (wr.setCell ⟨a, 1, none⟩ (.int .i64 (r.count - 1))).cell? ⟨b, o, none⟩ = some (.int .i64 x0.2) := by simpa using hi0
      have hi1' : (wr.setCell ⟨a, 1, none⟩ (.int .i64 (r.count - 1))).cell? ⟨b, o + 1, none⟩ = some (.int .i64 x0.1) := by simpa using hi1
      have n2' : (wr.setCell ⟨a, 1, none⟩ (.int .i64 (r.count - 1))).cell? ⟨a, 2, none⟩ = some (.slice (some ⟨b, o, none⟩) r.items.length r.icap) := by rw [n2]; show some (sv r.ib _ _) = _; rw [hib]; rfl
      have g0 := hbx.cell 0 rfl
      have g1 := hbx.cell 1 rfl
      have hpos : 0 < r.items.length := by omega
      have hpos2 : r.items ≠ [] := fun e => by rw [e] at hne; simp at hne
      have hpos3 : ¬ r.items.length = 0 := by omega
      have g0f := hbx.froz 0 (v := .int .i64 0) rfl
      have g1f := hbx.froz 1 (v := .int .i64 0) rfl
      have hbl := hbx.1
      have HKX := hidp KX
      have HRI := hidp (And.intro hri hlf)
      have HKN := hidp hkn
      have HIB := hidp hib
      have HEI : Hid (endI false r.items = some x0) := hidp (by show r.items.head? = _; rw [List.head?_eq_getElem?]; exact hx0)
      clear K K2 KX hi0 hi1 n2 n3 c1 c2 c3 c1f hu hkn hri hlf
      go_wp2_with fail
      have hub := Upd.two (wr.setCell ⟨a, 1, none⟩ (.int .i64 (r.count - 1))) (b := w.heap.size) (o := 0) (.int .i64 x0.2) (.int .i64 x0.1) (by rw [M_of g0 g0f]; rfl) (by rw [Nat.zero_add, M_of g1 g1f]; rfl)
      have K3 := HKX.out.set_box hub (fun p hp => by cases hp)
      obtain ⟨_, _, _, l2, _⟩ := K3.cell
      have l2' : (((wr.setCell ⟨a, 1, none⟩ (.int .i64 (r.count - 1))).setCell ⟨w.heap.size, 0, none⟩ (.int .i64 x0.2)).setCell ⟨w.heap.size, 1, none⟩ (.int .i64 x0.1)).cell? ⟨a, 2, none⟩ = some (.slice (some ⟨b, o, none⟩) r.items.length r.icap) := by
        refine l2.trans ?_
        show some (sv r.ib _ _) = _
        rw [hib]; rfl
      have mm := K3.map.1
      have mn6 := mm.cell 6 rfl
      have mr2 : (((wr.setCell ⟨a, 1, none⟩ (.int .i64 (r.count - 1))).setCell ⟨w.heap.size, 0, none⟩ (.int .i64 x0.2)).setCell ⟨w.heap.size, 1, none⟩ (.int .i64 x0.1)).cell? ⟨s.m, 2, none⟩ = some (.pointer (some ⟨n, 0, none⟩)) := by
        have h := mm.cell (v := pv s.mp.root) 2 rfl
        rw [HROOT.out] at h
        exact h
      have HK3 := hidp K3
      have mn6' : (((wr.setCell ⟨a, 1, none⟩ (.int .i64 (r.count - 1))).setCell ⟨w.heap.size, 0, none⟩ (.int .i64 x0.2)).setCell ⟨w.heap.size, 1, none⟩ (.int .i64 x0.1)).cell? ⟨s.m, 6, none⟩ = some (.int .i64 ((D - 1 : Nat) : Int)) := by
        rw [← hmn]; exact mn6
      clear K3 l2 mm hub mn6 g0 g1 g0f g1f n1 n2' hi0' hi1'
      generalize (((wr.setCell ⟨a, 1, none⟩ (.int .i64 (r.count - 1))).setCell ⟨w.heap.size, 0, none⟩ (.int .i64 x0.2)).setCell ⟨w.heap.size, 1, none⟩ (.int .i64 x0.1)) = w3 at l2' mn6' mr2 HK3 ⊢
      by_cases hmin : r.items.length = D - 1
      · have hq : ((r.items.length : Nat) : Int) = ((D - 1 : Nat) : Int) := by rw [hmin]
        go_region_held3 (fun w' => w'.cell? ⟨a, 2, none⟩ = some (.slice (some ⟨b, o, none⟩) r.items.length r.icap) ∧ w'.cell? ⟨s.m, 6, none⟩ = some (.int .i64 ((D - 1 : Nat) : Int))) (go_keep) (fail)
        have mr2d : w3.drew.cell? ⟨s.m, 2, none⟩ = some (.pointer (some ⟨n, 0, none⟩)) := mr2
        have HK4 : Hid (KB II.E S w s [(w.heap.size, [.int .i64 x0.2, .int .i64 x0.1])] (wayU P 0) w3.drew) := hidp (by
          have h1 := HK3.out
          rw [← wayD_next HPI.out, way_turn HPL.out] at h1
          exact h1.drew)
        clear HK3 HKX HK2 l2' mn6' mr2 hcb hne hpos hpos2 hpos3 hic hbl hx0 hib hPi
        obtain ⟨r0, hP0⟩ := HP0.out
        go_wp2
        go_loopw [5] (fun u5 wr => ∃ (q a : Nat) (r : NodeR It), q ≤ i ∧ u5 = .pointer (some ⟨a, 0, none⟩) ∧ P[q]? = some (a, r) ∧ Hid (KB II.E S w s [(w.heap.size, [.int .i64 x0.2, .int .i64 x0.1])] (wayU P q) wr)) (fun u5 _ => i - lst (fun i => ∃ r, P[i]? = some (ptrOf u5, r)))
        case atStart => exact ⟨0, n, r0, Nat.zero_le _, rfl, hP0, HK4⟩
        case round =>
          clear HK4 hP0 mr2d
          obtain ⟨q, a2, r2, hqi, rfl, hPq, HKq⟩ := hrel
          have hcb2 : (0 : Int) ≤ r2.count ∧ r2.count ≤ 1000000000000 := HCB.out (a2, r2) (List.mem_of_getElem? hPq)
          have K := HKq.out
          rw [wayU_at hPq] at K
          obtain ⟨_, _, c1, _, _⟩ := K.cell
          have c1' : wr.cell? ⟨a2, 1, none⟩ = some (.int .i64 (r2.count - 1)) := c1
          have c1f := M_froz K.mem.1
          have hcw2 : IntKind.i64.wrap (r2.count - 1 + 1) = r2.count := by rw [Last.i64_w, IntWalk.wrap64_in _ ⟨by omega, by omega⟩]; omega
          have hu := Upd.one wr (b := a2) (o := 1) (.int .i64 r2.count) (by rw [K.mem.1]; rfl)
          have KX : KB II.E S w s [(w.heap.size, [.int .i64 x0.2, .int .i64 x0.1])] (P.take q ++ (a2, r2) :: (P.drop (q + 1)).map decN) (wr.setCell ⟨a2, 1, none⟩ (.int .i64 r2.count)) := K.count r2.count hu
          have K2 := KX
          rw [← wayU_next hPq] at K2
          have HK2 := hidp K2
          obtain ⟨_, _, _, _, n3⟩ := KX.cell
          have HPQ := hidp hPq
          by_cases hlt2 : q < i
          · obtain ⟨k, p, rp, hk, hkp, hPn⟩ := HW.out.next q a2 r2 hPq hlt2
            have hb0 : ∃ b o, k.base = some (b, o) := by
              cases hb : k.base with
              | some x => exact ⟨x.1, x.2, rfl⟩
              | none =>
                have h1 := (KX.wf.2.1 k hk hb).1
                rw [h1] at hkp
                simp at hkp
            obtain ⟨b2, o2, hb⟩ := hb0
            have hkl : 0 < k.kids.length := by have := (List.getElem?_eq_some_iff.1 hkp).1; omega
            have hkx2 := KX.hdr hk
            have hkd2 := KX.kid hk hb hkp
            rw [hk] at n3
            rw [hb] at hkx2
            have e0 : (wr.setCell ⟨a2, 1, none⟩ (.int .i64 r2.count)).cell? ⟨k.hdr, 0, none⟩ = some (.slice (some ⟨b2, o2, none⟩) k.kids.length k.cap) := M_cell hkx2.2
            have e1 : (wr.setCell ⟨a2, 1, none⟩ (.int .i64 r2.count)).cell? ⟨b2, o2, none⟩ = some (.pointer (some ⟨p, 0, none⟩)) := M_cell hkd2
            have n3r : (wr.setCell ⟨a2, 1, none⟩ (.int .i64 r2.count)).cell? ⟨a2, 3, none⟩ = some (.pointer (some ⟨k.hdr, 0, none⟩)) := n3
            have HLF2 : Hid (Calls Try.prog 78 #[.pointer (some ⟨a2, 0, none⟩)] (wr.setCell ⟨a2, 1, none⟩ (.int .i64 r2.count)) (fun e w' => e = .returned (.bool false) ∧ (wr.setCell ⟨a2, 1, none⟩ (.int .i64 r2.count)) = w')) := hidp (leaf_raw (p := some k.hdr) n3)
            have HPN := hidp hPn
            clear K K2 KX n3 c1 hPn hkx2 hkd2 hu
            go_wp2_with fail
            refine HLF2.out.mono ?_
            rintro e w' ⟨rfl, rfl⟩
            clear HLF2 c1' c1f
            go_wp2
            go_roundw
            case rel => exact ⟨q + 1, p, rp, hlt2, rfl, HPN.out, HK2⟩
            case measure =>
              have m1 := way_ix HPD.out HPQ.out
              have m2 := way_ix HPD.out HPN.out
              show i - lst (fun i => ∃ r, P[i]? = some (p, r)) < i - lst (fun i => ∃ r, P[i]? = some (a2, r))
              rw [m1, m2]
              omega
          · obtain rfl : q = i := by omega
            have hkn := HW.out.leaf a2 r2 hPq
            have n3' : (wr.setCell ⟨a2, 1, none⟩ (.int .i64 r2.count)).cell? ⟨a2, 3, none⟩ = some (pv none) := by rw [n3, hkn]; rfl
            have HLF2 : Hid (Calls Try.prog 78 #[.pointer (some ⟨a2, 0, none⟩)] (wr.setCell ⟨a2, 1, none⟩ (.int .i64 r2.count)) (fun e w' => e = .returned (.bool true) ∧ (wr.setCell ⟨a2, 1, none⟩ (.int .i64 r2.count)) = w')) := hidp (leaf_raw (p := none) n3')
            have hbx := KX.bx (b := w.heap.size) (vs := [.int .i64 x0.2, .int .i64 x0.1]) (by simp)
            have g0 := hbx.cell 0 rfl
            have g1 := hbx.cell 1 rfl
            -- the store is the one of the beginning again
            have HRE : Hid (∃ S', RepS II.E S' (wr.setCell ⟨a2, 1, none⟩ (.int .i64 r2.count)) s ∧ Ext S w S' (wr.setCell ⟨a2, 1, none⟩ (.int .i64 r2.count)) ∧ Boxes S' w (wr.setCell ⟨a2, 1, none⟩ (.int .i64 r2.count)) [(w.heap.size, [.int .i64 x0.2, .int .i64 x0.1])]) := hidp (by
              obtain ⟨S', s', R', hE, hns, _, hm, hmp, hot, hB⟩ := K2.ex
              rw [wayU_end HPL.out] at hns hot
              have e : s' = s := by
                have hnd : s'.nd = s.nd := funext fun z => by
                  by_cases hz : z ∈ P.map (·.1)
                  · obtain ⟨y, hy, rfl⟩ := List.mem_map.1 hz
                    exact (hns y.1 y.2 hy).trans (HW.out.mem y hy).symm
                  · exact hot z hz
                cases s; cases s'
                simp only at hm hmp hnd
                subst hm hmp hnd
                rfl
              subst e
              exact ⟨S', R', hE, hB⟩)
            clear K K2 KX n3 n3' c1 hu hbx hkn
            go_wp2_with fail
            refine HLF2.out.mono ?_
            rintro e w' ⟨rfl, rfl⟩
            clear HLF2 c1' c1f
            go_wp2_with fail
            have HDEL : Hid (Calls Try.prog 75 #[.pointer (some ⟨s.m, 0, none⟩), .int .i64 x0.1] (wr.setCell ⟨a2, 1, none⟩ (.int .i64 r2.count)) (fun e w4 => e = .returned (.tuple #[.int .i64 x0.2, .bool true]) ∧ Bx w4 w.heap.size [.int .i64 x0.2, .int .i64 x0.1] ∧ PopPost false D q S w s (BT.all q t) (.returned (.tuple #[.int .i64 x0.1, .int .i64 x0.2, .bool true])) w4)) := hidp (by
              obtain ⟨S', R', hE, hB⟩ := HRE.out
              have hx : endI false (BT.all q t) = some x0 := by rw [leafE_endI (by omega) false q 1 t (Nat.le_refl _) HOK.out, ← HRI.out.1]; exact HEI.out
              obtain ⟨hlk, _⟩ := cut_endI HM.out.srt false hx
              refine (delete_node hD hD2 R' HROOT.out HT.out.1 HT.out.2 HOK.out HM.out.srt HMM.out.1 HMM.out.2 (by omega) HCN.out x0).mono ?_
              intro e w4 hp
              have hp2 := hp
              obtain ⟨S'', s'', he, hE', _⟩ := hp2
              exact ⟨by rw [he, fnd_some hlk]; unfold SetVal; rw [hlk], (hB.step hE' _ (List.mem_singleton.2 rfl)).1, pop_del hE HM.out.srt hx hp rfl⟩)
            clear HRE HM HMM HT HCN HW HPD HPM HPL HP0 HPI HPQ HKq HK2 HRI HOK g0 g1
            refine HDEL.out.mono ?_
            rintro e w4 ⟨rfl, hb4, hp4⟩
            have HP4 := hidp hp4
            have b1 := hb4.cell 1 rfl
            clear HDEL hp4 hb4
            go_wp2
            refine bodyPost_ret (v := .tuple #[.int .i64 x0.1, .int .i64 x0.2, .bool true]) (by simp [results, Try.results67, go_sem]) rfl ?_
            exact HP4.out
      · have hq : ¬ ((r.items.length : Nat) : Int) = ((D - 1 : Nat) : Int) := by omega
        go_region_held3 (fun w' => w'.cell? ⟨a, 2, none⟩ = some (.slice (some ⟨b, o, none⟩) r.items.length r.icap) ∧ w'.cell? ⟨s.m, 6, none⟩ = some (.int .i64 ((D - 1 : Nat) : Int))) (go_keep) (fail)
        have er : ({ r with count := r.count - 1 } : NodeR It) = ⟨r.iso, r.count - 1, r.items, some (b, o), r.icap, none⟩ := by rw [← HIB.out, ← HKN.out]
        have K4 := HK3.out.drew
        rw [er] at K4
        obtain ⟨AA, hAA⟩ : ∃ AA, AA = (P.take i).map decN := ⟨_, rfl⟩
        obtain ⟨BB, hBB⟩ : ∃ BB, BB = P.drop (i + 1) := ⟨_, rfl⟩
        rw [← hAA, ← hBB] at K4
        have HAA := hidp hAA
        have HBB := hidp hBB
        obtain ⟨ln, hln⟩ : ∃ ln, r.items.length = ln := ⟨_, rfl⟩
        obtain ⟨p, hp⟩ : ∃ p, ln = p + 1 := ⟨ln - 1, by omega⟩
        have hp1 : p + 1 ≤ ln := by omega
        have hp2 : ln ≤ p + 1 := by omega
        have hl9 : ln ≤ 100000 := by have h9 := HRI.out.2.2; rw [← HRI.out.1, hln] at h9; omega
        have HNE := hidp hmin
        have HLn := hidp hln
        have HP := hidp hp
        obtain ⟨i0, hi0, hz0, hz1, hz2⟩ := info_parts infoP
        have HI0 := hidp hi0
        have HZ0 := hidp hz0
        have HZ1 := hidp hz1
        have HZ2 := hidp hz2
        have HK4 := hidp K4
        clear er K4 hAA hBB HKX HK2 HK3 l2' mn6' mr2 hcb hne hpos hpos2 hpos3 hic hbl hx0 hib hPi hi0 hz0 hz1 hz2 hln hp hmin HPL HP0 HPM HCB
        generalize w3.drew = w4 at HK4 ⊢
        have x11_2 : w4.cell? ⟨a, 2, none⟩ = some (.slice (some ⟨b, o, none⟩) (ln) r.icap) := by
          have h : w4.cell? ⟨a, 2, none⟩ = some (sv (some (b, o)) (List.length r.items) r.icap) := HK4.out.cell.2.2.2.1
          rw [HLn.out] at h; exact h
        have hcap11 : ln ≤ r.icap := by have h := HK4.out.wf.2.2.1; rw [HLn.out] at h; exact h
        have hb1 : (1 : Int) ≤ ((ln : Nat) : Int) := by omega
        go_wp2_with fail
        go_region_held3 (fun w' => w'.cell? ⟨a, 2, none⟩ = some (.slice (some ⟨b, o, none⟩) (ln) r.icap)) (go_keep)
          ((refine step_copy (by rfl) _ _ _ _ (by rfl) 120 i0 2 Try.underlying124 HI0.out HZ1.out b o (ln) r.icap ?hd b (o + 2) (ln - 1) (r.icap - 1) ?hx (itemCells E (List.drop (0 + 1) r.items)) ?hn (fun j' v hj => ?hs) ?hc (itemCells_one _) ?_
            case hd => (simp [Act.eval]; try omega)
            case hx => (simp [Act.eval]; try omega)
            case hn =>
              have e : Nat.min (ln - 1) (ln) = ln - 1 := Nat.min_eq_left (by omega)
              rw [itemCells_length, List.length_drop, HLn.out, e]; rfl
            case hs =>
              have h := HK4.out.drew.src (b := b) (o := o) (i := 0 + 1) (m := []) rfl (List.append_nil _).symm (by rw [HLn.out]; omega) hj
              exact h
            case hc =>
              intro j' hj
              rw [itemCells_length, List.length_drop, HLn.out] at hj
              exact (HK4.out.drew.items (b := b) (o := o) rfl).some j' (by show j' < r.icap * E.sz; have h2 : E.sz = 2 := rfl; rw [h2] at hj ⊢; omega)
            intro w11a hu6
            have K6 := HK4.out.drew.set_items (b := b) (o := o) rfl (i := 0) (List.drop (0 + 1) r.items) (by show _ ≤ List.length r.items; rw [List.length_drop, HLn.out]; omega) (by simp) hu6
            have HL11 : Hid (List.length (List.take 0 r.items ++ List.drop (0 + 1) r.items ++ List.drop (0 + (List.drop (0 + 1) r.items).length) r.items) = ln) := hidp (by simp only [List.length_append, List.length_take, List.length_drop, HLn.out]; omega)
            have HC11 : Hid (KB E S w s [(w.heap.size, [.int .i64 x0.2, .int .i64 x0.1])] (AA ++ (a, ⟨r.iso, (r.count - 1), (List.take 0 r.items ++ List.drop (0 + 1) r.items ++ List.drop (0 + (List.drop (0 + 1) r.items).length) r.items), (some (b, o)), r.icap, none⟩) :: BB) w11a) := hidp K6
            clear K6 hu6
            have y11_2 : w11a.cell? ⟨a, 2, none⟩ = some (.slice (some ⟨b, o, none⟩) (ln) r.icap) := by
              have h : w11a.cell? ⟨a, 2, none⟩ = some (sv (some (b, o)) (List.length (List.take 0 r.items ++ List.drop (0 + 1) r.items ++ List.drop (0 + (List.drop (0 + 1) r.items).length) r.items)) r.icap) := HC11.out.cell.2.2.2.1
              rw [HL11.out] at h; exact h))
        generalize (if r.icap = 1 then (some ⟨b, o, none⟩ : Option Addr) else some ⟨b, o + 2, none⟩) = zz11
        clear HK4 x11_2 hb1
        clear y11_2
        have x12_2 : w11a.cell? ⟨a, 2, none⟩ = some (.slice (some ⟨b, o, none⟩) (ln) r.icap) := by
          have h : w11a.cell? ⟨a, 2, none⟩ = some (sv (some (b, o)) (List.length (List.take 0 r.items ++ List.drop (0 + 1) r.items ++ List.drop (0 + (List.drop (0 + 1) r.items).length) r.items)) r.icap) := HC11.out.cell.2.2.2.1
          rw [HL11.out] at h; exact h
        have x12_4 : w11a.cell? ⟨s.m, 4, none⟩ = some (Value.int .i64 0) := HC11.out.map.1.cell 4 rfl
        have x12_5 : w11a.cell? ⟨s.m, 5, none⟩ = some (Value.int .i64 0) := HC11.out.map.1.cell 5 rfl
        have hcap12 : ln ≤ r.icap := by have h := HC11.out.wf.2.2.1; rw [HL11.out] at h; exact h
        have ci := (HC11.out.items (b := b) (o := o) rfl).some (p * 2) (by show p * 2 < r.icap * E.sz; have h2 : E.sz = 2 := rfl; rw [h2]; omega)
        have ci2 := (HC11.out.items (b := b) (o := o) rfl).some (p * 2 + 1) (by show p * 2 + 1 < r.icap * E.sz; have h2 : E.sz = 2 := rfl; rw [h2]; omega)
        obtain ⟨z1, hz1'⟩ := Option.isSome_iff_exists.1 ci
        obtain ⟨z2, hz2'⟩ := Option.isSome_iff_exists.1 ci2
        have e1 : w11a.cell? ⟨b, o + p * 2, none⟩ = some z1 := M_cell hz1'
        have e2 : w11a.cell? ⟨b, o + p * 2 + 1, none⟩ = some z2 := M_cell hz2'
        have f1 : w11a.frozen? ⟨b, o + p * 2, none⟩ = false := M_froz hz1'
        have f2 : w11a.frozen? ⟨b, o + p * 2 + 1, none⟩ = false := M_froz hz2'
        have hu := Upd.two w11a (b := b) (o := o + p * 2) (Value.int .i64 0) (Value.int .i64 0) (by exact ci) (by exact ci2)
        have K6 := HC11.out.set_item (b := b) (o := o) rfl (i := p) ((0 : Int), (0 : Int)) (by show _ < List.length (List.take 0 r.items ++ List.drop (0 + 1) r.items ++ List.drop (0 + (List.drop (0 + 1) r.items).length) r.items); rw [HL11.out]; omega) rfl hu
        have HL12 : Hid (List.length (List.set (List.take 0 r.items ++ List.drop (0 + 1) r.items ++ List.drop (0 + (List.drop (0 + 1) r.items).length) r.items) p ((0 : Int), (0 : Int))) = ln) := hidp (by rw [List.length_set]; exact HL11.out)
        have hblt : b < w11a.heap.size := HC11.out.blt (b := b) (o := o) rfl
        have hw1 : IntKind.i64.wrap (((ln : Nat) : Int) - 1) = (p : Int) := by rw [Last.i64_w, IntWalk.wrap64_in _ ⟨by omega, by omega⟩]; omega
        have hb1 : (p : Int) < ((ln : Nat) : Int) := by omega
        have hb2 : (p : Int) ≤ ((ln : Nat) : Int) := by omega
        have HC12 : Hid (KB E S w s [(w.heap.size, [.int .i64 x0.2, .int .i64 x0.1])] (AA ++ (a, ⟨r.iso, (r.count - 1), (List.set (List.take 0 r.items ++ List.drop (0 + 1) r.items ++ List.drop (0 + (List.drop (0 + 1) r.items).length) r.items) p ((0 : Int), (0 : Int))), (some (b, o)), r.icap, none⟩) :: BB) ((w11a.setCell ⟨b, o + p * 2, none⟩ (Value.int .i64 0)).setCell ⟨b, o + p * 2 + 1, none⟩ (Value.int .i64 0))) := hidp K6
        clear ci ci2 hz1' hz2' hu K6 HC11
        go_wp2_with fail
        refine Last.start_ (S := fun w' => w'.cell? ⟨a, 2, none⟩ = some (.slice (some ⟨b, o, none⟩) (ln) r.icap) ∧ w'.cell? ⟨s.m, 4, none⟩ = some (Value.int .i64 0) ∧ w'.cell? ⟨s.m, 5, none⟩ = some (Value.int .i64 0)) (ds := [15]) #[Z,Z,Z,Z,Z,Z,Z,Z,Z,Z,Z,Z,Z,Z,Z,Z] (by rfl) (by rfl) (by rfl) ?_ (fun hHeld => ?_)
        · go_keep
        refine Last.tk 0 65 #[Y,Z,Z,Z,Z,Z,Z,Z,Z,Z,Z,Z,Z,Z,Z,Z] rfl rfl hHeld ?_
        refine Last.tk 1 66 #[Y,Y,Z,Z,Z,Z,Z,Z,Z,Z,Z,Z,Z,Z,Z,Z] rfl rfl hHeld ?_
        refine Last.tk 2 67 #[Y,Y,Y,Z,Z,Z,Z,Z,Z,Z,Z,Z,Z,Z,Z,Z] rfl rfl hHeld ?_
        refine Last.tk 3 68 #[Y,Y,Y,Y,Z,Z,Z,Z,Z,Z,Z,Z,Z,Z,Z,Z] rfl rfl hHeld ?_
        refine Last.tk 4 69 #[Y,Y,Y,Y,Y,Z,Z,Z,Z,Z,Z,Z,Z,Z,Z,Z] rfl rfl hHeld ?_
        refine Last.tk 5 70 #[Y,Y,Y,Y,Y,Y,Z,Z,Z,Z,Z,Z,Z,Z,Z,Z] rfl rfl hHeld ?_
        refine Last.tk 6 71 #[Y,Y,Y,Y,Y,Y,Y,Z,Z,Z,Z,Z,Z,Z,Z,Z] rfl rfl hHeld ?_
        refine Last.tk 7 72 #[Y,Y,Y,Y,Y,Y,Y,Y,Z,Z,Z,Z,Z,Z,Z,Z] rfl rfl hHeld ?_
        refine Last.tk 8 73 #[Y,Y,Y,Y,Y,Y,Y,Y,Y,Z,Z,Z,Z,Z,Z,Z] rfl rfl hHeld ?_
        refine Last.tk 9 74 #[Y,Y,Y,Y,Y,Y,Y,Y,Y,Y,Z,Z,Z,Z,Z,Z] rfl rfl hHeld ?_
        refine Last.tk 10 75 #[Y,Y,Y,Y,Y,Y,Y,Y,Y,Y,Y,Z,Z,Z,Z,Z] rfl rfl hHeld ?_
        refine Last.tk 11 76 #[Y,Y,Y,Y,Y,Y,Y,Y,Y,Y,Y,Y,Z,Z,Z,Z] rfl rfl hHeld ?_
        refine Last.tk 12 77 #[Y,Y,Y,Y,Y,Y,Y,Y,Y,Y,Y,Y,Y,Z,Z,Z] rfl rfl hHeld ?_
        refine Last.tk 13 78 #[Y,Y,Y,Y,Y,Y,Y,Y,Y,Y,Y,Y,Y,Y,Z,Z] rfl rfl hHeld ?_
        refine Last.tk 14 79 #[Y,Y,Y,Y,Y,Y,Y,Y,Y,Y,Y,Y,Y,Y,Y,Z] rfl rfl hHeld ?_
        refine Last.last_ (i := 15) (N := none) #[Y,Y,Y,Y,Y,Y,Y,Y,Y,Y,Y,Y,Y,Y,Y,Y] rfl rfl (by kernel_rfl) (by decide) (fun K hK => ?_)
        go_simp
        refine hK.out _ _ ?_
        clear hK K
        try simp only [Act.put, setIfInBounds_toArray, set_cons_zero, set_cons_succ]
        refine Last.done_ (by kernel_rfl) ?_
        have K7 := HC12.out.drew
        generalize ((w11a.setCell ⟨b, o + p * 2, none⟩ (Value.int .i64 0)).setCell ⟨b, o + p * 2 + 1, none⟩ (Value.int .i64 0)).drew = w12 at K7 ⊢
        clear HC12 x12_2 x12_4 x12_5 e1 e2 f1 f2 hblt
        have HK13 : Hid (KB E S w s [(w.heap.size, [.int .i64 x0.2, .int .i64 x0.1])] (AA ++ (a, ⟨r.iso, (r.count - 1), (List.set (List.take 0 r.items ++ List.drop (0 + 1) r.items ++ List.drop (0 + (List.drop (0 + 1) r.items).length) r.items) p ((0 : Int), (0 : Int))), (some (b, o)), r.icap, none⟩) :: BB) w12) := hidp K7
        clear K7
        have x14_2 : w12.cell? ⟨a, 2, none⟩ = some (.slice (some ⟨b, o, none⟩) (ln) r.icap) := by
          have h : w12.cell? ⟨a, 2, none⟩ = some (sv (some (b, o)) (List.length (List.set (List.take 0 r.items ++ List.drop (0 + 1) r.items ++ List.drop (0 + (List.drop (0 + 1) r.items).length) r.items) p ((0 : Int), (0 : Int)))) r.icap) := HK13.out.cell.2.2.2.1
          rw [HL12.out] at h; exact h
        have f2 := M_froz HK13.out.mem.2
        have hlt : a < w12.heap.size := HK13.out.cell.1
        have hcp : ln ≤ r.icap := by have h := HK13.out.wf.2.2.1; rw [HL12.out] at h; exact h
        have hcc : ¬ r.icap < p := by omega
        have hcd : (p : Int) ≤ (r.icap : Int) := by omega
        have K6 := HK13.out.take_items (k := p) (by show _ ≤ List.length (List.set (List.take 0 r.items ++ List.drop (0 + 1) r.items ++ List.drop (0 + (List.drop (0 + 1) r.items).length) r.items) p ((0 : Int), (0 : Int))); rw [HL12.out]; omega) (Upd.one w12 (b := a) (o := 2) (.slice (some ⟨b, o, none⟩) p r.icap) (by rw [HK13.out.mem.2]; rfl))
        have HL14 : Hid (List.length (List.take p (List.set (List.take 0 r.items ++ List.drop (0 + 1) r.items ++ List.drop (0 + (List.drop (0 + 1) r.items).length) r.items) p ((0 : Int), (0 : Int)))) = p) := hidp (by rw [List.length_take, HL12.out]; omega)
        have HC14 : Hid (KB E S w s [(w.heap.size, [.int .i64 x0.2, .int .i64 x0.1])] (AA ++ (a, ⟨r.iso, (r.count - 1), (List.take p (List.set (List.take 0 r.items ++ List.drop (0 + 1) r.items ++ List.drop (0 + (List.drop (0 + 1) r.items).length) r.items) p ((0 : Int), (0 : Int)))), (some (b, o)), r.icap, none⟩) :: BB) (w12.setCell ⟨a, 2, none⟩ (.slice (some ⟨b, o, none⟩) p r.icap))) := hidp K6
        clear K6 HK13
        go_wp2_with fail
        refine Last.start_ (S := fun w' => w'.cell? ⟨a, 2, none⟩ = some (.slice (some ⟨b, o, none⟩) (ln) r.icap)) (ds := [14]) #[Z,Z,Z,Z,Z,Z,Z,Z,Z,Z,Z,Z,Z,Z,Z] (by rfl) (by rfl) (by rfl) ?_ (fun hHeld => ?_)
        · go_keep
        refine Last.tk 0 80 #[Y,Z,Z,Z,Z,Z,Z,Z,Z,Z,Z,Z,Z,Z,Z] rfl rfl hHeld ?_
        refine Last.tk 1 81 #[Y,Y,Z,Z,Z,Z,Z,Z,Z,Z,Z,Z,Z,Z,Z] rfl rfl hHeld ?_
        refine Last.tk 2 82 #[Y,Y,Y,Z,Z,Z,Z,Z,Z,Z,Z,Z,Z,Z,Z] rfl rfl hHeld ?_
        refine Last.tk 3 83 #[Y,Y,Y,Y,Z,Z,Z,Z,Z,Z,Z,Z,Z,Z,Z] rfl rfl hHeld ?_
        refine Last.tk 4 84 #[Y,Y,Y,Y,Y,Z,Z,Z,Z,Z,Z,Z,Z,Z,Z] rfl rfl hHeld ?_
        refine Last.tk 5 85 #[Y,Y,Y,Y,Y,Y,Z,Z,Z,Z,Z,Z,Z,Z,Z] rfl rfl hHeld ?_
        refine Last.tk 6 86 #[Y,Y,Y,Y,Y,Y,Y,Z,Z,Z,Z,Z,Z,Z,Z] rfl rfl hHeld ?_
        refine Last.tk 7 87 #[Y,Y,Y,Y,Y,Y,Y,Y,Z,Z,Z,Z,Z,Z,Z] rfl rfl hHeld ?_
        refine Last.tk 8 88 #[Y,Y,Y,Y,Y,Y,Y,Y,Y,Z,Z,Z,Z,Z,Z] rfl rfl hHeld ?_
        refine Last.tk 9 89 #[Y,Y,Y,Y,Y,Y,Y,Y,Y,Y,Z,Z,Z,Z,Z] rfl rfl hHeld ?_
        refine Last.tk 10 90 #[Y,Y,Y,Y,Y,Y,Y,Y,Y,Y,Y,Z,Z,Z,Z] rfl rfl hHeld ?_
        refine Last.tk 11 91 #[Y,Y,Y,Y,Y,Y,Y,Y,Y,Y,Y,Y,Z,Z,Z] rfl rfl hHeld ?_
        refine Last.tk 12 92 #[Y,Y,Y,Y,Y,Y,Y,Y,Y,Y,Y,Y,Y,Z,Z] rfl rfl hHeld ?_
        refine Last.tk 13 93 #[Y,Y,Y,Y,Y,Y,Y,Y,Y,Y,Y,Y,Y,Y,Z] rfl rfl hHeld ?_
        refine Last.last_ (i := 14) (N := none) #[Y,Y,Y,Y,Y,Y,Y,Y,Y,Y,Y,Y,Y,Y,Y] rfl rfl (by kernel_rfl) (by decide) (fun K hK => ?_)
        go_simp
        refine hK.out _ _ ?_
        clear hK K
        try simp only [Act.put, setIfInBounds_toArray, set_cons_zero, set_cons_succ]
        refine Last.done_ (by kernel_rfl) ?_
        have K7 := HC14.out.drew
        generalize (w12.setCell ⟨a, 2, none⟩ (.slice (some ⟨b, o, none⟩) p r.icap)).drew = w14 at K7 ⊢
        clear HC14 x14_2 f2 hlt hcc hcd hcp
        have hsh : (List.take p (List.set (List.take 0 r.items ++ List.drop (0 + 1) r.items ++ List.drop (0 + (List.drop (0 + 1) r.items).length) r.items) p ((0 : Int), (0 : Int)))) = (List.drop 1 r.items) := cut_shift (j := 0) (HLn.out.trans HP.out) (Nat.zero_le _)
        have HLs14 : Hid (List.length (List.drop 1 r.items) = p) := hidp (by rw [← hsh]; exact HL14.out)
        rw [hsh] at K7
        have HK15 : Hid (KB E S w s [(w.heap.size, [.int .i64 x0.2, .int .i64 x0.1])] (AA ++ (a, ⟨r.iso, (r.count - 1), (List.drop 1 r.items), (some (b, o)), r.icap, none⟩) :: BB) w14) := hidp K7
        clear K7 hsh
        clear hw1 hb1 hb2
        have c3 : w14.cell? ⟨s.m, 3, none⟩ = some (.int .i64 s.mp.count) := HK15.out.map.1.cell 3 rfl
        have f3 : w14.frozen? ⟨s.m, 3, none⟩ = false := HK15.out.map.1.froz 3 (v := .int .i64 s.mp.count) rfl
        have f2 : w14.frozen? ⟨s.m, 2, none⟩ = false := HK15.out.map.1.froz 2 (v := pv s.mp.root) rfl
        have c2 : w14.cell? ⟨s.m, 2, none⟩ = some (.pointer (some ⟨n, 0, none⟩)) := by
          have h := HK15.out.map.1.cell 2 (v := pv s.mp.root) rfl
          rw [HROOT.out] at h; exact h
        have hmlt : s.m < w14.heap.size := HK15.out.map.1.1
        have hms : ¬ s.m = w.heap.size := by
          obtain ⟨S3, s3, R3, _, _, _, e1, _, _, hbx⟩ := HK15.out.ex
          intro e
          exact (hbx (w.heap.size, [.int .i64 x0.2, .int .i64 x0.1]) (by simp)).2.1 (by rw [← e, ← e1]; exact R3.inS_map)
        have hms' : ¬ w.heap.size = s.m := fun e => hms e.symm
        have g0 := (HK15.out.bx (b := w.heap.size) (vs := [.int .i64 x0.2, .int .i64 x0.1]) (by simp)).cell 0 rfl
        have g1 := (HK15.out.bx (b := w.heap.size) (vs := [.int .i64 x0.2, .int .i64 x0.1]) (by simp)).cell 1 rfl
        have hcb : 0 ≤ s.mp.count ∧ s.mp.count ≤ 100000000000 := by rw [HCN.out]; omega
        have hwc : IntKind.i64.wrap (s.mp.count - 1) = s.mp.count - 1 := by rw [Last.i64_w]; exact IntWalk.wrap64_in _ ⟨by omega, by omega⟩
        generalize hcw : s.mp.count = cc at c3 hwc hcb
        have HCC := hidp hcw
        clear hcw
        by_cases hz : cc - 1 = 0
        · have KF := KB.mpL (KB.mpL HK15.out { s.mp with count := 0 } (off := 3) (.int .i64 0) (by show 3 < 10; decide) rfl) { s.mp with count := 0, root := none } (off := 2) (.pointer none) (by show 2 < 10; decide) rfl
          have hmm2 : (s.setMp { s.mp with count := 0 }).m = s.m := rfl
          rw [hmm2] at KF
          clear hmm2
          have HKF := hidp KF
          clear KF
          go_wp2_with fail
          go_region_held3 (fun w' => w'.cell? ⟨w.heap.size, 0, none⟩ = some (.int .i64 x0.2) ∧ w'.cell? ⟨w.heap.size, 1, none⟩ = some (.int .i64 x0.1)) (go_keep) (fail)
          go_wp2
          refine bodyPost_ret (v := .tuple #[.int .i64 x0.1, .int .i64 x0.2, .bool true]) (by simp [results, Try.results67, go_sem]) rfl ?_
          have KZ := HKF.out
          rw [HAA.out, HBB.out] at KZ
          first
            | exact pop_fin (r' := ⟨r.iso, r.count - 1, List.drop 1 r.items, some (b, o), r.icap, none⟩) (mp' := { s.mp with count := 0, root := none }) hD HM.out HROOT.out HT.out.1 HT.out.2 HOK.out HW.out HPI.out HRI.out.1 HNE.out HEI.out rfl rfl rfl List.drop_one KZ.drew rfl rfl rfl (by rw [HCC.out]; exact hz.symm) rfl rfl rfl rfl (.inl ⟨by rw [HCC.out]; omega, rfl⟩) rfl
            | exact pop_fin (r' := ⟨r.iso, r.count - 1, List.drop 1 r.items, some (b, o), r.icap, none⟩) (mp' := { s.mp with count := 0, root := none }) hD HM.out HROOT.out HT.out.1 HT.out.2 HOK.out HW.out HPI.out HRI.out.1 HNE.out HEI.out rfl rfl rfl List.drop_one KZ rfl rfl rfl (by rw [HCC.out]; exact hz.symm) rfl rfl rfl rfl (.inl ⟨by rw [HCC.out]; omega, rfl⟩) rfl
        · have KF := KB.mpL HK15.out { s.mp with count := cc - 1 } (off := 3) (.int .i64 (cc - 1)) (by show 3 < 10; decide) rfl
          have HKF := hidp KF
          clear KF
          go_wp2_with fail
          go_region_held3 (fun w' => w'.cell? ⟨w.heap.size, 0, none⟩ = some (.int .i64 x0.2) ∧ w'.cell? ⟨w.heap.size, 1, none⟩ = some (.int .i64 x0.1)) (go_keep) (fail)
          go_wp2
          refine bodyPost_ret (v := .tuple #[.int .i64 x0.1, .int .i64 x0.2, .bool true]) (by simp [results, Try.results67, go_sem]) rfl ?_
          have KZ := HKF.out
          rw [HAA.out, HBB.out] at KZ
          first
            | exact pop_fin (r' := ⟨r.iso, r.count - 1, List.drop 1 r.items, some (b, o), r.icap, none⟩) (mp' := { s.mp with count := cc - 1 }) hD HM.out HROOT.out HT.out.1 HT.out.2 HOK.out HW.out HPI.out HRI.out.1 HNE.out HEI.out rfl rfl rfl List.drop_one KZ.drew rfl rfl rfl (by rw [HCC.out]) rfl rfl rfl rfl (.inr ⟨by rw [HCC.out]; exact hz, HROOT.out⟩) rfl
            | exact pop_fin (r' := ⟨r.iso, r.count - 1, List.drop 1 r.items, some (b, o), r.icap, none⟩) (mp' := { s.mp with count := cc - 1 }) hD HM.out HROOT.out HT.out.1 HT.out.2 HOK.out HW.out HPI.out HRI.out.1 HNE.out HEI.out rfl rfl rfl List.drop_one KZ rfl rfl rfl (by rw [HCC.out]) rfl rfl rfl rfl (.inr ⟨by rw [HCC.out]; exact hz, HROOT.out⟩) rfl
end Go.Proofs.Ytehnobbiiokcgaa.Bt.II
