/- The law FnBookings. -/
import Derived.Test.YtehnobbiiokcgaaBtBe
namespace Go.Proofs.Ytehnobbiiokcgaa.Bt.P
set_option linter.unusedVariables false
set_option linter.unusedSimpArgs false
open Go Go.RowKit Go.Proofs.Ytehnobbiiokcgaa.Bt
open Go.Proofs.Ytehnobbiiokcgaa.Bt.ND (Im Its EI hidp step_row fit_is)
open Go.Proofs.Ytehnobbiiokcgaa.Bt.II (ins flr from_ lt ord)

variable {w : World}

theorem infoV : (Try.prog.info? 62).map (fun i => (i.zero, i.size, i.bytes)) = some (some (.agg #[.int .u8 0, .int .u8 0]), 2, 2) := by kernel_rfl
theorem take_snoc2 {α : Type} {l : List α} {j : Nat} {x : α} (h : l[j]? = some x) (p : α → Bool) : (l.take (j + 1)).all p = ((l.take j).all p && p x) := by
  rw [List.take_add_one, h, List.all_append]; simp

set_option maxHeartbeats 8000000 in
set_option maxRecDepth 100000 in
/-- The law. -/
theorem law_bookings (d : Int) {v : Value} {l : List Iv} (hv : Ivs w v l) (hl : l.length ≤ 9223372036854775807) :
    Calls Try.prog 9 #[.int .i64 d, v] w (fun e w' => e = .returned (.bool true) ∧ Below w.heap.size w w') := by
  obtain ⟨a, cap, rfl, hc, h256⟩ := hv
  have HC := hidp hc
  have H256 := hidp h256
  have HF := hidp (fit_is w d)
  clear hc h256
  by_cases hbig : 2147483647 < l.length
  · go_enter Try.func9, Try.ntmps9
    go_wp2
    go_ret
    exact ⟨rfl, Below.refl _ _⟩
  have HA := fun w' => hidp (alivem_is (w := w'))
  by_cases hd : 2 ≤ d ∧ d ≤ 128
  case neg =>
    rw [decide_eq_false hd] at HF
    have HA0 := HA w
    clear hd HA
    go_enter Try.func9, Try.ntmps9
    go_wp2_with fail
    refine HF.out.mono ?_
    rintro e w' ⟨rfl, rfl⟩
    go_wp2_with fail
    refine HA0.out.mono ?_
    rintro e w1 ⟨rfl, hb1⟩
    have HB1 := hidp hb1
    clear hb1 HA0 HF
    go_wp2
    go_ret
    exact ⟨rfl, HB1.out⟩
  obtain ⟨D, rfl⟩ : ∃ D : Nat, d = (D : Int) := ⟨d.toNat, by omega⟩
  have hD1 : 2 ≤ D := by omega
  have hD2 : D ≤ 400 := by omega
  rw [decide_eq_true hd] at HF
  clear hd
  by_cases h60 : 60 < l.length
  · have HA0 := HA w
    clear HA
    go_enter Try.func9, Try.ntmps9
    go_wp2_with fail
    refine HF.out.mono ?_
    rintro e w' ⟨rfl, rfl⟩
    go_wp2_with fail
    refine HA0.out.mono ?_
    rintro e w1 ⟨rfl, hb1⟩
    have HB1 := hidp hb1
    clear hb1 HA0 HF
    go_wp2
    go_ret
    exact ⟨rfl, HB1.out⟩
  obtain ⟨i0, hi0, hz0, hz1, hz2⟩ := info_parts infoV
  have HI0 := hidp hi0
  have HZ0 := hidp hz0
  have HZ1 := hidp hz1
  have HZ2 := hidp hz2
  obtain ⟨j0, hj0, hy0, hy1, hy2⟩ := info_parts ND.infoM
  have HJ0 := hidp hj0
  have HY0 := hidp hy0
  have HY1 := hidp hy1
  have HY2 := hidp hy2
  clear hi0 hz0 hz1 hz2 hj0 hy0 hy1 hy2
  go_enter Try.func9, Try.ntmps9
  go_wp2_with fail
  refine HF.out.mono ?_
  rintro e w' ⟨rfl, hw'⟩
  subst w'
  clear HF
  go_wp2
  go_loopw [31, 5, 6] (fun i b u wr => ∃ j : Nat, j ≤ l.length ∧ i = .int .i64 j ∧ Hid (∃ B dl gb gd, BK w wr b u B dl gb gd ∧ Cal B dl ∧ dl.length ≤ j ∧ ∀ x ∈ dl, x.1 < 256 ∧ x.2 < 256)) (fun i _ _ _ => l.length - (intOf i).toNat)
  case atStart => exact ⟨0, Nat.zero_le _, rfl, hidp ⟨[], [], none, none, BK.start w, Cal.nil, Nat.le_refl _, fun x h => by cases h⟩⟩
  case round =>
    rename World => w0
    obtain ⟨j, hj, rfl, HR⟩ := hrel
    obtain ⟨B, dl, gb, gd, K, C, hdl, hd256⟩ := HR.out
    obtain ⟨ba, bcap, rfl⟩ := K.rb.len
    obtain ⟨ua, ucap, rfl⟩ := K.rd.len
    have HK := hidp K
    have HCal := hidp C
    have HD256 := hidp hd256
    have hBl : B.length ≤ 60 := by have := C.len; omega
    clear HR K C hd256
    by_cases hlt : j < l.length
    · obtain ⟨x, hx⟩ : ∃ x, l[j]? = some x := ⟨l[j], List.getElem?_eq_getElem hlt⟩
      obtain ⟨hx1, hx2⟩ := H256.out x (List.mem_of_getElem? hx)
      obtain ⟨xb, xo, rfl, cx0, cx1⟩ := HC.out j x hx
      have cx0' : w0.cell? ⟨xb, xo + j * 2, none⟩ = some (.int .u8 x.1) := (HK.out.below.cell (p := ⟨xb, xo + j * 2, none⟩) (World.block_lt_of_cell? w _ cx0)).trans cx0
      have cx1' : w0.cell? ⟨xb, xo + j * 2 + 1, none⟩ = some (.int .u8 x.2) := (HK.out.below.cell (p := ⟨xb, xo + j * 2 + 1, none⟩) (World.block_lt_of_cell? w _ cx1)).trans cx1
      have jlt : (j : Int) < (l.length : Int) := by omega
      obtain ⟨W1, hW1⟩ : ∃ W1, W1 = w0.alloc (.cells #[.int .u8 x.1, .int .u8 x.2] 62) := ⟨_, rfl⟩
      have hbx : Cells2 W1 w0.heap.size x := by rw [hW1]; exact ⟨(Bx.new w0 [.int .u8 x.1, .int .u8 x.2] 62).cell 0 rfl, (Bx.new w0 [.int .u8 x.1, .int .u8 x.2] 62).cell 1 rfl⟩
      have hbw : Below w0.heap.size w0 W1 := by rw [hW1]; exact (Below.refl _ _).alloc (Nat.le_refl _) _
      have hlw : w0.heap.size < W1.heap.size := by rw [hW1]; simp
      have HK1 := hidp (HK.out.call hbw)
      have HB1 := hidp hbx
      obtain ⟨k0, k1⟩ := hbx
      have wx1 : IntKind.i64.wrap (x.1 : Int) = (x.1 : Int) := by rw [Last.i64_w, IntWalk.wrap64_in _ ⟨by omega, by omega⟩]
      have hdesc := mdescend_is (w := W1) hD1 hD2 (row_its HK1.out.rb) (by omega) (x.1 : Int)
      rw [ins_self HCal.out.srt] at hdesc
      have HDE := hidp hdesc
      have hBX : w0.heap.size < W1.heap.size := hlw
      clear cx0 cx1 hx hbw hlw hdesc
      go_wp2_with fail
      try rw [← hW1]
      clear hW1
      refine HDE.out.mono ?_
      rintro e w2 ⟨du, dg, rfl, hrd, _, hb2⟩
      obtain ⟨da, dcap, hdu, hdg⟩ := row_get (E := EI) (f := fun x : Im => .int .i64 x.1) (g := fun x : Im => .int .i64 x.2) (fun _ => rfl) rfl hrd
      subst hdu
      have HDG := hidp hdg
      have hs2 := hb2.size
      have HB2 := hidp (HB1.out.below hb2 hBX)
      have HK2 := hidp (HK1.out.call hb2)
      clear hrd hb2 hdg HDE HB1 k0 k1 cx0' cx1'
      generalize hDD : (flr B ((x.1 : Int), 0)).toList = DD at HDG ⊢
      have HDD := hidp hDD
      have hDl : DD.length ≤ 1 := by rw [← hDD]; cases flr B ((x.1 : Int), 0) <;> simp
      clear hDD
      go_wp2
      go_loopw [42, 9] (fun i fr wq => ∃ p : Nat, p ≤ DD.length ∧ i = .int .i64 p ∧ fr = .bool ((DD.take p).all (fun y => decide (y.2 ≤ (x.1 : Int)))) ∧ Hid (Below w2.heap.size w2 wq)) (fun i _ _ => DD.length - (intOf i).toNat)
      case atStart => exact ⟨0, Nat.zero_le _, rfl, rfl, hidp (Below.refl _ _)⟩
      case round =>
        rename World => wq
        obtain ⟨p, hp, rfl, rfl, HBQ⟩ := hrel
        by_cases hplt : p < DD.length
        · obtain ⟨y, hy⟩ : ∃ y, DD[p]? = some y := ⟨DD[p], List.getElem?_eq_getElem hplt⟩
          obtain ⟨yb, rfl, cy0, cy1⟩ := HDG.out wq HBQ.out p y hy
          have HTA := hidp (take_snoc2 hy (fun y => decide (y.2 ≤ (x.1 : Int))))
          have plt : (p : Int) < (DD.length : Int) := by omega
          have hq2 : w2.heap.size ≤ wq.heap.size := HBQ.out.size
          have hblt : w0.heap.size < wq.heap.size := by omega
          obtain ⟨k0, k1⟩ := HB2.out.below HBQ.out (by omega)
          have HBN := hidp (HBQ.out.alloc hq2 (.cells #[.int .i64 y.1, .int .i64 y.2] 35))
          cases hfr : (DD.take p).all (fun y => decide (y.2 ≤ (x.1 : Int))) with
          | false =>
            rw [hfr] at HTA
            clear hy hfr
            go_wp2
            go_roundw
            case rel => exact ⟨p + 1, by omega, by go_num, by rw [HTA.out]; rfl, HBN⟩
            case measure => simp [intOf]; omega
          | true =>
            rw [hfr] at HTA
            clear hy hfr
            go_wp2
            go_roundw
            case rel => exact ⟨p + 1, by omega, by go_num, by rw [HTA.out]; try rfl, HBN⟩
            case measure => simp [intOf]; omega
        · obtain rfl : p = DD.length := by omega
          rw [List.take_length]
          have HK3 := hidp (HK2.out.call HBQ.out)
          have HB3 := hidp (HB2.out.below HBQ.out (by omega))
          have hq2 : w2.heap.size ≤ wq.heap.size := HBQ.out.size
          have hBX3 : w0.heap.size < wq.heap.size := by omega
          obtain ⟨k0, k1⟩ := HB3.out
          have hasc := mascend_is (w := wq) true hD1 hD2 (row_its HK3.out.rb) (by omega) (x.1 : Int)
          rw [ins_self HCal.out.srt] at hasc
          simp only [nOne, if_true] at hasc
          have HAS := hidp hasc
          obtain ⟨f1, hf1⟩ : ∃ f1, f1 = DD.all (fun y => decide (y.2 ≤ (x.1 : Int))) := ⟨_, rfl⟩
          rw [← hf1]
          have HF1 := hidp hf1
          clear hasc hf1 HBQ HK2 HB2 HDG hp hplt
          go_wp2_with fail
          refine HAS.out.mono ?_
          rintro e w4 ⟨eu, eg, rfl, hre, _, hb4⟩
          obtain ⟨ea, ecap, heu, heg⟩ := row_get (E := EI) (f := fun x : Im => .int .i64 x.1) (g := fun x : Im => .int .i64 x.2) (fun _ => rfl) rfl hre
          subst heu
          have HEG := hidp heg
          have hs4 := hb4.size
          have HB4 := hidp (HB3.out.below hb4 hBX3)
          have HK4 := hidp (HK3.out.call hb4)
          clear hre hb4 heg HAS HB3 HK3 k0 k1
          generalize hEE : asc true B (x.1 : Int) = EE at HEG ⊢
          have HEE := hidp hEE
          have hEl : EE.length ≤ 1 := by rw [← hEE]; show ((from_ B ((x.1 : Int), 0)).take 1).length ≤ 1; rw [List.length_take]; omega
          clear hEE
          go_wp2
          go_loopw [63, 9] (fun i fr wz => ∃ p : Nat, p ≤ EE.length ∧ i = .int .i64 p ∧ fr = .bool (f1 && (EE.take p).all (fun y => decide ((x.end : Int) ≤ y.1))) ∧ Hid (Below w4.heap.size w4 wz)) (fun i _ _ => EE.length - (intOf i).toNat)
          case atStart => exact ⟨0, Nat.zero_le _, rfl, by simp, hidp (Below.refl _ _)⟩
          case round =>
            rename World => wz
            obtain ⟨p, hp, rfl, rfl, HBQ⟩ := hrel
            by_cases hplt : p < EE.length
            · obtain ⟨y, hy⟩ : ∃ y, EE[p]? = some y := ⟨EE[p], List.getElem?_eq_getElem hplt⟩
              obtain ⟨yb, rfl, cy0, cy1⟩ := HEG.out _ HBQ.out p y hy
              have HTA := hidp (take_snoc2 hy (fun y => decide ((x.end : Int) ≤ y.1)))
              have plt : (p : Int) < (EE.length : Int) := by omega
              have hq2 : w4.heap.size ≤ wz.heap.size := HBQ.out.size
              have hblt : w0.heap.size < wz.heap.size := by omega
              have HBc := hidp (HB4.out.below HBQ.out (by omega))
              cases hfr : (f1 && (EE.take p).all (fun y => decide ((x.end : Int) ≤ y.1))) with
              | false =>
                have HT2 : Hid ((f1 && (EE.take (p + 1)).all (fun y => decide ((x.end : Int) ≤ y.1))) = false) := hidp (by rw [HTA.out, ← Bool.and_assoc, hfr]; rfl)
                have HBN := hidp (HBQ.out.alloc hq2 (.cells #[.int .i64 y.1, .int .i64 y.2] 35))
                clear hy hfr
                go_wp2
                go_quiet (fail)
                go_wp2
                go_roundw
                case rel => exact ⟨p + 1, by omega, by go_num, by rw [HT2.out], hidp (ND.Below.drewN HBN.out _)⟩
                case measure => simp [intOf]; omega
              | true =>
                have HT2 : Hid ((f1 && (EE.take (p + 1)).all (fun y => decide ((x.end : Int) ≤ y.1))) = decide ((x.end : Int) ≤ y.1)) := hidp (by rw [HTA.out, ← Bool.and_assoc, hfr]; rfl)
                clear hy hfr
                go_wp2
                obtain ⟨W5, hW5⟩ : ∃ W5, W5 = wz.alloc (.cells #[.int .i64 y.1, .int .i64 y.2] 35) := ⟨_, rfl⟩
                rw [← hW5]
                have hb5 : Below wz.heap.size wz W5 := by rw [hW5]; exact (Below.refl _ _).alloc (Nat.le_refl _) _
                have hs5 : W5.heap.size = wz.heap.size + 1 := by rw [hW5]; simp
                have hby : W5.cell? ⟨wz.heap.size, 0, none⟩ = some (.int .i64 y.1) := by rw [hW5]; exact (Bx.new wz [.int .i64 y.1, .int .i64 y.2] 35).cell 0 rfl
                have HB5 := hidp (And.intro (HBc.out.below hb5 hblt) (And.intro hby (And.intro hb5 hs5)))
                clear hW5 hb5 hby hs5
                refine region_class (C := fun w' => Cells2 w' w0.heap.size x ∧ w'.cell? ⟨wz.heap.size, 0, none⟩ = some (.int .i64 y.1) ∧ Below wz.heap.size wz w' ∧ wz.heap.size + 1 ≤ w'.heap.size) (by kernel_rfl) (by kernel_rfl) ⟨HB5.out.1, HB5.out.2.1, HB5.out.2.2.1.drew, Nat.le_of_eq HB5.out.2.2.2.symm⟩ ?_
                repeat (first
                  | go_big_quiet_skip
                  | (go_big_quiet_want
                     first
                     | (go_big_quiet_op; go_big_quiet_on)
                     | (apply Exists.intro
                        refine ⟨fun wq hq => ?_, ?_⟩
                        (obtain ⟨⟨f0, f1⟩, g0, f5, f6⟩ := hq
                         unfold Oper.quietAt
                         first
                         | (go_simp; done)
                         | (go_simp; with_reducible rfl)
                         | (go_simp
                            go_at_call 35
                            refine (end_is _ x hx1 hx2).mono ?_
                            rintro e w' ⟨rfl, hb3⟩
                            have h7 := hb3.size
                            exact ⟨rfl, Cells2.below ⟨f0, f1⟩ hb3 (by omega), (hb3.cell (p := ⟨wz.heap.size, 0, none⟩) (by show wz.heap.size < wq.heap.size; omega)).trans g0, f5.trans (hb3.mono (by omega)), by omega⟩))
                        try simp only [Act.put, List.setIfInBounds_toArray, List.set_cons_zero, List.set_cons_succ]
                        go_big_quiet_on)))
                refine wpQuiet_nil ?_
                intro w6 hq
                obtain ⟨_, _, h5, _⟩ := hq
                have HBN := hidp (HBQ.out.trans (h5.mono hq2))
                clear h5
                go_wp2
                go_roundw
                case rel => exact ⟨p + 1, by omega, by go_num, by rw [HT2.out]; try rfl, HBN⟩
                case measure => simp [intOf]; omega
            · obtain rfl : p = EE.length := by omega
              have hq2 : w4.heap.size ≤ wz.heap.size := HBQ.out.size
              have HK5 := hidp (HK4.out.call HBQ.out)
              have HB5 := hidp (HB4.out.below HBQ.out (by omega))
              have hBX5 : w0.heap.size < wz.heap.size := by omega
              have hfree : (f1 && (EE.take EE.length).all (fun y => decide ((x.end : Int) ≤ y.1))) = dl.all (fun y => !over x y) := by
                rw [List.take_length, HF1.out, ← HCal.out.free x, ← HDD.out, ← HEE.out]; rfl
              rw [hfree]
              obtain ⟨fb, hfb⟩ : ∃ fb, fb = dl.all (fun y => !over x y) := ⟨_, rfl⟩
              rw [← hfb]
              have HFB := hidp hfb
              obtain ⟨ua2, ucap2, hue, hug⟩ := row_get (E := EV) (f := fun x : Iv => .int .u8 x.1) (g := fun x : Iv => .int .u8 x.2) (fun _ => rfl) rfl HK5.out.rd
              injection hue with hue1 _ hue3
              subst hue1; subst hue3
              have HUG := hidp hug
              clear hfree hfb HF1 HDD HEE HEG HK4 HB4 HBQ hp hplt hug
              go_wp2
              go_loopw [78, 14] (fun i fr wv => ∃ p : Nat, p ≤ dl.length ∧ i = .int .i64 p ∧ fr = .bool ((dl.take p).all (fun y => !over x y)) ∧ Hid (Below wz.heap.size wz wv)) (fun i _ _ => dl.length - (intOf i).toNat)
              case atStart => exact ⟨0, Nat.zero_le _, rfl, rfl, hidp (Below.refl _ _)⟩
              case round =>
                rename World => wv
                obtain ⟨p, hp, rfl, rfl, HBQ⟩ := hrel
                have hq3 : wz.heap.size ≤ wv.heap.size := HBQ.out.size
                have hblt : w0.heap.size < wv.heap.size := by omega
                have hblt2 : w0.heap.size < wv.heap.size + 1 := by omega
                have HBc := hidp (HB5.out.below HBQ.out hBX5)
                by_cases hplt : p < dl.length
                · obtain ⟨y, hy⟩ : ∃ y, dl[p]? = some y := ⟨dl[p], List.getElem?_eq_getElem hplt⟩
                  obtain ⟨yb, rfl, cy0, cy1⟩ := HUG.out _ HBQ.out p y hy
                  have HTA := hidp (take_snoc2 hy (fun y => !over x y))
                  have plt : (p : Int) < (dl.length : Int) := by omega
                  obtain ⟨k0, k1⟩ := HBc.out
                  have HBN := hidp (HBQ.out.alloc hq3 (.cells #[.int .u8 y.1, .int .u8 y.2] 62))
                  have hy256 := HD256.out y (List.mem_of_getElem? hy)
                  cases hfr : (dl.take p).all (fun y => !over x y) with
                  | false =>
                    rw [hfr] at HTA
                    clear hy hfr
                    go_wp2
                    go_roundw
                    case rel => exact ⟨p + 1, by omega, by go_num, by rw [HTA.out]; rfl, HBN⟩
                    case measure => simp [intOf]; omega
                  | true =>
                    rw [hfr] at HTA
                    have HOV := hidp (overlaps_is (wv.alloc (.cells #[.int .u8 y.1, .int .u8 y.2] 62)) x y hx1 hx2 hy256.1 hy256.2)
                    clear hy hfr hy256
                    go_wp2_with fail
                    refine HOV.out.mono ?_
                    rintro e w6 ⟨rfl, hb6⟩
                    have HBM := hidp (HBN.out.trans (hb6.mono (by rw [World.size_alloc]; omega)))
                    clear hb6 HOV
                    go_wp2
                    go_roundw
                    case rel => exact ⟨p + 1, by omega, by go_num, by rw [HTA.out]; simp, HBM⟩
                    case measure => simp [intOf]; omega
                · obtain rfl : p = dl.length := by omega
                  have hall : (dl.take dl.length).all (fun y => !over x y) = fb := by rw [List.take_length]; exact HFB.out.symm
                  rw [hall]
                  have HK6 := hidp (HK5.out.call HBQ.out)
                  clear hall HUG HK5 HB5 hp hplt
                  cases fb with
                  | false =>
                    clear HFB
                    go_wp2
                    go_roundw
                    case rel => exact ⟨j + 1, by omega, by go_num, hidp ⟨B, dl, gb, gd, HK6.out, HCal.out, by omega, HD256.out⟩⟩
                    case measure => simp [intOf]; omega
                  | true =>
                    have HSTEP := hidp (HCal.out.step x HFB.out.symm)
                    obtain ⟨k0, k1⟩ := HBc.out
                    go_wp2_with (at_builtin; go_must (refine wpList_row rfl (.tmp 94) (.tmp 96) _ rfl 62 i0 _ 2 2 Try.underlying60 HI0.out HZ0.out HZ1.out HZ2.out rfl (by decide) (.slice ua dl.length ucap) dl.length (itemCells EV dl) gd rfl (HK6.out.rd.alloc _) ⟨wv.heap.size, 0, none⟩ 1 1 [.int .u8 x.1, .int .u8 x.2] rfl (by decide) rfl (fun q u hq => by rw [Addr.add_lit, Nat.zero_add]; exact (Bx.new wv [.int .u8 x.1, .int .u8 x.2] 62).cell q hq) (by simp [Value.oneCell']) (by unfold maxLen; omega) (by omega) ?_))
                    intro v7 w7 g7 hr7 hg7 hF7
                    have hva : (wv.alloc (.cells #[.int .u8 x.1, .int .u8 x.2] 62)).heap.size = wv.heap.size + 1 := by simp
                    have hgdl : ∀ k, gd = some k → k < w0.heap.size := fun k hk => by have h := HK.out.rd; rw [hk] at h; exact h.lt
                    have hgbl : ∀ k, gb = some k → k < w0.heap.size := fun k hk => by have h := HK.out.rb; rw [hk] at h; exact h.lt
                    have hs7 := hF7.size
                    rw [hva] at hs7
                    have hbox7 : Cells2 w7 w0.heap.size x := by
                      have h := HBc.out.below ((Below.refl wv.heap.size wv).alloc (Nat.le_refl _) (.cells #[.int .u8 x.1, .int .u8 x.2] 62)) hblt
                      refine ⟨(hF7.cell (x := ⟨w0.heap.size, 0, none⟩) (by rw [hva]; omega) (fun h => ?_)).trans h.1, (hF7.cell (x := ⟨w0.heap.size, 1, none⟩) (by rw [hva]; omega) (fun h => ?_)).trans h.2⟩
                      · have := hgdl _ h; exact Nat.lt_irrefl _ this
                      · have := hgdl _ h; exact Nat.lt_irrefl _ this
                    have hg7l : g7 < w7.heap.size := hr7.lt
                    have hg7w : w.heap.size ≤ g7 := by
                      rcases hg7 with h | h
                      · exact HK6.out.ge _ (.inr h)
                      · try rw [hva] at h
                        have := HK6.out.below.size; omega
                    have hrb7 : Row 2 w7 (.slice ba B.length bcap) B.length (itemCells EI B) gb := (HK6.out.rb.alloc (.cells #[.int .u8 x.1, .int .u8 x.2] 62)).keep hF7 (fun k hk h => HK6.out.ne k hk h)
                    have hB7 : Below w.heap.size w w7 := (HK6.out.below.alloc HK6.out.below.size (.cells #[.int .u8 x.1, .int .u8 x.2] 62)).trans (hF7.below (by rw [hva]; have := HK6.out.below.size; omega) (fun i hi => HK6.out.ge i (.inr hi)))
                    have HCL := hidp (clone_is (w := w7.drew) (row_its hrb7.drew) (by omega))
                    have hr7' : Row 2 w7 v7 (dl ++ [x]).length (itemCells EV (dl ++ [x])) (some g7) := by rw [itemCells_append, List.length_append]; exact hr7
                    have H7 := hidp (And.intro hr7' (And.intro hB7 (And.intro hg7l hg7w)))
                    have HX7 := hidp hbox7
                    have hsz7 : w0.heap.size < w7.heap.size := by omega
                    obtain ⟨k0', k1'⟩ := hbox7
                    obtain ⟨va7, vc7, hv7⟩ := hr7.len
                    subst hv7
                    clear hr7 hg7 hF7 hva hgdl hgbl hs7 hrb7 hB7 hr7' hg7l hg7w k0 k1 HBQ HBc hq3 hblt hblt2
                    go_wp2
                    go_region_held3 (fun w' => w'.cell? ⟨w0.heap.size, 0, none⟩ = some (.int .u8 x.1) ∧ w'.cell? ⟨w0.heap.size, 1, none⟩ = some (.int .u8 x.2)) (go_keep)
                      ((first
                        | (go_at_call 38
                           refine HCL.out.mono ?_
                           rintro e w8 ⟨uc, gc, rfl, hrc, hgc, hb8⟩
                           have H8 := hidp (And.intro hrc (And.intro hgc hb8))
                           have HX8 := hidp (Cells2.below HX7.out ((Below.refl w7.heap.size w7).drew.trans hb8) hsz7)
                           obtain ⟨ca, ccap, hca⟩ := hrc.len
                           subst hca
                           have m0 := HX8.out.1
                           have m1 := HX8.out.2
                           have hsz8 : w7.heap.size ≤ w8.heap.size := hb8.size
                           clear hrc hgc hb8)
                        | (go_at_call 35
                           refine (end_is _ x hx1 hx2).mono ?_
                           rintro e w9 ⟨rfl, hb9⟩
                           have H9 := hidp (And.intro (ND.Row.below H8.out.1 hb9) hb9)
                           have HX9 := hidp (Cells2.below HX8.out hb9 (by omega))
                           have n0 := HX9.out.1
                           have n1 := HX9.out.2
                           have hsz9 : w8.heap.size ≤ w9.heap.size := hb9.size
                           clear hb9)
                        | (go_at_call 37
                           refine (mset_is hD1 hD2 (l := B ++ [itm x]) (row_its H10.out.1) (by rw [List.length_append]; simp; omega)).mono ?_
                           rintro e w11 ⟨uf, uu, g11, rfl, hr11, hg11, hb11⟩
                           have H11 := hidp (And.intro hr11 (And.intro hg11 hb11))
                           have HX11 := hidp (Cells2.below HX10.out hb11 (by omega))
                           have p0 := HX11.out.1
                           have p1 := HX11.out.2
                           clear hr11 hg11 hb11)
                        | (refine step_row (by rfl) _ _ _ (by rfl) 35 j0 _ 2 16 Try.underlying22 HJ0.out HY0.out HY1.out HY2.out (by rfl) (by decide) (.slice ca B.length ccap) B.length (itemCells EI B) gc (by rfl) (H9.out.1.alloc _) ⟨w9.heap.size, 0, none⟩ 1 1 [.int .i64 (x.1 : Int), .int .i64 (x.end : Nat)] (by simp [Act.eval]) (by decide) (by rfl) (fun q u hq => by rw [Addr.add_lit, Nat.zero_add]; exact (Bx.new w9 [.int .i64 (x.1 : Int), .int .i64 (x.end : Nat)] 35).cell q hq) (by simp [Value.oneCell']) (by unfold maxLen; omega) (by omega) ?_
                           intro v10 w10 g10 hr10 hg10 hF10
                           have hr10' : Row 2 w10 v10 (B ++ [itm x]).length (itemCells EI (B ++ [itm x])) (some g10) := by rw [itemCells_append, List.length_append]; exact hr10
                           have H10 := hidp (And.intro hr10' hF10)
                           have HX10 : Hid (Cells2 w10 w0.heap.size x) := hidp ⟨(hF10.cell (x := ⟨w0.heap.size, 0, none⟩) (by rw [World.size_alloc]; show w0.heap.size < w9.heap.size + 1; omega) (fun h => by have h2 := H8.out.2.1 _ h; have h3 : w7.heap.size ≤ w0.heap.size := h2; omega)).trans ((HX9.out.below ((Below.refl w9.heap.size w9).alloc (Nat.le_refl _) _) (by omega)).1), (hF10.cell (x := ⟨w0.heap.size, 1, none⟩) (by rw [World.size_alloc]; show w0.heap.size < w9.heap.size + 1; omega) (fun h => by have h2 := H8.out.2.1 _ h; have h3 : w7.heap.size ≤ w0.heap.size := h2; omega)).trans ((HX9.out.below ((Below.refl w9.heap.size w9).alloc (Nat.le_refl _) _) (by omega)).2)⟩
                           have o0 := HX10.out.1
                           have o1 := HX10.out.2
                           have hsz10 : w9.heap.size < w10.heap.size := by have h := hF10.size; rw [World.size_alloc] at h; omega
                           obtain ⟨a10, c10, hv10⟩ := hr10.len
                           subst hv10
                           clear hr10 hg10 hF10 hr10')))
                    have HFIN : Hid (BK w w11 uu (.slice va7 (dl.length + 1) vc7) (put lt B (itm x)) (dl ++ [x]) g11 (some g7)) := hidp (by
                      have e1 : ins (B ++ [itm x]) = put lt B (itm x) := ins_add HCal.out.srt (itm x)
                      have hr11 := H11.out.1
                      rw [e1] at hr11
                      have hF10 := H10.out.2
                      have hne : ¬ gc = some g7 := fun h => by
                        have h2 := H8.out.2.1 _ h
                        have h3 : w7.heap.size ≤ g7 := h2
                        have := H7.out.2.2.1; omega
                      have hrd : Row 2 w11 (.slice va7 (dl.length + 1) vc7) (dl ++ [x]).length (itemCells EV (dl ++ [x])) (some g7) :=
                        ND.Row.below (((ND.Row.below (ND.Row.below H7.out.1.drew H8.out.2.2) H9.out.2).alloc _).keep hF10 (fun k hk h => hne (by rw [h, Option.some.inj hk]))) H11.out.2.2
                      have hB9 : Below w.heap.size w w9 := (H7.out.2.1.drew.trans (H8.out.2.2.mono H7.out.2.1.drew.size)).trans (H9.out.2.mono (by have := H7.out.2.1.size; omega))
                      have hB10 : Below w.heap.size w w10 := (hB9.alloc hB9.size _).trans (hF10.below (by rw [World.size_alloc]; have := hB9.size; omega) (fun i hi => by have h2 := H8.out.2.1 _ hi; have h3 : w7.heap.size ≤ i := h2; have := H7.out.2.1.size; omega))
                      refine ⟨hr11, hrd, fun k hk => ?_, fun k h1 h2 => ?_, hB10.trans (H11.out.2.2.mono hB10.size)⟩
                      · rcases hk with hk | hk
                        · have := H11.out.2.1 _ hk
                          have := hB10.size; omega
                        · rw [← Option.some.inj hk]; exact H7.out.2.2.2
                      · have h3 := H11.out.2.1 _ h1
                        have h4 := Option.some.inj h2
                        have := H7.out.2.2.1
                        omega)
                    have H256' : Hid (∀ y ∈ dl ++ [x], y.1 < 256 ∧ y.2 < 256) := hidp fun y hy => by
                      rcases List.mem_append.1 hy with h | h
                      · exact HD256.out y h
                      · obtain rfl : y = x := by simpa using h
                        exact ⟨hx1, hx2⟩
                    clear p0 p1 o0 o1 n0 n1 m0 m1 H7 H8 H9 H10 H11 HX7 HX8 HX9 HX10 HX11
                    go_wp2
                    go_roundw
                    case rel => exact ⟨j + 1, by omega, by go_num, hidp ⟨put lt B (itm x), dl ++ [x], g11, some g7, HFIN.out, HSTEP.out, by rw [List.length_append]; simp; omega, H256'.out⟩⟩
                    case measure => simp [intOf]; omega
    · obtain rfl : j = l.length := by omega
      have hlen := HCal.out.len
      have HA0 := HA w0
      rw [hlen] at *
      clear HA
      go_wp2_with fail
      refine HA0.out.mono ?_
      rintro e w1 ⟨rfl, hb1⟩
      have HB1 := hidp (HK.out.below.trans (hb1.mono HK.out.below.size))
      clear hb1 HA0
      go_wp2
      go_ret
      exact ⟨rfl, HB1.out⟩
end Go.Proofs.Ytehnobbiiokcgaa.Bt.P
