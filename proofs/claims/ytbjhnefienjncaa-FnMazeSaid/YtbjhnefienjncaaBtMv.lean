/- FnMaze: the walk. -/
import Derived.Test.YtbjhnefienjncaaBtMe
import Derived.Test.YtbjhnefienjncaaBtMu
namespace Go.Proofs.Ytbjhnefienjncaa.Bt.Mz
set_option linter.unusedVariables false
set_option linter.unusedSimpArgs false
open Go Go.RowKit Go.Proofs.Ytbjhnefienjncaa.Bt

theorem layer_len (wall : Nat → Bool) (f k : Nat) : (layer wall f k).length ≤ 64 := by
  have := List.length_filter_le (fun c => dist wall f c == k) (List.range 64)
  rw [List.length_range] at this; exact this
theorem ci_len (l : List Nat) : (ci l).length = l.length := List.length_map ..
theorem walls_succ (wall : Nat → Bool) (j : Nat) : (List.range (j + 1)).filter wall = (List.range j).filter wall ++ (if wall j = true then [j] else []) := by
  rw [List.range_succ, List.filter_append]
  by_cases h : wall j = true
  · rw [if_pos h, List.filter_cons_of_pos h]; rfl
  · rw [if_neg h, List.filter_cons_of_neg h]; rfl
theorem nv_iv (l : List Nat) : nv l = Z.iv (ci l) := by unfold Z.iv nv ci; rw [List.map_map]; rfl
theorem NR.ints {w wx : World} {u : Value} {l : List Nat} {g : Option Nat} (h : NR w wx u l g) : Ints wx u (ci l) := by
  refine Row.sls (f := Value.int .i64) (g := g) ?_
  have := h.1
  rw [nv_iv] at this
  rw [ci_len]; exact this
theorem nb_len (k : Nat) : (nb k).length ≤ 4 := by
  unfold nb
  simp only [List.length_append]
  have a1 := one_le (8 ≤ k) (k - 8)
  have a2 := one_le (0 < k % 8) (k - 1)
  have a3 := one_le (k % 8 < 7) (k + 1)
  have a4 := one_le (k < 56) (k + 8)
  omega
theorem near_len (l : List Nat) : (near l).length ≤ 4 * l.length := by
  induction l with
  | nil => simp [near]
  | cons a l ih =>
    unfold near at ih ⊢
    rw [List.flatMap_cons, List.length_append, List.length_cons]
    have := nb_len a
    omega
theorem near_take {l : List Nat} {i x : Nat} (h : l[i]? = some x) : near (l.take (i + 1)) = near (l.take i) ++ nb x := by
  unfold near
  rw [List.take_add_one, h]; simp [List.flatMap_append]
theorem NR.call {w wx w2 : World} {u : Value} {l : List Nat} {g : Option Nat} (h : NR w wx u l g) (hb : Below wx.heap.size wx w2) : NR w w2 u l g :=
  ⟨h.1.keep (fr_of hb) (fun b e h' => by have := h.1; rw [e] at this; exact absurd this.lt (Nat.not_lt.2 h')), h.2.1, h.2.2.trans (hb.mono h.2.2.size)⟩
theorem infoSl : (Try.prog.info? 23).map (·.size) = some 1 := by kernel_rfl
theorem run_index65 {vs : List Value} (hl : vs.length = 65) {k : Nat} (hk : k < 65) {x : Value} (hx : vs[k]? = some x) (w : World) : (Instr.index 26 (.agg vs.toArray) (.int .i64 (k : Int))).run Try.prog w = .ok x w := by
  cases hq : Try.prog.info? 23 with
  | none => have h := infoSl; rw [hq] at h; cases h
  | some i =>
    have h := infoSl
    rw [hq] at h
    have h2 : i.size = 1 := Option.some.inj h
    have k65 : (k : Int) < 65 := by omega
    simp [Instr.index, asIntOf, run_underlying Try.underlying26, run_underlying Try.underlying23, part, isAgg, sizeOf, typeInfo, hq, h2, hx, k65]
    intro h; omega
theorem NR.app {w wx w2 : World} {u v : Value} {l m : List Nat} {g g2 : Option Nat} (h : NR w wx u l g) (hr : Row 1 w2 v (l.length + m.length) (nv l ++ nv m) g2) (hg : g = g2 ∨ ∃ b, g2 = some b ∧ wx.heap.size ≤ b) (hF : Fr (fun k => g = some k) wx w2) : NR w w2 v (l ++ m) g2 := by
  refine ⟨by unfold nv; rw [List.length_append, List.map_append]; exact hr, fun b e => ?_, h.2.2.trans (hF.below h.2.2.size (fun i hi => h.2.1 i hi))⟩
  rcases hg with hg | ⟨b', e', hb⟩
  · exact h.2.1 b (by rw [hg]; exact e)
  · rw [e'] at e
    have := Option.some.inj e
    have := h.2.2.size
    omega

variable {w : World}
/-- While the search goes on: what is at the front, what was seen. -/
structure FS (w wr : World) (W f k : Nat) (vs : List Value) (u v : Value) (s : List Int) : Prop where
  front : Ints wr u (ci (layer (wbit W) f k))
  seen : Ints wr v s
  is : SeenI (wbit W) f k s
  len : s.length ≤ 200 + 64 * k
  far : ∀ k v, vs[k]? = some v → Ints wr v (ci (layer (wbit W) f k))
  below : Below w.heap.size w wr
theorem FS.call {wr w2 : World} {W f k : Nat} {vs : List Value} {u v : Value} {s : List Int} (h : FS w wr W f k vs u v s) (hb : Below wr.heap.size wr w2) : FS w w2 W f k vs u v s :=
  ⟨h.front.below hb, h.seen.below hb, h.is, h.len, fun k v hk => (h.far k v hk).below hb, h.below.trans (hb.mono h.below.size)⟩

set_option maxHeartbeats 8000000 in
set_option maxRecDepth 100000 in
/-- 'FnMaze' -/
theorem law_maze {W f : Nat} (hW : W < 2 ^ 64) (hf : f < 256) (w : World) : Calls Try.prog 3 #[.int .u64 W, .int .u8 f] w (fun e w' => e = .returned (.bool true) ∧ Below w.heap.size w w') := by
  obtain ⟨i0, hi0, hz0, hz1, hz2⟩ := info_parts infoN
  have HI0 := hidp hi0
  have HZ0 := hidp hz0
  have HZ1 := hidp hz1
  have HZ2 := hidp hz2
  clear hi0 hz0 hz1 hz2
  have hf64 : f % 64 < 64 := Nat.mod_lt _ (by decide)
  have HS : Hid (NR w w (.slice none 0 0) [] none) := hidp ⟨Row.nil _ _, fun k h => by (cases h), Below.refl _ _⟩
  go_enter Try.func3, Try.ntmps3
  go_wp2
  go_loopw [14, 5] (fun i v wr => ∃ j : Nat, ∃ g, j ≤ 64 ∧ i = .int .i64 j ∧ Hid (NR w wr v ((List.range j).filter (wbit W)) g)) (fun i _ _ => 64 - (intOf i).toNat)
  case atStart => exact ⟨0, none, by decide, rfl, HS⟩
  case round =>
    rename World => w1
    clear HS
    obtain ⟨j, g, hj, rfl, HR⟩ := hrel
    by_cases jlt' : j < 64
    · have jlt : (j : Int) < 64 := by omega
      have jge : (0 : Int) ≤ (j : Int) := by omega
      have HWS := hidp (walls_succ (wbit W) j)
      have hlen : ((List.range j).filter (wbit W)).length ≤ j := by
        have := List.length_filter_le (wbit W) (List.range j)
        rw [List.length_range] at this; exact this
      obtain ⟨L, hL⟩ : ∃ L, L = (List.range j).filter (wbit W) := ⟨_, rfl⟩
      rw [← hL] at HR HWS hlen
      clear hL
      cases hb : wbit W j with
      | true =>
        have hbit := bit_one hW hb
        have HN1 : Hid ((List.range (j + 1)).filter (wbit W) = L ++ [j]) := hidp (by rw [HWS.out, if_pos hb])
        obtain ⟨av, cv, hv⟩ := HR.out.1.len
        subst hv
        clear hb
        go_wp2_with (at_builtin; go_must (refine wpList_row rfl (.tmp 22) (.tmp 24) _ rfl 3 i0 _ 1 8 Try.underlying23 HI0.out HZ0.out HZ1.out HZ2.out rfl (by decide) (.slice av L.length cv) L.length (nv L) g rfl (HR.out.1.alloc _) ⟨w1.heap.size, 0, none⟩ 1 1 [.int .i64 (j : Int)] rfl (by decide) rfl (fun q u hq => by rw [Addr.add_lit, Nat.zero_add]; exact (Bx.new w1 [.int .i64 (j : Int)] 3).cell q hq) (by simp [Value.oneCell']) (by unfold maxLen; omega) (by omega) ?_))
        intro v2 w2 g2 hr2 hg2 hF2
        have HN := hidp (HR.out.snoc (x := j) hr2 (by first | exact hg2 | exact .inr hg2) (by first | exact hF2 | exact hF2.mono (fun _ h => h.elim)))
        clear hr2 hg2 hF2
        go_wp2
        go_roundw
        case rel => exact ⟨j + 1, some g2, by omega, by go_num, hidp (by rw [HN1.out]; exact HN.out)⟩
        case measure => simp [intOf]; omega
      | false =>
        have hbit := bit_zero hW hb
        have HN1 : Hid ((List.range (j + 1)).filter (wbit W) = L) := hidp (by rw [HWS.out, hb]; simp)
        clear hb
        go_wp2
        go_roundw
        case rel => exact ⟨j + 1, g, by omega, by go_num, hidp (by rw [HN1.out]; exact HR.out)⟩
        case measure => simp [intOf]; omega
    · have hj64 : j = 64 := by omega
      have jnlt : ¬ (j : Int) < 64 := by omega
      rw [hj64] at HR
      have hwl : (walls (wbit W)).length ≤ 64 := by
        have := List.length_filter_le (wbit W) (List.range 64)
        rw [List.length_range] at this; exact this
      have HWL := hidp hwl
      have HRw : Hid (NR w w1 _ (walls (wbit W)) g) := hidp HR.out
      clear HR hwl hj64 hj jlt'
      obtain ⟨av, cv, hv⟩ := HRw.out.1.len
      subst hv
      have hfw : IntKind.i64.wrap ((f : Int) % 64) = (f : Int) % 64 := by rw [Last.i64_w, IntWalk.wrap64_in _ ⟨by omega, by omega⟩]
      have hba := (Below.refl w1.heap.size w1).alloc (Nat.le_refl _) (.cells #[.int .i64 ((f : Int) % 64)] 3)
      have hHere : Ints (w1.alloc (.cells #[.int .i64 ((f : Int) % 64)] 3)) (.slice (some ⟨w1.heap.size, 0, none⟩) 1 1) [((f % 64 : Nat) : Int)] := ⟨_, 1, rfl, fun q x hq => ⟨_, 0, rfl, by
        rw [Nat.zero_add]
        refine (Bx.new w1 [.int .i64 ((f : Int) % 64)] 3).cell q ?_
        rw [show (f : Int) % 64 = ((f % 64 : Nat) : Int) by omega]
        have e : ([.int .i64 ((f % 64 : Nat) : Int)] : List Value) = ([((f % 64 : Nat) : Int)] : List Int).map (Value.int .i64) := rfl
        rw [e, List.getElem?_map, hq]; rfl⟩⟩
      have hdel := Z.delete_is hHere (HRw.out.ints.below hba) (by simp) (by rw [ci_len]; have := HWL.out; omega)
      have HD := hidp hdel
      have HBA := hidp hba
      clear hdel hHere hba
      go_wp2_with fail
      refine HD.out.mono ?_
      rintro e w2 ⟨v2, B2, rfl, hBo2, hown2, hb2⟩
      have hlay : (Z.dels (ci (walls (wbit W))) (IU.ins (Z.its [((f % 64 : Nat) : Int)]))).map (·.1) = ci (layer (wbit W) (f % 64) 0) := front_zero hf64
      rw [hlay] at hown2
      have hB2 : Below w1.heap.size w1 w2 := HBA.out.trans (hb2.mono HBA.out.size)
      have hfr : Ints w2 v2 (ci (layer (wbit W) (f % 64) 0)) := Z.Made.ints hown2
      have HFR := hidp hfr
      obtain ⟨a2, c2, A2, hv2, ha2, hi2⟩ := Z.ints_flat hfr
      subst hv2
      have HR2 := hidp (HRw.out.call hB2)
      have HCL := hidp (Z.clone_is HR2.out.ints (by rw [ci_len]; have := HWL.out; omega))
      have HA2 := hidp ha2
      have HIC := hidp hi2
      have HOC := hidp (Z.iv_one (ci (layer (wbit W) (f % 64) 0)))
      have HL0 := hidp (layer_len (wbit W) (f % 64) 0)
      clear hB2 hBo2 hb2 hown2 hlay hfr ha2 hi2 HD HBA HRw
      go_wp2_with fail
      refine HCL.out.mono ?_
      rintro e w3 ⟨u3, g3, rfl, hr3, hg3, hb3⟩
      have H3 := hidp (And.intro hr3 (And.intro hg3 hb3))
      obtain ⟨a3, c3, hu3⟩ := hr3.len
      subst hu3
      clear hr3 hg3 hb3 HCL
      go_wp2_with (at_builtin; go_must (refine Z.wpList_rowE rfl (.tmp 34) (.tmp 35) _ rfl 3 i0 _ 1 8 Try.underlying23 HI0.out HZ0.out HZ1.out HZ2.out rfl (by decide) (.slice a3 (ci (walls (wbit W))).length c3) (ci (walls (wbit W))).length (Z.iv (ci (walls (wbit W)))) g3 rfl H3.out.1 A2 (ci (layer (wbit W) (f % 64) 0)).length c2 (Z.iv (ci (layer (wbit W) (f % 64) 0))) ⟨_, rfl, HA2.out⟩ (by simp) (HIC.out _ H3.out.2.2) HOC.out (by unfold maxLen; rw [ci_len, ci_len]; have := HWL.out; have := HL0.out; omega) (by rw [ci_len, ci_len]; have := HWL.out; have := HL0.out; omega) ?_))
      intro v4 w4 g4 hr4 hg4 hF4
      have hB4 : Below w2.heap.size w2 w4 := H3.out.2.2.trans (hF4.below H3.out.2.2.size (fun i hi => H3.out.2.1 i hi))
      have hs4 : Ints w4 v4 (ci (walls (wbit W)) ++ ci (layer (wbit W) (f % 64) 0)) := Row.sls (g := g4) (by rw [List.length_append, List.map_append]; exact hr4)
      have hl4 : (ci (walls (wbit W)) ++ ci (layer (wbit W) (f % 64) 0)).length ≤ 128 := by rw [List.length_append, ci_len, ci_len]; have := HWL.out; have := HL0.out; omega
      have HSI := hidp (Z.insert_is hs4 (by omega))
      have HB4 := hidp (HR2.out.2.2.trans (hB4.mono HR2.out.2.2.size))
      have HF4 := hidp (HFR.out.below hB4)
      have HL4 := hidp hl4
      clear hr4 hg4 hF4 hB4 hs4 hl4 H3 HR2 HFR HIC
      go_wp2_with fail
      refine HSI.out.mono ?_
      rintro e w5 ⟨v5, B5, rfl, hB5, hown5, hb5⟩
      have hse : Ints w5 v5 (Z.set (ci (walls (wbit W)) ++ ci (layer (wbit W) (f % 64) 0))) := Z.Made.ints hown5
      have hsl := Z.set_length (ci (walls (wbit W)) ++ ci (layer (wbit W) (f % 64) 0))
      have HF5 := hidp (HF4.out.below hb5)
      have HB5 := hidp (HB4.out.trans (hb5.mono HB4.out.size))
      have HS5 := hidp (And.intro hse (show (Z.set (ci (walls (wbit W)) ++ ci (layer (wbit W) (f % 64) 0))).length ≤ 200 + 64 * 0 by have := HL4.out; omega))
      have HRE := hidp (reached_is (w := w5) hW hf)
      clear hB5 hown5 hb5 hse hsl HF4 HB4 HL4 HSI
      go_wp2_with fail
      refine HRE.out.mono ?_
      rintro e w6 ⟨vs, rfl, hvl, hvs, hb6⟩
      have HFS : Hid (FS w w6 W (f % 64) 0 vs (.slice a2 (ci (layer (wbit W) (f % 64) 0)).length c2) v5 (Z.set (ci (walls (wbit W)) ++ ci (layer (wbit W) (f % 64) 0)))) := hidp ⟨HF5.out.below hb6, HS5.out.1.below hb6, seenI_zero hf64, HS5.out.2, hvs, HB5.out.trans (hb6.mono HB5.out.size)⟩
      clear hvs hb6 HF5 HS5 HB5 HRE HWL HL0
      go_wp2
      go_loopw [7, 8, 41] (fun u v i wr => ∃ k : Nat, ∃ s, k ≤ 65 ∧ i = .int .i64 k ∧ Hid (FS w wr W (f % 64) k vs u v s)) (fun _ _ i _ => 65 - (intOf i).toNat)
      case atStart => exact ⟨0, _, by decide, rfl, HFS⟩
      case round =>
        rename World => w7
        clear HFS
        obtain ⟨k, s, hk, rfl, HR⟩ := hrel
        by_cases klt' : k < 65
        · have klt : (k : Int) < 65 := by omega
          have kge : (0 : Int) ≤ (k : Int) := by omega
          obtain ⟨x, hx⟩ : ∃ x, vs[k]? = some x := ⟨_, List.getElem?_eq_getElem (by omega)⟩
          have HX := hidp (HR.out.far k x hx)
          have hix := run_index65 hvl klt' hx
          have hlk := layer_len (wbit W) (f % 64) k
          obtain ⟨au, cu, hu, _⟩ := HR.out.front
          subst hu
          have HEQ := hidp (Z.equali_is HR.out.front HX.out (by rw [ci_len]; omega))
          have HLK := hidp hlk
          clear hx HX hlk
          go_wp2_with fail
          refine HEQ.out.mono ?_
          rintro e w8 ⟨rfl, n8, hw8⟩
          have HR8 : Hid (FS w w8 W (f % 64) k vs (.slice au (ci (layer (wbit W) (f % 64) k)).length cu) _ s) := hidp (HR.out.call (by rw [hw8]; exact ⟨rfl, rfl, rfl, Nat.le_refl _, fun _ _ => rfl⟩))
          obtain ⟨a0, c0, e0, hc8⟩ := HR8.out.front.at
          injection e0 with e1 e2 e3
          subst e1; subst e3
          have HC8 := hidp hc8
          have HN0 : Hid (NR w8 w8 (.slice none 0 0) (near ((layer (wbit W) (f % 64) k).take 0)) none) := hidp ⟨by rw [List.take_zero]; exact Row.nil _ _, fun k h => (by cases h), Below.refl _ _⟩
          clear hw8 hc8 e2 HR HEQ hix
          go_wp2
          go_loopw [50, 11] (fun i v wr => ∃ q : Nat, ∃ g, q ≤ (layer (wbit W) (f % 64) k).length ∧ i = .int .i64 q ∧ Hid (NR w8 wr v (near ((layer (wbit W) (f % 64) k).take q)) g)) (fun i _ _ => (layer (wbit W) (f % 64) k).length - (intOf i).toNat)
          case atStart => exact ⟨0, none, Nat.zero_le _, rfl, HN0⟩
          case round =>
            rename World => w9
            clear HN0
            obtain ⟨q, g, hq, rfl, HQ⟩ := hrel
            by_cases qlt' : q < (layer (wbit W) (f % 64) k).length
            · have qlt : (q : Int) < ((ci (layer (wbit W) (f % 64) k)).length : Int) := by rw [ci_len]; omega
              have q64 : (q : Int) < 64 := by have := HLK.out; omega
              obtain ⟨c, hc⟩ : ∃ c, (layer (wbit W) (f % 64) k)[q]? = some c := ⟨_, List.getElem?_eq_getElem qlt'⟩
              have c64 : c < 64 := (layer_mem.1 (List.mem_iff_getElem?.2 ⟨q, hc⟩)).1
              have hci : (ci (layer (wbit W) (f % 64) k))[q]? = some (c : Int) := by unfold ci; rw [List.getElem?_map, hc]; rfl
              obtain ⟨b, off, hau, hbl, cx⟩ := HC8.out q _ hci
              subst hau
              have cx' : w9.cell? ⟨b, off + q, none⟩ = some (.int .i64 (c : Int)) := (HQ.out.2.2.cell (p := ⟨b, off + q, none⟩) hbl).trans cx
              have HNT := hidp (near_take hc)
              have hnl := near_len ((layer (wbit W) (f % 64) k).take q)
              have htl : ((layer (wbit W) (f % 64) k).take q).length ≤ 64 := by rw [List.length_take]; have := HLK.out; omega
              have HNL : Hid ((near ((layer (wbit W) (f % 64) k).take q)).length ≤ 256) := hidp (by omega)
              have HBE := hidp (beside_is w9 c64)
              have HNB := hidp (nb_len c)
              obtain ⟨av9, cv9, hv9⟩ := HQ.out.1.len
              subst hv9
              clear hc hci cx hnl htl
              go_wp2_with fail
              refine HBE.out.mono ?_
              rintro e w10 ⟨u10, g10, rfl, hn10⟩
              have HQ10 := hidp (HQ.out.call hn10.2.2)
              obtain ⟨a10, c10, A10, hu10, ha10, hi10⟩ := Z.ints_flat hn10.ints
              subst hu10
              have HA10 := hidp ha10
              have HI10 := hidp (hi10 w10 (Below.refl _ _))
              have HOC10 := hidp (Z.iv_one (ci (nb c)))
              clear hn10 ha10 hi10 HBE HQ
              go_wp2_with (at_builtin; go_must (refine Z.wpList_rowE rfl (.tmp 54) (.tmp 56) _ rfl 3 i0 _ 1 8 Try.underlying23 HI0.out HZ0.out HZ1.out HZ2.out rfl (by decide) (.slice av9 (near ((layer (wbit W) (f % 64) k).take q)).length cv9) (near ((layer (wbit W) (f % 64) k).take q)).length (nv (near ((layer (wbit W) (f % 64) k).take q))) g rfl HQ10.out.1 A10 (ci (nb c)).length c10 (Z.iv (ci (nb c))) ⟨_, rfl, HA10.out⟩ (by simp) HI10.out HOC10.out (by unfold maxLen; rw [ci_len]; have := HNL.out; have := HNB.out; omega) (by rw [ci_len]; have := HNL.out; have := HNB.out; omega) ?_))
              intro v11 w11 g11 hr11 hg11 hF11
              rw [ci_len, ← nv_iv] at hr11
              have HN := hidp (HQ10.out.app hr11 hg11 hF11)
              clear hr11 hg11 hF11 HQ10 HA10 HI10
              go_wp2
              go_roundw
              case rel => exact ⟨q + 1, g11, by omega, by go_num, hidp (by rw [HNT.out]; exact HN.out)⟩
              case measure => simp [intOf]; omega
            · have hql : q = (layer (wbit W) (f % 64) k).length := by omega
              have qnlt : ¬ (q : Int) < ((ci (layer (wbit W) (f % 64) k)).length : Int) := by rw [ci_len]; omega
              rw [hql, List.take_length] at HQ
              have hnl := near_len (layer (wbit W) (f % 64) k)
              have HNL : Hid ((near (layer (wbit W) (f % 64) k)).length ≤ 256) := hidp (by have := HLK.out; omega)
              have HR9 := hidp (HR8.out.call HQ.out.2.2)
              have HSD := hidp (Z.delete_is HQ.out.ints HR9.out.seen (by rw [ci_len]; have := HNL.out; omega) (by have := HR9.out.len; omega))
              clear hnl hql HR8 HC8 HQ qlt' hq
              go_wp2_with fail
              refine HSD.out.mono ?_
              rintro e w12 ⟨v12, B12, rfl, _, hown12, hb12⟩
              have hlay : (Z.dels s (IU.ins (Z.its (ci (near (layer (wbit W) (f % 64) k)))))).map (·.1) = ci (layer (wbit W) (f % 64) (k + 1)) := front_next hf64 klt' HR9.out.is
              rw [hlay] at hown12
              have hf12 : Ints w12 v12 (ci (layer (wbit W) (f % 64) (k + 1))) := Z.Made.ints hown12
              have HR12 := hidp (HR9.out.call hb12)
              have HUN := hidp (Z.union_is HR12.out.seen hf12 (by have := HR12.out.len; omega) (by rw [ci_len]; have := layer_len (wbit W) (f % 64) (k + 1); omega))
              have HF12 := hidp hf12
              clear hlay hown12 hf12 hb12 HR9 HSD
              go_wp2_with fail
              refine HUN.out.mono ?_
              rintro e w13 ⟨v13, B13, rfl, _, hown13, hb13⟩
              have hs13 : Ints w13 v13 (Z.set (s ++ ci (layer (wbit W) (f % 64) (k + 1)))) := Z.Made.ints hown13
              have hl13 := Z.set_length (s ++ ci (layer (wbit W) (f % 64) (k + 1)))
              have HN : Hid (FS w w13 W (f % 64) (k + 1) vs v12 v13 (Z.set (s ++ ci (layer (wbit W) (f % 64) (k + 1))))) := hidp ⟨HF12.out.below hb13, hs13, seenI_next HR12.out.is, by
                rw [List.length_append, ci_len] at hl13
                have h1 := layer_len (wbit W) (f % 64) (k + 1)
                have h2 := HR12.out.len
                omega, fun k v hk => (HR12.out.far k v hk).below hb13, HR12.out.below.trans (hb13.mono HR12.out.below.size)⟩
              clear hs13 hl13 hown13 hb13 HR12 HUN HF12
              go_wp2
              go_roundw
              case rel => exact ⟨k + 1, _, by omega, by go_num, HN⟩
              case measure => simp [intOf]; omega
        · have hk65 : k = 65 := by omega
          have knlt : ¬ (k : Int) < 65 := by omega
          rw [hk65] at HR
          have hfront := HR.out.front
          rw [layer_last hf64] at hfront
          obtain ⟨au, cu, hu, _⟩ := hfront
          subst hu
          have HB := hidp HR.out.below
          have HAL := hidp (Z.aliveS_is w7)
          clear hk65 hk klt'
          go_wp2_with fail
          refine HAL.out.mono ?_
          rintro e w8 ⟨rfl, hb8⟩
          have HB8 := hidp (HB.out.trans (hb8.mono HB.out.size))
          clear hb8 HAL
          go_wp2
          go_ret
          exact ⟨rfl, HB8.out⟩
end Go.Proofs.Ytbjhnefienjncaa.Bt.Mz
