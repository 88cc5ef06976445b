/- The law FnTNumbers: strings of numbers in a set stand in the order of the numbers. -/
import Derived.Test.YtceildcbehaoaaaBtTd
import Derived.Test.YtceildcbehaoaaaBtIa
import Derived.Test.YtceildcbehaoaaaBtNu
namespace Go.Proofs.Ytceildcbehaoaaa.Bt.Z
set_option linter.unusedVariables false
set_option linter.unusedSimpArgs false
open Go Go.RowKit Go.Proofs.Ytceildcbehaoaaa.Bt
open Go.Proofs.Ytceildcbehaoaaa.Bt.W (hidp infoT alive_is app_below app_ge)
open Go.Proofs.Ytceildcbehaoaaa.Bt.Nu (num num_lt number_is)

/-! ### plain lists -/
theorem tw_congr {I : Type} {p q : I → Bool} : ∀ {l : List I}, (∀ y ∈ l, p y = q y) → l.takeWhile p = l.takeWhile q
  | [], _ => rfl
  | y :: l, h => by
    rw [List.takeWhile_cons, List.takeWhile_cons, h y (by simp), tw_congr (fun z hz => h z (List.mem_cons_of_mem _ hz))]
theorem put_map {I J : Type} {lt : I → I → Bool} {lt' : J → J → Bool} (F : I → J) {l : List I} {x : I} (h : ∀ y ∈ l, lt' (F y) (F x) = lt y x ∧ lt' (F x) (F y) = lt x y) : put lt' (l.map F) (F x) = (put lt l x).map F := by
  have hp : pos lt' (l.map F) (F x) = pos lt l x := by
    unfold pos
    rw [List.takeWhile_map, List.length_map]
    congr 1
    exact tw_congr fun y hy => (h y hy).1
  have hf : fnd lt' (l.map F) (F x) = fnd lt l x := by
    unfold fnd
    rw [hp, List.getElem?_map]
    cases hg : l[pos lt l x]? with
    | none => rfl
    | some y => simp only [Option.map_some]; rw [(h y (List.mem_of_getElem? hg)).2]
  unfold put
  rw [hp, hf, List.map_append, List.map_cons, List.map_take, List.map_drop]
theorem mem_put_sub {I : Type} {lt : I → I → Bool} {l : List I} {x y : I} (h : y ∈ put lt l x) : y ∈ l ∨ y = x := by
  unfold put at h
  rcases List.mem_append.1 h with h | h
  · exact .inl (List.mem_of_mem_take h)
  · rcases List.mem_cons.1 h with h | h
    · exact .inr h
    · exact .inl (List.mem_of_mem_drop h)
/-- A number of Go's type int. -/
def In64 (n : Int) : Prop := -9223372036854775808 ≤ n ∧ n ≤ 9223372036854775807
def F (y : IU.It) : SU.It := (num y.1, ())
theorem num_bless {m n : Int} (hm : In64 m) (hn : In64 n) : Op.bytesLess (num m).toList (num n).toList = decide (m < n) := by
  by_cases h : m < n
  · rw [SU.bless_lt, decide_eq_true (num_lt hm.1 hn.2 h), decide_eq_true h]
  · rw [decide_eq_false h]
    by_cases h' : n < m
    · have hk := num_lt hn.1 hm.2 h'
      cases hb : Op.bytesLess (num m).toList (num n).toList with
      | false => rfl
      | true =>
        have := SU.bless_tr hb (by rw [SU.bless_lt, decide_eq_true hk])
        rw [SU.bless_irr] at this; cases this
    · obtain rfl : m = n := by omega
      exact SU.bless_irr _
theorem set_num {l : List Int} (hl : ∀ x ∈ l, In64 x) : T.set (l.map num) = (set l).map num := by
  have key : ∀ (l : List IU.It) (acc : List IU.It), (∀ y ∈ acc, In64 y.1) → (∀ y ∈ l, In64 y.1) → (l.map F).foldl (fun acc x => put SU.lt acc x) (acc.map F) = (l.foldl (fun acc x => put IU.lt acc x) acc).map F := by
    intro l
    induction l with
    | nil => intro acc _ _; rfl
    | cons x l ih =>
      intro acc h1 h2
      have hx := h2 x (by simp)
      rw [List.map_cons, List.foldl_cons, List.foldl_cons, put_map (lt := IU.lt) F (fun y hy => ⟨num_bless (h1 y hy) hx, num_bless hx (h1 y hy)⟩)]
      refine ih _ (fun y hy => ?_) (fun y hy => h2 y (List.mem_cons_of_mem _ hy))
      rcases mem_put_sub hy with h | rfl
      · exact h1 y h
      · exact hx
  have e : T.its (l.map num) = (its l).map F := by simp [T.its, its, F]
  unfold T.set set SU.ins IU.ins
  rw [e]
  have := key (its l) [] (fun y hy => by simp at hy) (fun y hy => by
    simp only [its, List.mem_map] at hy
    obtain ⟨k, hk, rfl⟩ := hy
    exact hl k hk)
  rw [List.map_nil] at this
  rw [this, List.map_map, List.map_map]; rfl

theorem mem_ins_sub {l : List IU.It} {y : IU.It} (h : y ∈ IU.ins l) : y ∈ l := by
  have key : ∀ (l acc : List IU.It), y ∈ l.foldl (fun acc x => put IU.lt acc x) acc → y ∈ acc ∨ y ∈ l := by
    intro l
    induction l with
    | nil => exact fun acc h => .inl h
    | cons x l ih =>
      intro acc h
      rcases ih _ h with h | h
      · rcases mem_put_sub h with h | rfl
        · exact .inl h
        · exact .inr (by simp)
      · exact .inr (List.mem_cons_of_mem _ h)
  rcases key l [] h with h | h
  · cases h
  · exact h

/-! ### the walk -/
theorem Fr.of_below {w w' : World} (h : Below w.heap.size w w') : Fr (fun _ => False) w w' := ⟨h.os, h.tape, h.output, h.size, fun k hk _ => h.block k hk, fun k hk => bty_eq (h.block k hk)⟩
theorem Row.below {sz : Nat} {w w' : World} {v : Value} {n : Nat} {xs : List Value} {g : Option Nat} (h : Row sz w v n xs g) (hb : Below w.heap.size w w') : Row sz w' v n xs g := h.keep (Fr.of_below hb) (fun _ _ h => h)
variable {w : World}

set_option maxHeartbeats 1000000 in
set_option maxRecDepth 100000 in
/-- 'FnTNumbers' -/
theorem law_numbers {v : Value} {l : List Int} (hv : Ints w v l) (hl : l.length ≤ 9223372036854775807) (hr : ∀ x ∈ l, In64 x) :
    Calls Try.prog 3 #[v] w (fun e w' => e = .returned (.bool true) ∧ Below w.heap.size w w') := by
  obtain ⟨a, cap, rfl, hc⟩ := hv.at
  have HV := hidp hv
  have HC := hidp hc
  have HI64 := hidp hr
  clear hc hv hr
  by_cases hbig : 2147483647 < l.length
  · go_enter Try.func3, Try.ntmps3
    go_wp2
    go_ret
    exact ⟨rfl, Below.refl _ _⟩
  obtain ⟨i0, hi0, hz0, hz1, hz2⟩ := info_parts infoT
  have HI0 := hidp hi0
  have HZ0 := hidp hz0
  have HZ1 := hidp hz1
  have HZ2 := hidp hz2
  clear hi0 hz0 hz1 hz2
  go_enter Try.func3, Try.ntmps3
  go_wp2
  go_loopw [3, 15] (fun u i wr => ∃ j : Nat, j ≤ l.length ∧ i = .int .i64 j ∧ Hid (∃ g, Row 1 wr u j ((l.map fun n => Value.string (num n)).take j) g ∧ (∀ b, g = some b → w.heap.size ≤ b) ∧ Below w.heap.size w wr)) (fun _ i _ => l.length - (intOf i).toNat)
  case atStart => exact ⟨0, Nat.zero_le _, rfl, hidp ⟨none, Row.nil _ _, (fun b h => by cases h), Below.refl _ _⟩⟩
  case round =>
    obtain ⟨j, hj, rfl, HR⟩ := hrel
    obtain ⟨g, r, hg, hb⟩ := HR.out
    clear HR
    by_cases hlt : j < l.length
    · obtain ⟨x, hx⟩ : ∃ x, l[j]? = some x := ⟨l[j], List.getElem?_eq_getElem hlt⟩
      obtain ⟨b, off, rfl, hbl, cx⟩ := HC.out j x hx
      have cx' : wr.cell? ⟨b, off + j, none⟩ = some (.int .i64 x) := (hb.cell (p := ⟨b, off + j, none⟩) hbl).trans cx
      have jlt : (j : Int) < (l.length : Int) := by omega
      have HT : Hid ((l.map fun n => Value.string (num n)).take (j + 1) = (l.map fun n => Value.string (num n)).take j ++ [.string (num x)]) := hidp (by rw [List.take_add_one, List.getElem?_map, hx]; simp)
      have hsr : w.heap.size ≤ wr.heap.size := hb.size
      have hxr := HI64.out x (List.mem_of_getElem? hx)
      have HN := hidp (number_is (w := wr) x hxr.1 hxr.2)
      have HR := hidp (And.intro r (And.intro hg hb))
      clear hx cx r hg hb hxr
      go_wp2_with fail
      refine HN.out.mono ?_
      rintro e w1 ⟨rfl, hb1⟩
      have hsr1 : w.heap.size ≤ w1.heap.size := Nat.le_trans hsr hb1.size
      have HR1 := hidp (And.intro (Row.below HR.out.1 hb1) (And.intro HR.out.2.1 (HR.out.2.2.trans (hb1.mono hsr))))
      clear hb1 HR HN cx'
      go_wp2_with (at_builtin; go_must (refine wpList_row rfl (.tmp 19) (.tmp 22) _ rfl 9 i0 _ 1 16 Try.underlying23 HI0.out HZ0.out HZ1.out HZ2.out rfl (by decide) u3 j _ g rfl (HR1.out.1.alloc _) ⟨w1.heap.size, 0, none⟩ 1 1 [.string (num x)] rfl (by decide) rfl (fun q u hq => by rw [Addr.add_lit, Nat.zero_add]; exact (Bx.new w1 [.string (num x)] 9).cell q hq) (by simp [Value.oneCell']) (by unfold maxLen; omega) (by omega) ?_))
      intro v2 w2 g2 hr2 hg2 hF2
      have HN := hidp (And.intro hr2 (And.intro (app_ge hg2 (by omega) HR1.out.2.1) (app_below HR1.out.2.2 hsr1 HR1.out.2.1 ((Below.refl _ _).alloc hsr1 _) hF2)))
      clear hr2 hg2 hF2 HR1
      go_wp2
      go_roundw
      case rel => exact ⟨j + 1, by omega, by go_num, hidp ⟨_, by rw [HT.out]; exact HN.out.1, HN.out.2.1, HN.out.2.2⟩⟩
      case measure => simp [intOf]; omega
    · obtain rfl : j = l.length := by omega
      rw [List.take_of_length_le (by simp)] at r
      have hs : Strs wr u3 (l.map num) := Row.sls (by rw [List.length_map, List.map_map]; exact r)
      have HG := hidp (T.insert_is hs (by rw [List.length_map]; omega))
      have HB := hidp hb
      have hv1 : Ints wr (.slice a l.length cap) l := Sls.below HV.out hb
      have HV1 := hidp hv1
      clear r hg hb hs hv1
      go_wp2_with fail
      refine HG.out.mono ?_
      rintro e w1 ⟨v1, B1, rfl, hB1, ho1, hb1⟩
      rw [set_num HI64.out] at ho1
      have HB1 := hidp (HB.out.trans (hb1.mono HB.out.size))
      have HS1 := hidp (Sls.own (f := Value.string) (l := (set l).map num) (by exact ho1))
      have HG2 := hidp (insert_is (Sls.below HV1.out hb1) (by omega))
      clear ho1 hB1 hb1 HG HV1
      go_wp2_with fail
      refine HG2.out.mono ?_
      rintro e w2 ⟨v2, B2, rfl, hB2, ho2, hb2⟩
      have hs2 : Ints w2 v2 (set l) := Sls.own (f := Value.int .i64) ho2
      have hs1 : Strs w2 v1 ((set l).map num) := Sls.below HS1.out hb2
      have HB2 := hidp (HB1.out.trans (hb2.mono HB1.out.size))
      have hdl := set_length l
      have HD : Hid (∀ x ∈ set l, In64 x) := hidp fun x hx => by
        simp only [set, List.mem_map] at hx
        obtain ⟨y, hy, rfl⟩ := hx
        have hy' := mem_ins_sub hy
        simp only [its, List.mem_map] at hy'
        obtain ⟨k, hk, rfl⟩ := hy'
        exact HI64.out k hk
      obtain ⟨D, hD⟩ : ∃ D, D = set l := ⟨_, rfl⟩
      rw [← hD] at hs1 hs2 hdl HD
      obtain ⟨a1, c1, rfl, hc1⟩ := hs1.at
      obtain ⟨a2, c2, rfl, hc2⟩ := hs2.at
      have HC1 := hidp hc1
      have HC2 := hidp hc2
      rw [List.length_map]
      clear ho2 hB2 hb2 HG2 hs1 hs2 hc1 hc2 HS1 hD HB1 HB
      have HLEN : Hid ((D.map num).length = D.length) := hidp (List.length_map ..)
      go_wp2
      go_loopw [31] (fun i wr => ∃ j : Nat, j ≤ D.length ∧ i = .int .i64 j ∧ Hid (Below w2.heap.size w2 wr)) (fun i _ => D.length - (intOf i).toNat)
      case atStart => exact ⟨0, Nat.zero_le _, rfl, hidp (Below.refl _ _)⟩
      case round =>
        obtain ⟨j, hj, rfl, HR⟩ := hrel
        by_cases hlt : j < D.length
        · obtain ⟨x, hx⟩ : ∃ x, D[j]? = some x := ⟨D[j], List.getElem?_eq_getElem hlt⟩
          obtain ⟨b2, o2, rfl, hbl2, cx2⟩ := HC2.out j x hx
          obtain ⟨b1, o1, rfl, hbl1, cx1⟩ := HC1.out j (num x) (by rw [List.getElem?_map, hx]; rfl)
          have hb := HR.out
          have cx2' : wr.cell? ⟨b2, o2 + j, none⟩ = some (.int .i64 x) := (hb.cell (p := ⟨b2, o2 + j, none⟩) hbl2).trans cx2
          have cx1' : wr.cell? ⟨b1, o1 + j, none⟩ = some (.string (num x)) := (hb.cell (p := ⟨b1, o1 + j, none⟩) hbl1).trans cx1
          have jlt : (j : Int) < (D.length : Int) := by omega
          have jlt2 : ¬ (D.length : Int) ≤ (j : Int) := by omega
          have hxr := HD.out x (List.mem_of_getElem? hx)
          have HN : Hid (∀ wz, Calls Try.prog 12 #[.int .i64 x] wz (fun e w' => e = .returned (.string (num x)) ∧ Below wz.heap.size wz w')) := hidp fun wz => number_is (w := wz) x hxr.1 hxr.2
          have hbw : b1 < wr.heap.size := Nat.lt_of_lt_of_le hbl1 hb.size
          clear hx cx1 cx2 hxr hb hbl1 hbl2
          have hdg : decide (D.length ≤ j) = false := decide_eq_false (by omega)
          go_wp2_with fail
          go_region_held3 (fun w' => w'.cell? ⟨b1, o1 + j, none⟩ = some (.string (num x))) (go_keep)
            ((go_at_call 12
              refine (HN.out _).mono ?_
              rintro e w' ⟨rfl, hb3⟩
              have k1 := (hb3.cell (p := ⟨b1, o1 + j, none⟩) hbw).trans cx1'
              have HB3 := hidp hb3
              clear hb3))
          have HX := hidp (HR.out.trans ((((Below.refl wr.heap.size wr).drew).trans HB3.out).mono HR.out.size))
          go_wp2
          go_roundw
          case rel => exact ⟨j + 1, by omega, by go_num, HX⟩
          case measure => simp [intOf]; omega
        · obtain rfl : j = D.length := by omega
          have HA := hidp (alive_is (w := wr))
          have HX := hidp (HB2.out.trans (HR.out.mono HB2.out.size))
          go_wp2_with fail
          refine HA.out.mono ?_
          rintro e w4 ⟨rfl, hb4⟩
          have HB4 := hidp (HX.out.trans (hb4.mono HX.out.size))
          clear hb4 HA
          go_wp2
          go_ret
          exact ⟨rfl, HB4.out⟩
end Go.Proofs.Ytceildcbehaoaaa.Bt.Z
