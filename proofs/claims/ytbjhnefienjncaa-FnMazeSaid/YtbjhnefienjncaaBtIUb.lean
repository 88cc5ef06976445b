/- Maps of numbers (sets): a new node, and the count of a node. -/
import Derived.Test.YtbjhnefienjncaaBtIUa
namespace Go.Proofs.Ytbjhnefienjncaa.Bt.IU
set_option linter.unusedVariables false
set_option linter.unusedSimpArgs false
open Go Go.RowKit Go.Proofs.Ytbjhnefienjncaa.Bt

variable {S : Nat → Prop} {w : World} {s : Sto It}

/-- 'newNode' of a leaf -/
theorem newNode_leaf (R : RepS E S w s) :
    Calls Try.prog 132 #[.pointer (some ⟨s.m, 0, none⟩), .bool true] w (fun e w' => ∃ n S', e = .returned (.pointer (some ⟨n, 0, none⟩)) ∧ w.heap.size ≤ n ∧ ¬ S n ∧ Ext S w S' w' ∧ RepS E S' w' (s.setNd n ⟨s.mp.iso, 0, [], none, 0, none⟩)) := by
  obtain ⟨hm, m0, _⟩ := mcell R
  have HR := hidp R
  clear R
  go_enter Try.func132, Try.ntmps132
  go_wp2
  go_ret
  have hnS : ¬ S w.heap.size := fun h => by have := HR.out.rep.lt _ h; omega
  have hB := Bx.new w [.int .u64 s.mp.iso, .int .i64 0, sv none 0 0, pv none] 184
  refine ⟨w.heap.size, _, rfl, Nat.le_refl _, hnS, ⟨(Fr.refl S w).alloc _, fun i hi => ?_, fun i hi => .inl hi⟩, (HR.out.alloc _).new_node rfl rfl rfl hnS hB (fun k hk => by cases hk)⟩
  rcases hi with h | h | ⟨k, h, _⟩
  · exact .inl h
  · exact .inr (by omega)
  · cases h

/-- 'newNode' of an inner node -/
theorem newNode_inner (R : RepS E S w s) :
    Calls Try.prog 132 #[.pointer (some ⟨s.m, 0, none⟩), .bool false] w (fun e w' => ∃ n q S', e = .returned (.pointer (some ⟨n, 0, none⟩)) ∧ w.heap.size ≤ n ∧ ¬ S n ∧ w.heap.size ≤ q ∧ ¬ S q ∧ q ≠ n ∧ Ext S w S' w' ∧ RepS E S' w' (s.setNd n ⟨s.mp.iso, 0, [], none, 0, some ⟨q, none, 0, []⟩⟩)) := by
  obtain ⟨hm, m0, _⟩ := mcell R
  have HR := hidp R
  clear R
  go_enter Try.func132, Try.ntmps132
  go_wp2
  go_ret
  have hnS : ¬ S w.heap.size := fun h => by have := HR.out.rep.lt _ h; omega
  have hqS : ¬ S (w.heap.size + 1) := fun h => by have := HR.out.rep.lt _ h; omega
  have hB := (Bx.new w [.int .u64 s.mp.iso, .int .i64 0, sv none 0 0, pv (some (w.heap.size + 1))] 184).alloc (.cells #[Value.slice none 0 0] 185)
  have hQ := Bx.new (w.alloc (.cells [Value.int .u64 s.mp.iso, .int .i64 0, sv none 0 0, pv (some (w.heap.size + 1))].toArray 184)) [sv none 0 0] 185
  have hsz : (w.alloc (.cells [Value.int .u64 s.mp.iso, .int .i64 0, sv none 0 0, pv (some (w.heap.size + 1))].toArray 184)).heap.size = w.heap.size + 1 := by simp
  rw [hsz] at hQ
  refine ⟨w.heap.size, w.heap.size + 1, _, rfl, Nat.le_refl _, hnS, by omega, hqS, by omega, ⟨((Fr.refl S w).alloc _).alloc _, fun i hi => ?_, fun i hi => .inl hi⟩, ((HR.out.alloc _).alloc _).new_node rfl rfl rfl hnS hB (fun k hk => ?_)⟩
  · rcases hi with h | h | ⟨k, h, h'⟩
    · exact .inl h
    · exact .inr (by omega)
    · obtain rfl := Option.some.inj h
      exact .inr (by rw [h']; show _ ≤ w.heap.size + 1; omega)
  · obtain rfl := Option.some.inj hk
    exact ⟨hqS, by show w.heap.size + 1 ≠ w.heap.size; omega, rfl, rfl, rfl, hQ⟩

/-- 'updateCount' of a leaf -/
theorem count_leaf {q : Nat} {ib : Option (Nat × Nat)} {len cap : Nat} {v : Value} (h1 : M w q 1 = some v) (h2 : w.cell? ⟨q, 2, none⟩ = some (sv ib len cap)) (h3 : w.cell? ⟨q, 3, none⟩ = some (pv none)) :
    Calls Try.prog 135 #[.pointer (some ⟨q, 0, none⟩)] w (fun e w' => e = .returned (.tuple #[]) ∧ Upd w w' q 1 [.int .i64 len]) := by
  have hu := Upd.one w (.int .i64 len) (by rw [h1]; rfl : (M w q 1).isSome = true)
  have h1c := M_cell h1
  have h1f := M_froz h1
  have h3' : M (w.setCell ⟨q, 1, none⟩ (.int .i64 len)) q 3 = M w q 3 := hu.M_ne (by simp)
  have hq := World.block_lt_of_cell? w _ h3
  obtain ⟨A, h2'⟩ : ∃ A, w.cell? ⟨q, 2, none⟩ = some (.slice A len cap) := ⟨_, h2⟩
  have HU := hidp hu
  have h4 : (w.setCell ⟨q, 1, none⟩ (.int .i64 len)).cell? ⟨q, 3, none⟩ = some (pv none) := by
    rw [World.cell?_setCell_other _ _ _ _ (by simp)]; exact h3
  clear hu h2 h3 h1 h3'
  go_enter Try.func135, Try.ntmps135
  go_wp2_with fail
  refine (leaf_raw h4).mono ?_
  rintro e w' ⟨rfl, rfl⟩
  go_wp2
  go_end0
  exact ⟨rfl, HU.out⟩

theorem sum_take (cs : List Int) {j : Nat} {c : Int} (h : cs[j]? = some c) : (cs.take (j + 1)).sum = (cs.take j).sum + c := by
  have hj := (List.getElem?_eq_some_iff.1 h).1
  rw [List.take_succ_eq_append_getElem hj, List.sum_append_int, (List.getElem?_eq_some_iff.1 h).2]; simp
theorem sum_le : ∀ (cs : List Int) (j : Nat), (∀ c ∈ cs, 0 ≤ c) → 0 ≤ (cs.take j).sum ∧ (cs.take j).sum ≤ cs.sum
  | [], j, _ => by simp
  | c :: cs, 0, h => by
    have := sum_le cs cs.length (fun x hx => h x (List.mem_cons_of_mem _ hx))
    rw [List.take_length] at this
    have hc := h c (by simp)
    simp only [List.take_zero, List.sum_nil, List.sum_cons]; omega
  | c :: cs, j + 1, h => by
    have := sum_le cs j (fun x hx => h x (List.mem_cons_of_mem _ hx))
    have hc := h c (by simp)
    simp only [List.take_succ_cons, List.sum_cons]; omega

set_option maxHeartbeats 1000000 in
/-- 'updateCount' of an inner node: ps are its children, cs their counts. -/
theorem count_inner {q hd b o : Nat} {ib : Option (Nat × Nat)} {len cap kcap : Nat} {v : Value} {ps : List Nat} {cs : List Int} (h1 : M w q 1 = some v) (h2 : M w q 2 = some (sv ib len cap)) (h3 : M w q 3 = some (pv (some hd)))
    (hh : M w hd 0 = some (sv (some (b, o)) ps.length kcap)) (hps : ∀ (j p : Nat), ps[j]? = some p → M w b (o + j) = some (pv (some p)) ∧ p ≠ q ∧ ∃ c, cs[j]? = some c ∧ M w p 1 = some (.int .i64 c))
    (hbq : ∀ j, j < ps.length → ¬ (b = q ∧ o + j = 1)) (hcs : ∀ c ∈ cs, 0 ≤ c) (hlen : ps.length = cs.length) (hbd : (len : Int) + cs.sum ≤ 1000000000000) (hk : ps.length ≤ 1000000) :
    Calls Try.prog 135 #[.pointer (some ⟨q, 0, none⟩)] w (fun e w' => e = .returned (.tuple #[]) ∧ ∃ a w1, w' = w1.drewN a ∧ Upd w w1 q 1 [.int .i64 (len + cs.sum)]) := by
  have hu := Upd.one w (.int .i64 len) (by rw [h1]; rfl : (M w q 1).isSome = true)
  have h1c := M_cell h1
  have h1f := M_froz h1
  have hq := M_lt h3
  obtain ⟨A, h2'⟩ : ∃ A, w.cell? ⟨q, 2, none⟩ = some (.slice A len cap) := ⟨_, M_cell h2⟩
  have HU0 : Hid (∃ a w1, w.setCell ⟨q, 1, none⟩ (.int .i64 len) = World.drewN w1 a ∧ Upd w w1 q 1 [.int .i64 (len + (cs.take 0).sum)]) := hidp ⟨0, _, rfl, by simpa using hu⟩
  have h4 : (w.setCell ⟨q, 1, none⟩ (.int .i64 len)).cell? ⟨q, 3, none⟩ = some (pv (some hd)) := M_cell (by rw [hu.M_ne (by simp)]; exact h3)
  have H3 := hidp h3
  have HH := hidp hh
  have HP := hidp hps
  have HC := hidp hcs
  have HL := hidp hlen
  have HBQ := hidp hbq
  have hs := sum_le cs cs.length hcs
  clear hu h2 h3 h1 hh hps hcs hlen hbq
  go_enter Try.func135, Try.ntmps135
  go_wp2_with fail
  refine (leaf_raw h4).mono ?_
  rintro e w' ⟨rfl, rfl⟩
  clear h4
  generalize w.setCell ⟨q, 1, none⟩ (.int .i64 len) = w1 at HU0
  go_wp2
  go_loopw [2] (fun i wr => ∃ j : Nat, j ≤ ps.length ∧ i = .int .i64 j ∧ Hid (∃ a w1, wr = World.drewN w1 a ∧ Upd w w1 q 1 [.int .i64 (len + (cs.take j).sum)])) (fun i _ => ps.length - (intOf i).toNat)
  case atStart => exact ⟨0, Nat.zero_le _, rfl, HU0⟩
  case round =>
    clear HU0 h1c h1f h2'
    obtain ⟨j, hj, rfl, HR⟩ := hrel
    obtain ⟨a, w2, rfl, hu⟩ := HR.out
    have HV := hidp hu
    have hq2 : q < w2.heap.size := by rw [hu.size]; exact hq
    have c3 : w2.cell? ⟨q, 3, none⟩ = some (.pointer (some ⟨hd, 0, none⟩)) := M_cell (by rw [hu.M_ne (by simp)]; exact H3.out)
    have ch : w2.cell? ⟨hd, 0, none⟩ = some (.slice (some ⟨b, o, none⟩) ps.length kcap) := M_cell (by rw [hu.M_ne (by simp)]; exact HH.out)
    clear HR hu
    by_cases hlt : j < ps.length
    · obtain ⟨p, hp⟩ : ∃ p, ps[j]? = some p := ⟨ps[j], List.getElem?_eq_getElem hlt⟩
      obtain ⟨p1, p2, c, hc, p3⟩ := HP.out j p hp
      have cp : w2.cell? ⟨b, o + j, none⟩ = some (.pointer (some ⟨p, 0, none⟩)) := M_cell (by rw [HV.out.M_ne (by rintro ⟨e, e1, e2⟩; exact HBQ.out j hlt ⟨e, by simp only [List.length_cons, List.length_nil] at e2; omega⟩)]; exact p1)
      have cc : w2.cell? ⟨p, 1, none⟩ = some (.int .i64 c) := M_cell (by rw [HV.out.M_ne (by rintro ⟨e, _⟩; exact p2 e)]; exact p3)
      have mq : M w2 q 1 = some (.int .i64 (len + (cs.take j).sum)) := HV.out.M_at (j := 0) (by simp)
      have c1 := M_cell mq
      have f1 := M_froz mq
      have st := sum_take cs hc
      have sl := sum_le cs (j + 1) HC.out
      have sj := sum_le cs j HC.out
      have hun := (HV.out.again (Upd.one w2 (.int .i64 (len + (cs.take j).sum + c)) (by rw [mq]; rfl)) rfl)
      have HN : Hid (Upd w (w2.setCell ⟨q, 1, none⟩ (.int .i64 (len + (cs.take j).sum + c))) q 1 [.int .i64 (len + (cs.take (j + 1)).sum)]) := hidp (by rw [st, ← Int.add_assoc]; exact hun)
      have b1 : 0 ≤ (len : Int) + (cs.take j).sum := by omega
      have b2 : (len : Int) + (cs.take j).sum + c ≤ 1000000000000 := by omega
      have b3 : 0 ≤ (len : Int) + (cs.take j).sum + c := by omega
      have jlt : (j : Int) < (ps.length : Int) := by omega
      clear hp p1 p2 hc p3 mq st sl sj hun HV
      generalize (len : Int) + (cs.take j).sum = z at *
      go_wp2
      go_region
      go_wp2
      go_roundw
      case rel => exact ⟨j + 1, by omega, by go_num, hidp ⟨_, _, rfl, HN.out⟩⟩
      case measure => simp [intOf]; omega
    · obtain rfl : j = ps.length := by omega
      go_wp2
      go_end0
      refine ⟨rfl, a, w2, rfl, ?_⟩
      have := HV.out
      rwa [HL.out, List.take_length] at this
end Go.Proofs.Ytbjhnefienjncaa.Bt.IU
