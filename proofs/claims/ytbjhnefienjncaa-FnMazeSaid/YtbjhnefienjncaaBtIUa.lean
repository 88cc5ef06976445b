/- Maps of numbers (sets): the small functions of a node. -/
import Derived.Test.YtbjhnefienjncaaProg
import Derived.Test.YtbjhnefienjncaaBtRel
namespace Go.Proofs.Ytbjhnefienjncaa.Bt.IU
set_option linter.unusedVariables false
set_option linter.unusedSimpArgs false
open Go Go.RowKit Go.Proofs.Ytbjhnefienjncaa.Bt

/-- An item: its key and its value. -/
abbrev It := Int × Unit
def enc (x : It) : List Value := [Value.int .i64 x.1]
def E : Enc It where
  enc := enc
  sz := 1
  ty := 120
  mty := 124
  z := [Value.int .i64 0]
  len := fun _ => rfl
  zlen := rfl
  pos := by decide
  one := fun i v h => by
    have h' : v ∈ [Value.int .i64 i.1] := h
    simp only [List.mem_cons, List.not_mem_nil, or_false] at h'
    subst h'; rfl
def lt (a b : It) : Bool := decide (a.1 < b.1)
theorem hidp {p : Prop} (h : p) : Hid p := h

variable {S : Nat → Prop} {w : World} {s : Sto It}

/-- The cells of a map and of a node, as the walk asks for them. -/
theorem mcell (R : RepS E S w s) : s.m < w.heap.size ∧ w.cell? ⟨s.m, 0, none⟩ = some (.int .u64 s.mp.iso) ∧ w.cell? ⟨s.m, 1, none⟩ = some (.pointer s.mp.ctr) ∧ w.cell? ⟨s.m, 2, none⟩ = some (pv s.mp.root) ∧ w.cell? ⟨s.m, 3, none⟩ = some (.int .i64 s.mp.count) ∧
    w.cell? ⟨s.m, 4, none⟩ = some (Value.int .i64 0) ∧ w.cell? ⟨s.m, 4, none⟩ = some (Value.int .i64 0) ∧ w.cell? ⟨s.m, 5, none⟩ = some (.int .i64 s.mp.mn) ∧ w.cell? ⟨s.m, 6, none⟩ = some (.int .i64 s.mp.mx) ∧ w.cell? ⟨s.m, 7, none⟩ = some (.bool false) ∧ w.cell? ⟨s.m, 8, none⟩ = some (.bool false) :=
  ⟨R.map.1, R.map.cell 0 rfl, R.map.cell 1 rfl, R.map.cell 2 rfl, R.map.cell 3 rfl, R.map.cell 4 rfl, R.map.cell 4 rfl, R.map.cell 5 rfl, R.map.cell 6 rfl, R.map.cell 7 rfl, R.map.cell 8 rfl⟩
theorem ncell (R : RepS E S w s) {n : Nat} {r : NodeR It} (hn : s.nd n = some r) : n < w.heap.size ∧ w.cell? ⟨n, 0, none⟩ = some (.int .u64 r.iso) ∧ w.cell? ⟨n, 1, none⟩ = some (.int .i64 r.count) ∧ w.cell? ⟨n, 2, none⟩ = some (sv r.ib r.items.length r.icap) ∧ w.cell? ⟨n, 3, none⟩ = some (pv (r.kids.map (·.hdr))) :=
  ⟨(R.node hn).1, (R.node hn).cell 0 rfl, (R.node hn).cell 1 rfl, (R.node hn).cell 2 rfl, (R.node hn).cell 3 rfl⟩

/-- 'isoLoad' of a node that is the map's own. -/
theorem isoLoad_own (R : RepS E S w s) {A : Addr} {n : Nat} {r : NodeR It} (hA : w.cell? A = some (pv (some n))) (hn : s.nd n = some r) (hi : r.iso = s.mp.iso) (b : Bool) :
    Calls Try.prog 136 #[.pointer (some ⟨s.m, 0, none⟩), .pointer (some A), .bool b] w (fun e w' => e = .returned (.pointer (some ⟨n, 0, none⟩)) ∧ ∃ a, w' = w.drewN a) := by
  obtain ⟨_, m0, _⟩ := mcell R
  obtain ⟨_, n0, _⟩ := ncell R hn
  rw [hi] at n0
  have hA' : w.cell? A = some (.pointer (some ⟨n, 0, none⟩)) := hA
  clear R hn hi hA
  cases b
  · go_enter Try.func136, Try.ntmps136
    go_wp2
    go_quiet (fail)
    go_wp2
    go_ret
    exact ⟨rfl, _, rfl⟩
  · go_enter Try.func136, Try.ntmps136
    go_wp2
    go_quiet (fail)
    go_wp2
    go_ret
    exact ⟨rfl, _, rfl⟩

/-- 'leaf' -/
theorem leaf_raw {n : Nat} {p : Option Nat} (n3 : w.cell? ⟨n, 3, none⟩ = some (pv p)) :
    Calls Try.prog 99 #[.pointer (some ⟨n, 0, none⟩)] w (fun e w' => e = .returned (.bool p.isNone) ∧ w = w') := by
  cases p with
  | none =>
    have n3' : w.cell? ⟨n, 3, none⟩ = some (.pointer none) := n3
    clear n3
    go_enter Try.func99, Try.ntmps99
    go_wp2
    go_ret
    exact ⟨rfl, rfl⟩
  | some k =>
    have n3' : w.cell? ⟨n, 3, none⟩ = some (.pointer (some ⟨k, 0, none⟩)) := n3
    clear n3
    go_enter Try.func99, Try.ntmps99
    go_wp2
    go_ret
    exact ⟨rfl, rfl⟩

theorem ord : Ord lt where
  irr a := by simp [lt]
  tr a b c h1 h2 := by simp only [lt, decide_eq_true_eq] at *; omega
  neg a b c h := by simp only [lt, decide_eq_true_eq] at *; omega
/-- The cells of an item. -/
theorem imem (R : RepS E S w s) {n : Nat} {r : NodeR It} (hn : s.nd n = some r) {b o : Nat} (hb : r.ib = some (b, o)) {i : Nat} {x : It} (hx : r.items[i]? = some x) :
    M w b (o + i) = some (Value.int .i64 x.1) ∧ M w b (o + i) = some (Value.int .i64 x.1) := by
  have h := R.item hn hb hx (j := 0) (v := Value.int .i64 x.1) rfl
  rw [show o + (i * E.sz + 0) = o + i by show o + (i * 1 + 0) = o + i; omega] at h
  exact ⟨h, h⟩
theorem icell (R : RepS E S w s) {n : Nat} {r : NodeR It} (hn : s.nd n = some r) {b o : Nat} (hb : r.ib = some (b, o)) {i : Nat} {x : It} (hx : r.items[i]? = some x) :
    w.cell? ⟨b, o + i, none⟩ = some (Value.int .i64 x.1) ∧ w.cell? ⟨b, o + i, none⟩ = some (Value.int .i64 x.1) :=
  ⟨M_cell (imem R hn hb hx).1, M_cell (imem R hn hb hx).2⟩

set_option maxHeartbeats 1000000 in
/-- 'search' -/
theorem search_is (R : RepS E S w s) {n : Nat} {r : NodeR It} (hn : s.nd n = some r) (hs : Srt lt r.items) (hlen : r.items.length ≤ 100000000000) (x : It) :
    Calls Try.prog 137 #[.pointer (some ⟨s.m, 0, none⟩), .pointer (some ⟨n, 0, none⟩), Value.int .i64 x.1] w
      (fun e w' => e = .returned (.tuple #[.int .i64 (pos lt r.items x : Nat), .bool (fnd lt r.items x)]) ∧ ∃ a, w' = w.drewN a) := by
  obtain ⟨_, _, _, n2, _⟩ := ncell R hn
  by_cases h0 : r.items = []
  · have e1 : pos lt r.items x = 0 := by rw [h0]; rfl
    have e2 : fnd lt r.items x = false := by rw [h0]; rfl
    rw [e1, e2]
    obtain ⟨A, hA⟩ : ∃ A, w.cell? ⟨n, 2, none⟩ = some (.slice A 0 r.icap) := ⟨_, by rw [n2, h0]; rfl⟩
    clear n2 R hn hs hlen h0 e1 e2
    go_enter Try.func137, Try.ntmps137
    go_wp2
    go_quiet (fail)
    go_wp2
    refine wp_loop_rounds 1 ?_; rw [rounds_succ]
    go_wp2
    go_ret2
    exact ⟨rfl, _, rfl⟩
  · obtain ⟨b, o, hb⟩ := R.ib_some hn h0
    have hc : ∀ i y, r.items[i]? = some y → w.cell? ⟨b, o + i, none⟩ = some (Value.int .i64 y.1) := fun i y hy => (icell R hn hb hy).2
    have n2' : w.cell? ⟨n, 2, none⟩ = some (.slice (some ⟨b, o, none⟩) r.items.length r.icap) := by rw [n2, hb]; rfl
    have HC := hidp hc
    have HS := hidp hs
    clear n2 R hn hs hc h0 hb
    generalize r.items = l at *
    go_enter Try.func137, Try.ntmps137
    go_wp2
    go_quiet (fail)
    go_wp2
    go_loop [8, 9] (fun a b => ∃ lo hi : Nat, a = .int .i64 lo ∧ b = .int .i64 hi ∧ lo ≤ hi ∧ hi ≤ l.length ∧ Hid (∀ j y, j < lo → l[j]? = some y → lt x y = false) ∧ Hid (∀ j y, hi ≤ j → l[j]? = some y → lt x y = true))
      (fun a b => (intOf b).toNat - (intOf a).toNat)
    case atStart => exact ⟨0, l.length, rfl, rfl, Nat.zero_le _, Nat.le_refl _, hidp (fun j y h => by omega), hidp (fun j y h hy => by have := (List.getElem?_eq_some_iff.1 hy).1; omega)⟩
    case round =>
      obtain ⟨lo, hi, rfl, rfl, h1, h2, H3, H4⟩ := hrel
      by_cases hlt : lo < hi
      · have em : ((lo : Int) + (hi : Int)) / 2 = (((lo + hi) / 2 : Nat) : Int) := by omega
        have hm : (lo + hi) / 2 < l.length := by omega
        have hm1 : lo ≤ (lo + hi) / 2 := by omega
        have hm2 : (lo + hi) / 2 < hi := by omega
        generalize (lo + hi) / 2 = m at *
        obtain ⟨y, hy⟩ : ∃ y, l[m]? = some y := ⟨l[m], List.getElem?_eq_getElem hm⟩
        have hcy := HC.out m y hy
        have Hy := hidp hy
        clear hy
        by_cases hk : x.1 < y.1
        · go_wp2
          go_round
          case rel => exact ⟨lo, m, rfl, by rw [em], by omega, by omega, H3, hidp (fun j z hj hz => by
            have hyl := Hy.out
            rcases Nat.lt_or_ge m j with h | h
            · have := List.pairwise_iff_getElem.1 HS.out m j hm (List.getElem?_eq_some_iff.1 hz).1 h
              rw [(List.getElem?_eq_some_iff.1 hz).2, (List.getElem?_eq_some_iff.1 hyl).2] at this
              exact ord.tr _ _ _ (by simpa [lt] using hk) this
            · obtain rfl : j = m := by omega
              rw [hyl] at hz; obtain rfl := Option.some.inj hz
              simpa [lt] using hk)⟩
          case measure => simp [intOf]; omega
        · 
          go_wp2
          go_round
          case rel => exact ⟨m + 1, hi, by first | go_num | (rw [em]; go_num), rfl, by omega, by omega, hidp (fun j z hj hz => by
            have hyl := Hy.out
            rcases Nat.lt_or_ge j m with h | h
            · have := List.pairwise_iff_getElem.1 HS.out j m (List.getElem?_eq_some_iff.1 hz).1 hm h
              rw [(List.getElem?_eq_some_iff.1 hz).2, (List.getElem?_eq_some_iff.1 hyl).2] at this
              cases hxz : lt x z with
              | false => rfl
              | true => exact absurd (ord.tr _ _ _ hxz this) (by simpa [lt] using hk)
            · obtain rfl : j = m := by omega
              rw [hyl] at hz; obtain rfl := Option.some.inj hz
              simpa [lt] using hk), H4⟩
          case measure => simp [intOf]; omega
      · obtain rfl : lo = hi := by omega
        by_cases hz : 0 < lo
        · have hm : lo - 1 < l.length := by omega
          obtain ⟨y, hy⟩ : ∃ y, l[lo - 1]? = some y := ⟨l[lo - 1], List.getElem?_eq_getElem hm⟩
          have hcy := HC.out (lo - 1) y hy
          have hxy := H3.out (lo - 1) y (by omega) hy
          have Hy := hidp hy
          have ei : ((lo : Int) - 1) = ((lo - 1 : Nat) : Int) := by omega
          clear hy hxy
          by_cases hk : y.1 < x.1
          · go_wp2
            go_ret2
            obtain ⟨e1, e2⟩ := bs_not ord HS.out h2 (x := x) (fun z _ hz => by rw [Hy.out] at hz; obtain rfl := Option.some.inj hz; simpa [lt] using hk) (fun j z hj hz => H4.out j z hj hz)
            exact ⟨by rw [e1, e2]; rfl, _, rfl⟩
          · 
            go_wp2
            go_ret2
            obtain ⟨e1, e2⟩ := bs_found ord HS.out (x := x) Hy.out (H3.out (lo - 1) y (by omega) Hy.out) (by simpa [lt] using hk)
            exact ⟨by rw [e1, e2]; rfl, _, rfl⟩
        · obtain rfl : lo = 0 := by omega
          go_wp2
          go_ret2
          obtain ⟨e1, e2⟩ := bs_not ord HS.out h2 (x := x) (fun z h _ => by omega) (fun j z hj hz => H4.out j z hj hz)
          exact ⟨by rw [e1, e2]; rfl, _, rfl⟩
/-- The address of a field without cells. -/
theorem part_at {w : World} {b o : Nat} {e : TypeId} {s d x : Nat} (h : bty w b = some e) (hs : Try.prog.cellsOf e = s) (hd : Try.prog.depth = d) (h0 : s ≠ 0) (hx : byteOfCell Try.prog d e (o % s) = some x) : (partAt ⟨b, o, none⟩ 0 0).run Try.prog w = .ok ⟨b, o, none⟩ w := by
  have hsh : ∃ n, w.shape? b = some (e, n) := by
    unfold bty at h
    unfold World.shape?
    cases hb : w.heap[b]? with
    | none => rw [hb] at h; cases h
    | some q =>
      rw [hb] at h
      cases q with
      | cells c t f => obtain rfl := Option.some.inj h; exact ⟨_, rfl⟩
      | _ => cases h
  obtain ⟨n, hn⟩ := hsh
  have h1 : (byteOf ⟨b, o, none⟩).run Try.prog w = .ok (o / s * Try.prog.bytesOf e + x) w := by
    unfold byteOf
    simp [noView, viewAt, hn, hs, hd, h0, hx, Result.andThen]
  unfold partAt
  simp [h1, Result.andThen]
theorem cells_P : Try.prog.cellsOf 120 = 1 := by kernel_rfl
theorem cells_M : Try.prog.cellsOf 124 = 9 := by kernel_rfl
theorem bytes_P : byteOfCell Try.prog Try.prog.depth 120 0 = some 0 := by kernel_rfl
theorem bytes_M : byteOfCell Try.prog Try.prog.depth 124 4 = some 32 := by kernel_rfl
theorem part_pair {b : Nat} (o : Nat) (h : bty w b = some 120) : (partAt ⟨b, o, none⟩ 0 0).run Try.prog w = .ok ⟨b, o, none⟩ w :=
  part_at h cells_P rfl (by decide) (x := 0) (by rw [Nat.mod_one]; exact bytes_P)
theorem part_item (R : RepS E S w s) {n : Nat} {r : NodeR It} (hn : s.nd n = some r) {b o : Nat} (hb : r.ib = some (b, o)) (o' : Nat) : (partAt ⟨b, o', none⟩ 0 0).run Try.prog w = .ok ⟨b, o', none⟩ w :=
  part_pair o' (R.ty.2 n r hn (b, o) hb)
theorem part_empty (R : RepS E S w s) : (partAt ⟨s.m, 4, none⟩ 0 0).run Try.prog w = .ok ⟨s.m, 4, none⟩ w :=
  part_at R.ty.1 cells_M rfl (by decide) (x := 32) bytes_M
end Go.Proofs.Ytbjhnefienjncaa.Bt.IU
