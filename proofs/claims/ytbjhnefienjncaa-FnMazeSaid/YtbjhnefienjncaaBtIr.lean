/- Lists of numbers: what they are in memory, cell by cell; append of one to a row; slices.Clone. -/
import Derived.Test.YtbjhnefienjncaaBtIb
import Derived.Test.YtbjhnefienjncaaBtLast
import Derived.OwnWalk
import Derived.Deep.DeepMust
import Derived.Lib.SliceRun
import Derived.Deep.RegionHeld3
namespace Go.Proofs.Ytbjhnefienjncaa.Bt.Z
set_option linter.unusedVariables false
set_option linter.unusedSimpArgs false
open Go Go.RowKit Go.Proofs.Ytbjhnefienjncaa.Bt Go.Proofs.Ytbjhnefienjncaa.Bt.IU

section
variable {P : Program} {ops : Array Oper} {o : Oper} {a : Act} {w : World} {Q : Exit → Act → World → Prop}
/-- append of a slice, either of which may be empty. -/
theorem wpList_rowE {rest : List Oper} (hg : o.guard = none) (s x : Operand) (t : TypeId) (hop : o.op = Op.call { callee := Callee.builtin Builtin.append, args := #[s, x], argTypes := #[t, t] })
    (e : TypeId) (i : TypeInfo) (z : Value) (size bytes : Nat) (h1 : P.underlying t = some (.slice e)) (h2 : P.info? e = some i) (h3 : i.zero = some z) (h4 : i.size = size) (h5 : i.bytes = bytes) (h6 : z.cells.size = size) (h7 : 0 < size)
    (v : Value) (n : Nat) (xs : List Value) (g : Option Nat) (hs : a.eval s = v) (hrow : Row size w v n xs g)
    (A : Addr) (m c : Nat) (news : List Value) (hx : ∃ sa, a.eval x = .slice sa m c ∧ (0 < m → sa = some A)) (hn : news.length = m * size) (hc : ∀ j u, news[j]? = some u → w.cell? (A.add j) = some u) (h1c : ∀ u ∈ news, u.oneCell' = true)
    (b1 : n + m ≤ maxLen) (b2 : (n + m) * bytes ≤ 140737488355328)
    (hK : ∀ v' w' g', Row size w' v' (n + m) (xs ++ news) g' → (g = g' ∨ ∃ b, g' = some b ∧ w.heap.size ≤ b) → Fr (fun k => g = some k) w w' → wpList P ops Q rest (a.put o.dst v') w') : wpList P ops Q (o :: rest) a w := by
  obtain ⟨sa, hx, hsa⟩ := hx
  rcases Nat.eq_zero_or_pos m with rfl | hm
  · obtain rfl : news = [] := List.eq_nil_of_length_eq_zero (by simpa using hn)
    cases g with
    | some b => exact wpList_row0 hg s x t hop e i size h1 h2 h4 v n xs b hs hrow sa c hx (hK v w (some b) (by simpa using hrow) (.inl rfl) (Fr.refl _ _))
    | none =>
      obtain ⟨rfl, rfl⟩ : v = .slice none 0 0 ∧ n = 0 := by
        rcases hrow.2 with ⟨h, h', _⟩ | ⟨_, _, h, _⟩
        · exact ⟨h, h'⟩
        · cases h
      have hrun : (Builtin.append_ #[t, t] o.type #[.slice none 0 0, .slice sa 0 c]).run P w = .ok (.slice none 0 0) w := by
        subst h4
        have hl : ∀ x : Addr, (loadCells x 0).run P w = .ok #[] w := fun x => run_loadCells_list (P := P) w x [] (by simp)
        have hst : ∀ x : Addr, (storeCells x []).run P w = .ok () w := fun x => rfl
        cases sa <;> simp [Builtin.append_, run_underlying h1, Builtin.lenOf, Builtin.firstCells, sizeOf, typeInfo, h2, hl, hst]
      refine wpList_plain hg fun K hK' => ?_
      unfold Oper.wp
      simp [execOp, hop, resolve, invoke, builtin, hs, hx, hrun, Result.andThen]
      exact hK' _ _ (hK _ w none (by simpa using hrow) (.inl rfl) (Fr.refl _ _))
  · rw [hsa hm] at hx
    exact wpList_row hg s x t hop e i z size bytes h1 h2 h3 h4 h5 h6 h7 v n xs g hs hrow A m c news hx hm hn hc h1c b1 b2 (fun v' w' g' hr hg' hF => hK v' w' (some g') hr (hg'.imp id fun h => ⟨g', rfl, h⟩) hF)
end


variable {w : World}
theorem infoN : (Try.prog.info? 3).map (fun i => (i.zero, i.size, i.bytes)) = some (some (.int .i64 0), 1, 8) := by kernel_rfl
abbrev iv (l : List Int) : List Value := l.map (Value.int .i64)
theorem iv_one (l : List Int) : ∀ u ∈ iv l, u.oneCell' = true := fun u hu => by
  obtain ⟨x, _, rfl⟩ := List.mem_map.1 hu; rfl
theorem ints_flat {v : Value} {l : List Int} (h : Ints w v l) : ∃ a cap A, v = .slice a l.length cap ∧ (0 < l.length → a = some A) ∧ ∀ wr, Below w.heap.size w wr → ∀ j u, (iv l)[j]? = some u → wr.cell? (A.add j) = some u := by
  obtain ⟨a, cap, rfl, hc⟩ := h
  rcases Nat.eq_zero_or_pos l.length with h0 | h0
  · refine ⟨a, cap, ⟨0, 0, none⟩, rfl, fun h => by omega, fun wr _ j u hu => ?_⟩
    have := (List.getElem?_eq_some_iff.1 hu).1
    rw [List.length_map] at this; omega
  · obtain ⟨b, off, ha, _⟩ := hc 0 _ (List.getElem?_eq_getElem h0)
    refine ⟨a, cap, ⟨b, off, none⟩, rfl, fun _ => ha, fun wr hb j u hu => ?_⟩
    rw [List.getElem?_map] at hu
    cases hx : l[j]? with
    | none => rw [hx] at hu; cases hu
    | some x =>
      rw [hx] at hu
      obtain ⟨b', off', ha', hcell⟩ := hc j x hx
      rw [ha] at ha'
      injection ha' with e
      injection e with e1 e2 _
      subst e1; subst e2
      rw [Addr.add_lit]
      have hu' : u = .int .i64 x := (Option.some.inj hu).symm
      rw [hu']
      exact (hb.cell (p := ⟨b, off + j, none⟩) (World.block_lt_of_cell? w _ hcell)).trans hcell
/-- A row of numbers of the call's own. -/
def RowI (w : World) (l : List Int) (e : Ending) (w' : World) : Prop := ∃ u g, e = .returned u ∧ Row 1 w' u l.length (iv l) g ∧ (∀ b, g = some b → w.heap.size ≤ b) ∧ Below w.heap.size w w'

set_option maxHeartbeats 1000000 in
set_option maxRecDepth 100000 in
/-- 'slices.Clone' of numbers. -/
theorem clone_is {v : Value} {l : List Int} (hv : Ints w v l) (hl : l.length ≤ 4294967296) :
    Calls Try.prog 9 #[v] w (RowI w l) := by
  obtain ⟨a, cap, A, rfl, ha, hi⟩ := ints_flat hv
  obtain ⟨i0, hi0, hz0, hz1, hz2⟩ := info_parts infoN
  have HI0 := hidp hi0
  have HZ0 := hidp hz0
  have HZ1 := hidp hz1
  have HZ2 := hidp hz2
  have HA := hidp ha
  have HOC := hidp (iv_one l)
  have q22 : ∀ (w : World) (a : Option Addr) (n c n' c' : Nat), (binOp .eql 23 (.slice a n c) (.slice none n' c')).run Try.prog w = .ok (.bool a.isNone) w := fun w a n c n' c' => Lib.run_eql_slice_nil w _ _ a n c n' c' Try.underlying23
  have HCC := hidp (hi (w.alloc (.cells #[] 3)) ((Below.refl _ _).alloc (Nat.le_refl _) _))
  clear hi0 hz0 hz1 hz2 hi hv ha
  cases a with
  | none =>
    have h0 : l = [] := by
      cases l with
      | nil => rfl
      | cons y l => have h := HA.out (by simp); cases h
    subst h0
    go_enter Try.func9, Try.ntmps9
    go_wp2
    go_ret
    exact ⟨_, none, rfl, Row.nil _ _, (fun b h => by cases h), Below.refl _ _⟩
  | some A' =>
    go_enter Try.func9, Try.ntmps9
    go_wp2_with (at_builtin; go_must (refine wpList_rows rfl (.tmp 5) (.tmp 6) _ rfl 3 i0 _ 1 8 Try.underlying23 HI0.out HZ0.out HZ1.out HZ2.out rfl (by decide) (.slice (some ⟨w.heap.size, 0, none⟩) 0 0) 0 [] w.heap.size rfl (Row.empty 1 w #[] 3) A l.length cap (iv l) ⟨_, rfl, HA.out⟩ (by simp) HCC.out HOC.out (by unfold maxLen; omega) (by omega) ?_))
    intro v2 w2 g2 hr2 hg2 hF2
    have hB : Below w.heap.size w w2 := ((Below.refl _ _).alloc (Nat.le_refl _) _).trans (hF2.below (by rw [World.size_alloc]; omega) (fun i hi => Nat.le_of_eq hi.symm))
    have hg3 : w.heap.size ≤ g2 := by
      rcases hg2 with h | h
      · omega
      · try rw [World.size_alloc] at h
        omega
    try simp only [Nat.zero_add, List.nil_append] at hr2
    have HX := hidp (And.intro hr2 (And.intro hg3 hB))
    obtain ⟨a3, c3, rfl⟩ := hr2.len
    clear hr2 hg2 hF2 hB hg3
    go_wp2
    go_ret
    exact ⟨_, some g2, rfl, HX.out.1, fun b hb => by obtain rfl := Option.some.inj hb; exact HX.out.2.1, HX.out.2.2⟩
end Go.Proofs.Ytbjhnefienjncaa.Bt.Z
