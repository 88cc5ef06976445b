/- Sets of strings: the function that keeps the strings that are handed to it. -/
import Derived.Test.YtceildcbehaoaaaBtTa
import Derived.Test.YtceildcbehaoaaaBtRow
import Derived.Test.YtceildcbehaoaaaBtLast
import Derived.OwnWalk
import Derived.Deep.DeepMust
namespace Go.Proofs.Ytceildcbehaoaaa.Bt.T
set_option linter.unusedVariables false
set_option linter.unusedSimpArgs false
open Go Go.RowKit Go.Proofs.Ytceildcbehaoaaa.Bt Go.Proofs.Ytceildcbehaoaaa.Bt.SU
open Go.Proofs.Ytceildcbehaoaaa.Bt.Last (Y Z)
open _root_.List (setIfInBounds_toArray set_cons_zero set_cons_succ)

section
variable {P : Program} {ops : Array Oper} {o : Oper} {a : Act} {w : World} {Q : Exit → Act → World → Prop}
/-- append of at least one element to a row of the call's own, as a step of a region that draws its order. -/
theorem step_row {K : Act → World → Prop} {F : Prop} (hg : o.guard = none) (s x : Operand) (t : TypeId) (hop : o.op = Op.call { callee := Callee.builtin Builtin.append, args := #[s, x], argTypes := #[t, t] })
    (e : TypeId) (i : TypeInfo) (z : Value) (size bytes : Nat) (h1 : P.underlying t = some (.slice e)) (h2 : P.info? e = some i) (h3 : i.zero = some z) (h4 : i.size = size) (h5 : i.bytes = bytes) (h6 : z.cells.size = size) (h7 : 0 < size)
    (v : Value) (n : Nat) (xs : List Value) (g : Option Nat) (hs : a.eval s = v) (hrow : Row size w v n xs g)
    (ad : Addr) (m c : Nat) (news : List Value) (hx : a.eval x = .slice (some ad) m c) (hm : 0 < m) (hn : news.length = m * size) (hc : ∀ j u, news[j]? = some u → w.cell? (ad.add j) = some u) (h1c : ∀ u ∈ news, u.oneCell' = true)
    (b1 : n + m ≤ maxLen) (b2 : (n + m) * bytes ≤ 140737488355328)
    (hK : ∀ v' w' g', Row size w' v' (n + m) (xs ++ news) (some g') → (g = some g' ∨ w.heap.size ≤ g') → Fr (fun k => g = some k) w w' → K (a.put o.dst v') w') :
    if Region.wanted o (yielded ops a.tmps) = true then Oper.wp P o a w K Q else F := by
  obtain ⟨hl, hr⟩ := hrow
  rcases hr with ⟨rfl, rfl, rfl⟩ | ⟨b, cap, rfl, rfl, hcn, hcm, hb, hok⟩
  · obtain rfl : xs = [] := List.eq_nil_of_length_eq_zero (by simpa using hl)
    refine step_app hg s x t hop e i z size bytes h1 h2 h3 h4 h5 h6 h7 none 0 0 [] hs (fun _ => ⟨rfl, rfl⟩) (by simp) (fun b o hb => by cases hb) ad m c news hx hm hn hc h1c b1 b2 (fun v' w' happ => ?_)
    obtain ⟨g, gc, rfl, hg1, hg2, hgc, hok, _, hF⟩ := happ.fresh hm
    refine hK _ _ g ?_ (.inr hg1) (hF.mono (fun _ h => h.elim))
    rcases happ with ⟨_, _, hh, _⟩ | ⟨g', c', e1, _, _, _, hcm', _⟩
    · cases hh
    · rw [Nat.zero_add] at e1
      obtain ⟨_, rfl⟩ := sv_inj (ib := some (g', 0)) e1
      exact ⟨by rw [List.nil_append, hn, Nat.zero_add], .inr ⟨g, gc, rfl, by rw [Nat.zero_add]; rfl, by omega, hcm', hg2, by rw [List.nil_append]; exact hok⟩⟩
  · refine step_app hg s x t hop e i z size bytes h1 h2 h3 h4 h5 h6 h7 (some (b, 0)) n cap xs hs (fun h => by cases h) hl (fun b' o' hb' => by cases hb'; exact hok) ad m c news hx hm hn hc h1c b1 b2 (fun v' w' happ => ?_)
    obtain ⟨g', hrow', hg', hF⟩ := Row.of_app hl hn hb hcm hok happ
    refine hK v' w' g' hrow' (hg'.imp (fun h => by rw [h]) id) (hF.mono fun k hk => by rw [hk])
end

variable {w : World}

/-- The variable in block bo holds a list of the call's own, made behind B, of the words xs. -/
def Tk (B bo : Nat) (w : World) (xs : List ByteArray) : Prop := bo < B ∧ B ≤ w.heap.size ∧ ∃ u g, Bx w bo [u] ∧ Row 1 w u xs.length (xs.map Value.string) g ∧ ∀ b, g = some b → B ≤ b
/-- Where the function looks: its variables. -/
def Tw (B bo bx bn : Nat) (w : World) : Prop := bx < B ∧ bn < B ∧ bx ≠ bo ∧ bn ≠ bo ∧ w.cell? ⟨bx, 0, none⟩ = some (.pointer (some ⟨bo, 0, none⟩)) ∧ w.cell? ⟨bn, 0, none⟩ = some (.int .i64 0)
def FrT (B bo : Nat) (w w' : World) : Prop := Fr (fun k => k = bo ∨ B ≤ k) w w'

theorem Tk.drewN {B bo : Nat} {xs : List ByteArray} (h : Tk B bo w xs) (n : Nat) : Tk B bo (w.drewN n) xs := by
  obtain ⟨h1, h2, u, g, h3, h4, h5⟩ := h
  exact ⟨h1, h2, u, g, h3.drewN n, h4.drewN n, h5⟩
theorem Tk.drew {B bo : Nat} {xs : List ByteArray} (h : Tk B bo w xs) : Tk B bo w.drew xs := by
  obtain ⟨h1, h2, u, g, h3, h4, h5⟩ := h
  exact ⟨h1, h2, u, g, h3.drew, h4.drew, h5⟩
theorem FrT.trans {B bo : Nat} {a b c : World} (h : FrT B bo a b) (k : FrT B bo b c) : FrT B bo a c := Fr.trans h k (fun _ hi => .inl hi)
theorem FrT.refl {B bo : Nat} {a : World} : FrT B bo a a := Fr.refl _ _
theorem Tw.fr {B bo bx bn : Nat} {w' : World} (h : Tw B bo bx bn w) (hB : B ≤ w.heap.size) (hf : FrT B bo w w') : Tw B bo bx bn w' := by
  obtain ⟨h1, h2, h3, h4, h5, h6⟩ := h
  refine ⟨h1, h2, h3, h4, ?_, ?_⟩
  · rw [Fr.cell hf (x := ⟨bx, 0, none⟩) (Nat.lt_of_lt_of_le h1 hB) (fun h => h.elim h3 (fun h => absurd h1 (Nat.not_lt.2 h)))]; exact h5
  · rw [Fr.cell hf (x := ⟨bn, 0, none⟩) (Nat.lt_of_lt_of_le h2 hB) (fun h => h.elim h4 (fun h => absurd h2 (Nat.not_lt.2 h)))]; exact h6

def TkPost (B bo : Nat) (w : World) (xs : List ByteArray) (e : Ending) (w' : World) : Prop := e = .returned (.bool true) ∧ Tk B bo w' xs ∧ FrT B bo w w'

/-- The list, one word longer, is stored. -/
theorem Tk.step {B bo : Nat} {w1 : World} {xs : List ByteArray} {x : ByteArray} {u v : Value} {g : Option Nat} {g' : Nat} {wz : World} (h1 : bo < B) (h2 : B ≤ w.heap.size) (hu : Bx w bo [u]) (hg : ∀ b, g = some b → B ≤ b)
    (hr : Row 1 w1 v (xs.length + 1) (xs.map Value.string ++ [.string x]) (some g')) (hz : Fr (fun _ => False) w wz) (hg' : g = some g' ∨ wz.heap.size ≤ g') (hF : Fr (fun k => g = some k) wz w1) :
    Tk B bo (w1.setCell ⟨bo, 0, none⟩ v) (xs ++ [x]) ∧ FrT B bo w (w1.setCell ⟨bo, 0, none⟩ v) := by
  have hlt : bo < w.heap.size := Nat.lt_of_lt_of_le h1 h2
  have hgb : B ≤ g' := by
    rcases hg' with h | h
    · exact hg _ h
    · have := hz.size; omega
  have hb1 : Bx w1 bo [u] := (hu.keep hz (fun h => h)).keep hF (fun h => by have := hg _ h; omega)
  have hs : (M w1 bo 0).isSome = true := by rw [hb1.2 0 u rfl]; rfl
  have hF0 : FrT B bo w w1 := Fr.trans (hz.mono (fun _ h => h.elim)) hF (fun i hi => .inl (.inr (hg i hi)))
  have hfr : FrT B bo w (w1.setCell ⟨bo, 0, none⟩ v) := Fr.trans hF0 (Fr.setCell w1 bo 0 v) (fun i hi => .inl (.inl hi))
  refine ⟨⟨h1, Nat.le_trans h2 hfr.size, v, some g', ?_, ?_, fun b hb => by rw [← Option.some.inj hb]; exact hgb⟩, hfr⟩
  · exact ⟨Nat.lt_of_lt_of_le hlt hfr.size, fun j y hj => by
      rcases j with _ | j
      · rw [M_setCell _ _ hs, if_pos ⟨rfl, rfl⟩]; exact hj
      · simp at hj⟩
  · rw [List.map_append, List.length_append]
    exact hr.keep (Fr.setCell w1 bo 0 v) (fun b hb h => by have := Option.some.inj hb; omega)

set_option maxHeartbeats 1000000 in
set_option maxRecDepth 100000 in
/-- What 'taker' makes. -/
theorem take_is {B bo bx bn : Nat} {xs : List ByteArray} (hT : Tk B bo w xs) (hW : Tw B bo bx bn w) (hl : xs.length ≤ 1000000000000) (x : ByteArray) :
    Calls Try.prog 82 #[.string x, .pointer (some ⟨bx, 0, none⟩), .pointer (some ⟨bn, 0, none⟩)] w (TkPost B bo w (xs ++ [x])) := by
  obtain ⟨hb1, hb2, u, g, hu, hr, hg⟩ := hT
  obtain ⟨hx1, hn1, hx2, hn2, cx, cn⟩ := hW
  obtain ⟨i0, hi0, hz0, hz1, hz2⟩ := info_parts Go.Proofs.Ytceildcbehaoaaa.Bt.SU.infoKey
  have HI0 := hidp hi0
  have HZ0 := hidp hz0
  have HZ1 := hidp hz1
  have HZ2 := hidp hz2
  have cb := hu.cell 0 rfl
  have cbf := hu.froz 0 rfl
  have HU := hidp hu
  have HR := hidp hr
  have HG := hidp hg
  obtain ⟨a, cap, rfl⟩ := hr.len
  clear hi0 hz0 hz1 hz2 hu hr hg
  go_enter Try.func82, Try.ntmps82
  go_wp2_with fail
  refine Last.start_ (S := fun w' => w'.cell? ⟨bx, 0, none⟩ = some (.pointer (some ⟨bo, 0, none⟩)) ∧ w'.cell? ⟨bo, 0, none⟩ = some (.slice a xs.length cap)) (ds := [8]) #[Z,Z,Z,Z,Z,Z,Z,Z,Z] (by rfl) (by rfl) (by rfl) ?_ (fun hHeld => ?_)
  · go_keep
  refine Last.take_ (i := 0) (N := some 5) (v := ?_) #[Y,Z,Z,Z,Z,Z,Z,Z,Z] rfl rfl (by kernel_rfl) (fun _ _ _ h => h) (Or.inl ⟨by rfl, ?_⟩) hHeld rfl ?_
  rotate_left
  · (intro w hSw; (try dsimp only at hSw); go_simp; try with_reducible rfl)
  try simp only [Act.put, setIfInBounds_toArray, set_cons_zero, set_cons_succ]
  refine Last.take_ (i := 1) (N := some 6) (v := ?_) #[Y,Y,Z,Z,Z,Z,Z,Z,Z] rfl rfl (by kernel_rfl) (fun _ _ _ h => h) (Or.inl ⟨by rfl, ?_⟩) hHeld rfl ?_
  rotate_left
  · (intro w hSw; (try dsimp only at hSw); go_simp; try with_reducible rfl)
  try simp only [Act.put, setIfInBounds_toArray, set_cons_zero, set_cons_succ]
  refine Last.take_ (i := 2) (N := some 7) (v := ?_) #[Y,Y,Y,Z,Z,Z,Z,Z,Z] rfl rfl (by kernel_rfl) (fun _ _ _ h => h) (Or.inl ⟨by rfl, ?_⟩) hHeld rfl ?_
  rotate_left
  · (intro w hSw; (try dsimp only at hSw); go_simp; try with_reducible rfl)
  try simp only [Act.put, setIfInBounds_toArray, set_cons_zero, set_cons_succ]
  refine Last.take_ (i := 3) (N := some 8) (v := ?_) #[Y,Y,Y,Y,Z,Z,Z,Z,Z] rfl rfl (by kernel_rfl) (fun _ _ _ h => h) (Or.inl ⟨by rfl, ?_⟩) hHeld rfl ?_
  rotate_left
  · (intro w hSw; (try dsimp only at hSw); go_simp; try with_reducible rfl)
  try simp only [Act.put, setIfInBounds_toArray, set_cons_zero, set_cons_succ]
  refine Last.take_ (i := 4) (N := some 9) (v := ?_) #[Y,Y,Y,Y,Y,Z,Z,Z,Z] rfl rfl (by kernel_rfl) (fun _ _ _ h => h) (Or.inl ⟨by rfl, ?_⟩) hHeld rfl ?_
  rotate_left
  · (intro w hSw; (try dsimp only at hSw); go_simp; try with_reducible rfl)
  try simp only [Act.put, setIfInBounds_toArray, set_cons_zero, set_cons_succ]
  refine Last.one_ (i := 5) (N := some 10) #[Y,Y,Y,Y,Y,Y,Z,Z,Z] rfl rfl (by kernel_rfl) (by decide) (fun K hK => ?_)
  go_simp
  refine hK.out _ _ ?_ (fun hHeld => ?_)
  · (try dsimp only); go_keep
  clear hK K
  try simp only [Act.put, setIfInBounds_toArray, set_cons_zero, set_cons_succ]
  refine Last.one_ (i := 6) (N := some 11) #[Y,Y,Y,Y,Y,Y,Y,Z,Z] rfl rfl (by kernel_rfl) (by decide) (fun K hK => ?_)
  refine step_row (by rfl) _ _ _ (by rfl) 9 i0 _ 1 16 Try.underlying23 HI0.out HZ0.out HZ1.out HZ2.out (by rfl) (by decide) (.slice a xs.length cap) xs.length (xs.map Value.string) g (by rfl) ((HR.out.drew).alloc _) ⟨w.heap.size, 0, none⟩ 1 1 [.string x] (by simp [Act.eval, World.drew]) (by decide) (by rfl) ?hc (by simp [Value.oneCell']) (by unfold maxLen; omega) (by omega) ?_
  case hc => exact fun q u hq => by rw [Addr.add_lit, Nat.zero_add]; exact (Bx.new w.drew [.string x] 9).cell q hq
  intro v' w1 g' hr1 hg1 hF1
  obtain ⟨a', cap', rfl⟩ := hr1.len
  have hz : Fr (fun _ => False) w (w.drew.alloc (.cells #[.string x] 9)) := ((Fr.refl (fun _ => False) w).drew).alloc _
  have HST := hidp (Tk.step hb1 hb2 HU.out HG.out hr1 hz hg1 hF1)
  have hw1 : Fr (fun k => g = some k) w w1 := (hz.mono (fun _ h => h.elim)).trans hF1 (fun i hi => .inl hi)
  have k1 := (hw1.cell (x := ⟨bx, 0, none⟩) (Nat.lt_of_lt_of_le hx1 hb2) (fun h => by have := HG.out _ h; exact absurd hx1 (Nat.not_lt.2 this))).trans cx
  have kn := (hw1.cell (x := ⟨bn, 0, none⟩) (Nat.lt_of_lt_of_le hn1 hb2) (fun h => by have := HG.out _ h; exact absurd hn1 (Nat.not_lt.2 this))).trans cn
  have k2 := (hw1.cell (x := ⟨bo, 0, none⟩) (Nat.lt_of_lt_of_le hb1 hb2) (fun h => by have := HG.out _ h; exact absurd hb1 (Nat.not_lt.2 this))).trans cb
  have k2f := (hw1.froz (x := ⟨bo, 0, none⟩) (Nat.lt_of_lt_of_le hb1 hb2) (fun h => by have := HG.out _ h; exact absurd hb1 (Nat.not_lt.2 this))).trans cbf
  clear hr1 hg1 hF1 hz hw1
  refine hK.out _ _ ?_ (fun hHeld => ?_)
  · (try dsimp only); go_keep
  clear hK K
  try simp only [Act.put, setIfInBounds_toArray, set_cons_zero, set_cons_succ]
  refine Last.take_ (i := 7) (N := some 12) (v := ?_) #[Y,Y,Y,Y,Y,Y,Y,Y,Z] rfl rfl (by kernel_rfl) (fun _ _ _ h => h) (Or.inl ⟨by rfl, ?_⟩) hHeld rfl ?_
  rotate_left
  · (intro w hSw; (try dsimp only at hSw); go_simp; try with_reducible rfl)
  try simp only [Act.put, setIfInBounds_toArray, set_cons_zero, set_cons_succ]
  refine Last.last_ (i := 8) (N := none) #[Y,Y,Y,Y,Y,Y,Y,Y,Y] rfl rfl (by kernel_rfl) (by decide) (fun K hK => ?_)
  go_simp
  refine hK.out _ _ ?_
  clear hK K
  try simp only [Act.put, setIfInBounds_toArray, set_cons_zero, set_cons_succ]
  refine Last.done_ (by kernel_rfl) ?_
  clear cx cb cbf HR HU k2 k2f
  go_wp2
  go_quiet (fail)
  go_wp2
  go_ret
  exact ⟨rfl, HST.out.1.drewN nq, Fr.drewN HST.out.2 nq⟩

end Go.Proofs.Ytceildcbehaoaaa.Bt.T
