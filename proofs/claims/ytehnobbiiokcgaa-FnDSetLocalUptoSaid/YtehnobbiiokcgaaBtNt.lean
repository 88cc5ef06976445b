/- Nodes as data: a node of a map lifted (1): in memory; the doors that read. -/
import Derived.Test.YtehnobbiiokcgaaBtNr
namespace Go.Proofs.Ytehnobbiiokcgaa.Bt.ND
set_option linter.unusedVariables false
set_option linter.unusedSimpArgs false
open Go Go.RowKit Go.Proofs.Ytehnobbiiokcgaa.Bt

/-! ### memory: where a node's parts lie -/
/-- A store keeps. -/
theorem RepS.below {I : Type} {E : Enc I} {S : Nat → Prop} {w w' : World} {s : Sto I} (R : RepS E S w s) (hb : Below w.heap.size w w') : RepS E S w' s :=
  R.keep (S1 := fun i => w.heap.size ≤ i) ⟨hb.os, hb.tape, hb.output, hb.size, fun k hk _ => hb.block k hk, fun k hk => bty_eq (hb.block k hk)⟩ (fun i hi h => by have := R.rep.lt i hi; omega)

/-- v is a slice that reads as the items l; it lies in blocks with Q. -/
def ItsQ (Q : Nat → Prop) (w : World) (v : Value) (l : List Im) : Prop :=
  ∃ a cap, v = .slice a l.length cap ∧ l.length ≤ cap ∧ ∀ j x, l[j]? = some x → ∃ b off, Q b ∧ a = some ⟨b, off, none⟩ ∧ w.cell? ⟨b, off + j * 2, none⟩ = some (.int .i64 x.1) ∧ w.cell? ⟨b, off + j * 2 + 1, none⟩ = some (.int .i64 x.2)
/-- The node t; it lies in blocks with Q. -/
def NodeQ (Q : Nat → Prop) (w : World) : (n : Nat) → DT n → Value → Value → Int → Prop
  | 0, _, _, _, _ => False
  | n + 1, t, vi, vk, c => c = t.2.2 ∧ ItsQ Q w vi t.1 ∧ ∃ a cap, vk = .slice a t.2.1.length cap ∧ t.2.1.length ≤ cap ∧ ∀ j k, t.2.1[j]? = some k →
      ∃ b off vi' vk' c', Q b ∧ a = some ⟨b, off, none⟩ ∧ w.cell? ⟨b, off + j * 3, none⟩ = some vi' ∧ w.cell? ⟨b, off + j * 3 + 1, none⟩ = some vk' ∧ w.cell? ⟨b, off + j * 3 + 2, none⟩ = some (.int .i64 c') ∧ NodeQ Q w n k vi' vk' c'
section
variable {Q Q' : Nat → Prop} {w w' : World}
theorem ItsQ.at {v : Value} {l : List Im} (h : ItsQ Q w v l) : Its w v l := by
  obtain ⟨a, cap, e, hc, h⟩ := h
  exact ⟨a, cap, e, hc, fun j x hx => by obtain ⟨b, off, _, h1, h2, h3⟩ := h j x hx; exact ⟨b, off, h1, h2, h3⟩⟩
theorem NodeQ.at : ∀ {n : Nat} {t : DT n} {vi vk : Value} {c : Int}, NodeQ Q w n t vi vk c → NodeAt w n t vi vk c
  | 0, _, _, _, _, h => h
  | n + 1, t, vi, vk, c, h => by
    obtain ⟨h1, h2, a, cap, e, hc, hk⟩ := h
    exact ⟨h1, h2.at, a, cap, e, hc, fun j k hj => by
      obtain ⟨b, off, vi', vk', c', _, g1, g2, g3, g4, g5⟩ := hk j k hj
      exact ⟨b, off, vi', vk', c', g1, g2, g3, g4, g5.at⟩⟩
theorem ItsQ.keep {S : Nat → Prop} {v : Value} {l : List Im} (h : ItsQ Q w v l) (hf : Fr S w w') (hQ : ∀ b, Q b → ¬ S b ∧ Q' b) : ItsQ Q' w' v l := by
  obtain ⟨a, cap, e, hc, h⟩ := h
  refine ⟨a, cap, e, hc, fun j x hx => ?_⟩
  obtain ⟨b, off, q, h1, h2, h3⟩ := h j x hx
  exact ⟨b, off, (hQ b q).2, h1, (hf.cell (x := ⟨b, off + j * 2, none⟩) (World.block_lt_of_cell? w _ h2) (hQ b q).1).trans h2, (hf.cell (x := ⟨b, off + j * 2 + 1, none⟩) (World.block_lt_of_cell? w _ h3) (hQ b q).1).trans h3⟩
theorem NodeQ.keep {S : Nat → Prop} (hf : Fr S w w') (hQ : ∀ b, Q b → ¬ S b ∧ Q' b) : ∀ {n : Nat} {t : DT n} {vi vk : Value} {c : Int}, NodeQ Q w n t vi vk c → NodeQ Q' w' n t vi vk c
  | 0, _, _, _, _, h => h
  | n + 1, t, vi, vk, c, h => by
    obtain ⟨h1, h2, a, cap, e, hc, hk⟩ := h
    refine ⟨h1, h2.keep hf hQ, a, cap, e, hc, fun j k hj => ?_⟩
    obtain ⟨b, off, vi', vk', c', q, g1, g2, g3, g4, g5⟩ := hk j k hj
    exact ⟨b, off, vi', vk', c', (hQ b q).2, g1, (hf.cell (x := ⟨b, off + j * 3, none⟩) (World.block_lt_of_cell? w _ g2) (hQ b q).1).trans g2, (hf.cell (x := ⟨b, off + j * 3 + 1, none⟩) (World.block_lt_of_cell? w _ g3) (hQ b q).1).trans g3,
      (hf.cell (x := ⟨b, off + j * 3 + 2, none⟩) (World.block_lt_of_cell? w _ g4) (hQ b q).1).trans g4, g5.keep hf hQ⟩
theorem NodeQ.mono (hQ : ∀ b, Q b → Q' b) {n : Nat} {t : DT n} {vi vk : Value} {c : Int} (h : NodeQ Q w n t vi vk c) : NodeQ Q' w n t vi vk c := h.keep (Fr.refl (fun _ => False) w) (fun b q => ⟨fun h => h, hQ b q⟩)
/-- A node that lies there, in the blocks that there are. -/
theorem Its.q {v : Value} {l : List Im} (h : Its w v l) (hQ : ∀ b, b < w.heap.size → Q b) : ItsQ Q w v l := by
  obtain ⟨a, cap, e, hc, h⟩ := h
  exact ⟨a, cap, e, hc, fun j x hx => by obtain ⟨b, off, h1, h2, h3⟩ := h j x hx; exact ⟨b, off, hQ b (World.block_lt_of_cell? w _ h2), h1, h2, h3⟩⟩
theorem NodeAt.q (hQ : ∀ b, b < w.heap.size → Q b) : ∀ {n : Nat} {t : DT n} {vi vk : Value} {c : Int}, NodeAt w n t vi vk c → NodeQ Q w n t vi vk c
  | 0, _, _, _, _, h => h
  | n + 1, t, vi, vk, c, h => by
    obtain ⟨h1, h2, a, cap, e, hc, hk⟩ := h
    exact ⟨h1, h2.q hQ, a, cap, e, hc, fun j k hj => by
      obtain ⟨b, off, vi', vk', c', g1, g2, g3, g4, g5⟩ := hk j k hj
      exact ⟨b, off, vi', vk', c', hQ b (World.block_lt_of_cell? w _ g2), g1, g2, g3, g4, g5.q hQ⟩⟩
end

/-! ### a tree of a map as data -/
/-- The tree t as data, with the right counts. -/
def ofBT : (h : Nat) → BT Im h → DT (h + 1)
  | 0, l => (l, [], (List.length l : Nat))
  | h + 1, t => (t.1, t.2.map (ofBT h), ((BT.all (h + 1) t).length : Nat))
theorem ofBT_all : ∀ (h : Nat) (t : BT Im h) , dAll (h + 1) (ofBT h t) = BT.all h t
  | 0, l => by
    show weave l [] = l
    cases l <;> simp [weave]
  | h + 1, t => by
    show weave t.1 ((t.2.map (ofBT h)).map (dAll (h + 1))) = weave t.1 (t.2.map (BT.all h))
    rw [List.map_map]
    congr 1
    exact List.map_congr_left fun k _ => ofBT_all h k
theorem ofBT_its : ∀ (h : Nat) (t : BT Im h), (ofBT h t).1 = BT.its t
  | 0, _ => rfl
  | _ + 1, _ => rfl
theorem ofBT_cnt : ∀ (h : Nat) (t : BT Im h), (ofBT h t).2.2 = ((BT.all h t).length : Nat)
  | 0, _ => rfl
  | _ + 1, _ => rfl

section
variable {S : Nat → Prop} {w : World} {s : Sto II.It} {m : Nat} {r : NodeR II.It}

set_option maxRecDepth 100000 in
theorem doorCount_get (R : RepS II.E S w s) (hn : s.nd m = some r) : Calls Try.prog 89 #[II.dv m] w (fun e w' => e = .returned (.int .i64 r.count) ∧ Below w.heap.size w w') := by
  have hB : Below w.heap.size w (w.alloc (.cells #[.pointer (some ⟨m, 0, none⟩)] 96)) := (Below.refl _ _).alloc (Nat.le_refl _) _
  have n1 := (II.ncell (R.alloc (.cells #[.pointer (some ⟨m, 0, none⟩)] 96)) hn).2.2.1
  have HB := hidp hB
  clear R hn hB
  unfold II.dv
  go_enter Try.func89, Try.ntmps89
  go_wp2
  go_ret
  exact ⟨rfl, HB.out⟩
set_option maxRecDepth 100000 in
theorem doorLen_get (R : RepS II.E S w s) (hn : s.nd m = some r) : Calls Try.prog 90 #[II.dv m] w (fun e w' => e = .returned (.int .i64 (r.items.length : Nat)) ∧ Below w.heap.size w w') := by
  have hB : Below w.heap.size w (w.alloc (.cells #[.pointer (some ⟨m, 0, none⟩)] 96)) := (Below.refl _ _).alloc (Nat.le_refl _) _
  obtain ⟨ba, n2⟩ : ∃ ba, (w.alloc (.cells #[.pointer (some ⟨m, 0, none⟩)] 96)).cell? ⟨m, 2, none⟩ = some (.slice ba r.items.length r.icap) := ⟨_, (II.ncell (R.alloc (.cells #[.pointer (some ⟨m, 0, none⟩)] 96)) hn).2.2.2.1⟩
  have HB := hidp hB
  clear R hn hB
  unfold II.dv
  go_enter Try.func90, Try.ntmps90
  go_wp2
  go_ret
  exact ⟨rfl, HB.out⟩
set_option maxRecDepth 100000 in
theorem doorAt_get (R : RepS II.E S w s) (hn : s.nd m = some r) {j : Nat} {x : Im} (hx : r.items[j]? = some x) : Calls Try.prog 91 #[II.dv m, .int .i64 j] w (fun e w' => e = .returned (.tuple #[.int .i64 x.1, .int .i64 x.2]) ∧ Below w.heap.size w w') := by
  have hB : Below w.heap.size w (w.alloc (.cells #[.pointer (some ⟨m, 0, none⟩)] 96)) := (Below.refl _ _).alloc (Nat.le_refl _) _
  have R1 := R.alloc (.cells #[.pointer (some ⟨m, 0, none⟩)] 96)
  have hlt := (List.getElem?_eq_some_iff.1 hx).1
  obtain ⟨b, o, hb⟩ := R1.ib_some hn (fun e => by rw [e] at hlt; simp at hlt)
  have n2 := (II.ncell R1 hn).2.2.2.1
  rw [hb] at n2
  have n2' : (w.alloc (.cells #[.pointer (some ⟨m, 0, none⟩)] 96)).cell? ⟨m, 2, none⟩ = some (.slice (some ⟨b, o, none⟩) r.items.length r.icap) := n2
  obtain ⟨c1, c2⟩ := II.icell R1 hn hb hx
  have m0 := (Bx.new w [.pointer (some ⟨m, 0, none⟩)] 96).cell 0 rfl
  have jlt : (j : Int) < (r.items.length : Int) := by omega
  have HB := hidp hB
  clear R hn hB R1 n2 hb hx
  unfold II.dv
  go_enter Try.func91, Try.ntmps91
  go_wp2_with fail
  go_quiet (fail)
  go_wp2
  refine bodyPost_ret (v := .tuple #[.int .i64 x.1, .int .i64 x.2]) (by simp [results, Try.results91, go_sem]) rfl ?_
  exact ⟨rfl, Below.drewN HB.out _⟩
set_option maxRecDepth 100000 in
theorem doorIsLeaf_get (R : RepS II.E S w s) (hn : s.nd m = some r) : Calls Try.prog 92 #[II.dv m] w (fun e w' => e = .returned (.bool r.kids.isNone) ∧ Below w.heap.size w w') := by
  have hB : Below w.heap.size w (w.alloc (.cells #[.pointer (some ⟨m, 0, none⟩)] 96)) := (Below.refl _ _).alloc (Nat.le_refl _) _
  have n3 := (II.ncell (R.alloc (.cells #[.pointer (some ⟨m, 0, none⟩)] 96)) hn).2.2.2.2
  have HB := hidp hB
  clear R hn hB
  unfold II.dv
  generalize r.kids = kd at n3 ⊢
  cases kd with
  | none =>
    go_enter Try.func92, Try.ntmps92
    go_wp2_with fail
    refine (II.leaf_raw n3).mono ?_
    rintro e w' ⟨rfl, rfl⟩
    go_wp2
    go_ret
    exact ⟨rfl, HB.out⟩
  | some k =>
    go_enter Try.func92, Try.ntmps92
    go_wp2_with fail
    refine (II.leaf_raw n3).mono ?_
    rintro e w' ⟨rfl, rfl⟩
    go_wp2
    go_ret
    exact ⟨rfl, HB.out⟩
set_option maxRecDepth 100000 in
theorem doorKids_get (R : RepS II.E S w s) (hn : s.nd m = some r) {k : KidR} (hk : r.kids = some k) : Calls Try.prog 93 #[II.dv m] w (fun e w' => e = .returned (.int .i64 (k.kids.length : Nat)) ∧ Below w.heap.size w w') := by
  have hB : Below w.heap.size w (w.alloc (.cells #[.pointer (some ⟨m, 0, none⟩)] 96)) := (Below.refl _ _).alloc (Nat.le_refl _) _
  have R1 := R.alloc (.cells #[.pointer (some ⟨m, 0, none⟩)] 96)
  have n3 := (II.ncell R1 hn).2.2.2.2
  rw [hk] at n3
  have n3' : (w.alloc (.cells #[.pointer (some ⟨m, 0, none⟩)] 96)).cell? ⟨m, 3, none⟩ = some (.pointer (some ⟨k.hdr, 0, none⟩)) := n3
  obtain ⟨ka, h0⟩ : ∃ ka, (w.alloc (.cells #[.pointer (some ⟨m, 0, none⟩)] 96)).cell? ⟨k.hdr, 0, none⟩ = some (.slice ka k.kids.length k.cap) := ⟨_, (R1.hdr hn hk).cell 0 rfl⟩
  have HB := hidp hB
  clear R hn hB R1 n3 hk
  unfold II.dv
  go_enter Try.func93, Try.ntmps93
  go_wp2
  go_ret
  exact ⟨rfl, HB.out⟩
set_option maxRecDepth 100000 in
theorem doorKid_get (R : RepS II.E S w s) (hn : s.nd m = some r) {k : KidR} (hk : r.kids = some k) {j p : Nat} (hp : k.kids[j]? = some (some p)) : Calls Try.prog 94 #[II.dv m, .int .i64 j] w (fun e w' => e = .returned (II.dv p) ∧ Below w.heap.size w w') := by
  obtain ⟨w1, hw1⟩ : ∃ w1, w1 = (w.alloc (.cells #[.pointer (some ⟨m, 0, none⟩)] 96)).alloc (.cells #[.pointer none] 96) := ⟨_, rfl⟩
  have hB : Below w.heap.size w ((w.alloc (.cells #[.pointer (some ⟨m, 0, none⟩)] 96)).alloc (.cells #[.pointer (some ⟨p, 0, none⟩)] 96)) := ((Below.refl _ _).alloc (Nat.le_refl _) _).alloc (by rw [World.size_alloc]; omega) _
  have R1 : RepS II.E S w1 s := by rw [hw1]; exact (R.alloc _).alloc _
  have hlt := (List.getElem?_eq_some_iff.1 hp).1
  obtain ⟨kb, ko, hkb⟩ := R1.kb_some hn hk (fun e => by rw [e] at hlt; simp at hlt)
  have n3 := (II.ncell R1 hn).2.2.2.2
  rw [hk] at n3
  have n3' : w1.cell? ⟨m, 3, none⟩ = some (.pointer (some ⟨k.hdr, 0, none⟩)) := n3
  have h0 := (R1.hdr hn hk).cell 0 rfl
  rw [hkb] at h0
  have h0' : w1.cell? ⟨k.hdr, 0, none⟩ = some (.slice (some ⟨kb, ko, none⟩) k.kids.length k.cap) := h0
  have kp := M_cell (R1.kid hn hk hkb hp)
  have kp' : w1.cell? ⟨kb, ko + j, none⟩ = some (.pointer (some ⟨p, 0, none⟩)) := kp
  have jlt : (j : Int) < (k.kids.length : Int) := by omega
  have HB := hidp hB
  rw [hw1] at n3' h0' kp'
  clear R hn hB R1 n3 hk h0 kp hkb hp hw1
  unfold II.dv
  go_enter Try.func94, Try.ntmps94
  go_wp2
  refine bodyPost_ret (v := .agg #[.pointer (some ⟨p, 0, none⟩)]) (by simp [results, Try.results94, go_sem]) rfl ?_
  exact ⟨rfl, HB.out⟩
end
end Go.Proofs.Ytehnobbiiokcgaa.Bt.ND
