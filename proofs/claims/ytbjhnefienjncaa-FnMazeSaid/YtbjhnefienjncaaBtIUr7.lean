/- Maps of numbers (sets): 'nodeRebalance', said of trees. -/
import Derived.Test.YtbjhnefienjncaaBtIUr1
import Derived.Test.YtbjhnefienjncaaBtIUr2
import Derived.Test.YtbjhnefienjncaaBtIUr3
import Derived.Test.YtbjhnefienjncaaBtIUr4
import Derived.Test.YtbjhnefienjncaaBtIUr5
import Derived.Test.YtbjhnefienjncaaBtIUr6
import Derived.Test.YtbjhnefienjncaaBtIUkz
import Derived.Test.YtbjhnefienjncaaBtRb
namespace Go.Proofs.Ytbjhnefienjncaa.Bt.IU
set_option linter.unusedVariables false
set_option linter.unusedSimpArgs false
open Go Go.RowKit Go.Proofs.Ytbjhnefienjncaa.Bt

section
variable {S : Nat → Prop} {w : World} {s : Sto It}

/-- The children of two neighbours: none, or lists that are not empty. -/
def Both (rl rq : NodeR It) : Prop := (rl.kids = none ∧ rq.kids = none) ∨ ∃ kl kq lb lo qb qo jl jq, rl.kids = some kl ∧ rq.kids = some kq ∧ kl.base = some (lb, lo) ∧ kq.base = some (qb, qo) ∧ kl.kids.length = jl ∧ kq.kids.length = jq ∧ 0 < jl ∧ 0 < jq ∧ jl ≤ 100000 ∧ jq ≤ 100000

variable {n l q j ln lk ll lq : Nat} {rn rl rq : NodeR It} {kn : KidR} {nb no kb ko : Nat} {md : It} {i mx : Nat}

/-- Two neighbours become one. -/
theorem reb_merge (R : RepS E S w s) (H : Pair w s n l q j ln lk ll lq rn rl rq kn nb no kb ko md i mx) (hlt : ll + lq < mx) (hB : Both rl rq) :
    Calls Try.prog 138 #[.pointer (some ⟨s.m, 0, none⟩), .pointer (some ⟨n, 0, none⟩), .int .i64 i] w (fun e w' => e = .returned (.tuple #[]) ∧ ∃ S' s' rn' kn' rl', Ext S w S' w' ∧ RepS E S' w' s' ∧ s'.m = s.m ∧ s'.mp = s.mp ∧
      s'.nd n = some rn' ∧ rn'.iso = rn.iso ∧ rn'.items = rn.items.take j ++ rn.items.drop (j + 1) ∧ rn'.count = rn.count ∧ rn'.kids = some kn' ∧ kn'.kids = kn.kids.take (j + 1) ++ kn.kids.drop (j + 2) ∧
      s'.nd l = some rl' ∧ rl'.iso = rl.iso ∧ rl'.items = rl.items ++ md :: rq.items ∧ rl'.count = rl.count + (rq.count + 1) ∧ (rl.kids = none → rl'.kids = none) ∧ (∀ kl kq, rl.kids = some kl → rq.kids = some kq → ∃ k', rl'.kids = some k' ∧ k'.kids = kl.kids ++ kq.kids) ∧ (∀ z, z ∉ [n, l, q] → s'.nd z = s.nd z)) := by
  rcases hB with ⟨h1, h2⟩ | ⟨kl, kq, lb, lo, qb, qo, jl, jq, h1, h2, h3, h4, h5, h6, h7, h8, h9, h10⟩
  · refine (reb_merge_leaf R H hlt h1 h2).mono ?_
    rintro e w' ⟨rfl, ib, ic, S', s', R', hE, hn, hnd, hm, hmp, ho⟩
    refine ⟨rfl, S', s', _, _, _, hE, R', hm, hmp, hn n _ (List.Mem.head _), rfl, rfl, rfl, rfl, rfl, hn l _ (List.Mem.tail _ (List.Mem.head _)), rfl, by simp, rfl, fun h => h, fun kl kq h => ?_, ho⟩
    rw [h1] at h; cases h
  · refine (reb_merge_inner R H hlt h1 h2 h3 h4 h5 h6 h7 h8 h9 h10).mono ?_
    rintro e w' ⟨rfl, ib, ic, kb2, kc2, S', s', R', hE, hn, hnd, hm, hmp, ho⟩
    refine ⟨rfl, S', s', _, _, _, hE, R', hm, hmp, hn n _ (List.Mem.head _), rfl, rfl, rfl, rfl, rfl, hn l _ (List.Mem.tail _ (List.Mem.head _)), rfl, by simp, rfl, fun h => ?_, fun kl' kq' h h' => ?_, ho⟩
    · rw [h1] at h; cases h
    · rw [h1] at h; rw [h2] at h'
      obtain rfl := Option.some.inj h
      obtain rfl := Option.some.inj h'
      exact ⟨_, rfl, rfl⟩

theorem take_dropLast {α : Type} {l : List α} {p : Nat} (h : l.length = p + 1) : l.take p = l.dropLast := by
  rw [List.dropLast_eq_take, h]; rfl
theorem last_get {α : Type} {l : List α} {p : Nat} {y : α} (h : l.length = p + 1) (hy : l[p]? = some y) : l.getLast? = some y := by
  rw [List.getLast?_eq_getElem?, h]; exact hy
theorem drop_tail {α : Type} {l : List α} : l.drop 1 = l.tail := List.drop_one
theorem head_get {α : Type} {l : List α} {y : α} (hy : l[0]? = some y) : l.head? = some y := by
  cases l with
  | nil => cases hy
  | cons a l => simpa using hy

/-- The left one gives its last item to the right. -/
theorem reb_right (R : RepS E S w s) (H : Pair w s n l q j ln lk ll lq rn rl rq kn nb no kb ko md i mx) (hge : mx ≤ ll + lq) (hgt : lq < ll) (hB : Both rl rq) {y : It} (hy : rl.items.getLast? = some y)
    (hch : ∀ kl, rl.kids = some kl → ∃ c rc, kl.kids.getLast? = some (some c) ∧ s.nd c = some rc ∧ [n, l, q, c].Nodup ∧ 0 ≤ rc.count ∧ rc.count ≤ 100000000000) :
    Calls Try.prog 138 #[.pointer (some ⟨s.m, 0, none⟩), .pointer (some ⟨n, 0, none⟩), .int .i64 i] w (fun e w' => e = .returned (.tuple #[]) ∧ ∃ S' s' rn' kn' rl' rq', Ext S w S' w' ∧ RepS E S' w' s' ∧ s'.m = s.m ∧ s'.mp = s.mp ∧
      s'.nd n = some rn' ∧ rn'.iso = rn.iso ∧ rn'.items = rn.items.set j y ∧ rn'.count = rn.count ∧ rn'.kids = some kn' ∧ kn'.kids = kn.kids ∧
      s'.nd l = some rl' ∧ s'.nd q = some rq' ∧ rl'.iso = rl.iso ∧ rq'.iso = rq.iso ∧ rl'.items = rl.items.dropLast ∧ rq'.items = md :: rq.items ∧ (rl.kids = none → rl'.kids = none ∧ rq'.kids = none ∧ rl'.count = rl.count - 1 ∧ rq'.count = rq.count + 1) ∧
      (∀ kl kq, rl.kids = some kl → rq.kids = some kq → ∃ kl' kq' p rp, rl'.kids = some kl' ∧ rq'.kids = some kq' ∧ kl.kids.getLast? = some (some p) ∧ s.nd p = some rp ∧ kl'.kids = kl.kids.dropLast ∧ kq'.kids = some p :: kq.kids ∧ rl'.count = rl.count - 1 - rp.count ∧ rq'.count = rq.count + 1 + rp.count) ∧ (∀ z, z ∉ [n, l, q] → s'.nd z = s.nd z)) := by
  have hll := H.lel
  obtain ⟨xb, xo, h0⟩ : ∃ b o, rl.ib = some (b, o) := R.ib_some H.hl (by intro e; rw [e] at hy; cases hy)
  have hy' : rl.items[ll - 1]? = some y := by rw [List.getLast?_eq_getElem?, hll] at hy; exact hy
  rcases hB with ⟨h1, h2⟩ | ⟨kl, kq, lb, lo, qb, qo, jl, jq, h1, h2, h3, h4, h5, h6, h7, h8, h9, h10⟩
  · refine (reb_right_leaf R H hge hgt h1 h2 h0 hy').mono ?_
    rintro e w' ⟨rfl, pl, ib, ic, hpl, S', s', R', hE, hn, hnd, hm, hmp, ho⟩
    refine ⟨rfl, S', s', _, _, _, _, hE, R', hm, hmp, hn n _ (List.Mem.head _), rfl, rfl, rfl, rfl, rfl, hn l _ (List.Mem.tail _ (List.Mem.head _)), hn q _ (List.Mem.tail _ (List.Mem.tail _ (List.Mem.head _))), rfl, rfl, take_dropLast (hll.trans hpl), rfl, fun h => ⟨h1, h2, rfl, rfl⟩, fun kl kq h => ?_, ho⟩
    rw [h1] at h; cases h
  · obtain ⟨c, rc, hc1, hc2, hc3, hc4⟩ := hch kl h1
    obtain ⟨pk, hpk⟩ : ∃ pk, jl = pk + 1 := ⟨jl - 1, by omega⟩
    refine (reb_right_inner R H hge hgt h1 h2 h3 h4 h5 h6 h7 h8 h9 h10 h0 hy' hc2 hc3 hc4 hpk (by rw [List.getLast?_eq_getElem?, h5, hpk] at hc1; exact hc1)).mono ?_
    rintro e w' ⟨rfl, pl, ib, ic, kb2, kc2, hpl, S', s', R', hE, hn, hnd, hm, hmp, ho⟩
    refine ⟨rfl, S', s', _, _, _, _, hE, R', hm, hmp, hn n _ (List.Mem.head _), rfl, rfl, rfl, rfl, rfl, hn l _ (List.Mem.tail _ (List.Mem.head _)), hn q _ (List.Mem.tail _ (List.Mem.tail _ (List.Mem.head _))), rfl, rfl, take_dropLast (hll.trans hpl), rfl, fun h => ?_, fun kl' kq' h h' => ?_, fun z hz => ?_⟩
    · rw [h1] at h; cases h
    · rw [h1] at h; rw [h2] at h'
      obtain rfl := Option.some.inj h
      obtain rfl := Option.some.inj h'
      exact ⟨_, _, c, rc, rfl, rfl, hc1, hc2, take_dropLast (h5.trans hpk), rfl, rfl, rfl⟩
    · by_cases e : z = c
      · subst e
        rw [hn z rc (List.Mem.tail _ (List.Mem.tail _ (List.Mem.tail _ (List.Mem.head _)))), hc2]
      · exact ho z (by simp only [List.map_cons, List.map_nil, List.mem_cons, List.not_mem_nil, or_false] at hz ⊢; intro h; rcases h with h | h | h | h; exact hz (.inl h); exact hz (.inr (.inl h)); exact hz (.inr (.inr h)); exact e h)

/-- The right one gives its first item to the left. -/
theorem reb_left (R : RepS E S w s) (H : Pair w s n l q j ln lk ll lq rn rl rq kn nb no kb ko md i mx) (hge : mx ≤ ll + lq) (hgt : ll ≤ lq) (hB : Both rl rq) {y : It} (hy : rq.items.head? = some y)
    (hch : ∀ kq, rq.kids = some kq → ∃ c rc, kq.kids.head? = some (some c) ∧ s.nd c = some rc ∧ [n, l, q, c].Nodup ∧ 0 ≤ rc.count ∧ rc.count ≤ 100000000000) :
    Calls Try.prog 138 #[.pointer (some ⟨s.m, 0, none⟩), .pointer (some ⟨n, 0, none⟩), .int .i64 i] w (fun e w' => e = .returned (.tuple #[]) ∧ ∃ S' s' rn' kn' rl' rq', Ext S w S' w' ∧ RepS E S' w' s' ∧ s'.m = s.m ∧ s'.mp = s.mp ∧
      s'.nd n = some rn' ∧ rn'.iso = rn.iso ∧ rn'.items = rn.items.set j y ∧ rn'.count = rn.count ∧ rn'.kids = some kn' ∧ kn'.kids = kn.kids ∧
      s'.nd l = some rl' ∧ s'.nd q = some rq' ∧ rl'.iso = rl.iso ∧ rq'.iso = rq.iso ∧ rl'.items = rl.items ++ [md] ∧ rq'.items = rq.items.tail ∧ (rl.kids = none → rl'.kids = none ∧ rq'.kids = none ∧ rl'.count = rl.count + 1 ∧ rq'.count = rq.count - 1) ∧
      (∀ kl kq, rl.kids = some kl → rq.kids = some kq → ∃ kl' kq' p rp, rl'.kids = some kl' ∧ rq'.kids = some kq' ∧ kq.kids.head? = some (some p) ∧ s.nd p = some rp ∧ kl'.kids = kl.kids ++ [some p] ∧ kq'.kids = kq.kids.tail ∧ rl'.count = rl.count + 1 + rp.count ∧ rq'.count = rq.count - 1 - rp.count) ∧ (∀ z, z ∉ [n, l, q] → s'.nd z = s.nd z)) := by
  have hlq := H.leq
  obtain ⟨xb, xo, h0⟩ : ∃ b o, rq.ib = some (b, o) := R.ib_some H.hq (by intro e; rw [e] at hy; cases hy)
  have hy' : rq.items[0]? = some y := by rw [← List.head?_eq_getElem?]; exact hy
  have hq0 : 0 < lq := by rw [← hlq]; exact (List.getElem?_eq_some_iff.1 hy').1
  rcases hB with ⟨h1, h2⟩ | ⟨kl, kq, lb, lo, qb, qo, jl, jq, h1, h2, h3, h4, h5, h6, h7, h8, h9, h10⟩
  · refine (reb_left_leaf R H hge hgt hq0 h1 h2 h0 hy').mono ?_
    rintro e w' ⟨rfl, ib, ic, S', s', R', hE, hn, hnd, hm, hmp, ho⟩
    refine ⟨rfl, S', s', _, _, _, _, hE, R', hm, hmp, hn n _ (List.Mem.head _), rfl, rfl, rfl, rfl, rfl, hn l _ (List.Mem.tail _ (List.Mem.head _)), hn q _ (List.Mem.tail _ (List.Mem.tail _ (List.Mem.head _))), rfl, rfl, rfl, drop_tail, fun h => ⟨h1, h2, rfl, rfl⟩, fun kl kq h => ?_, ho⟩
    rw [h1] at h; cases h
  · obtain ⟨c, rc, hc1, hc2, hc3, hc4⟩ := hch kq h2
    obtain ⟨pk, hpk⟩ : ∃ pk, jq = pk + 1 := ⟨jq - 1, by omega⟩
    refine (reb_left_inner R H hge hgt hq0 h1 h2 h3 h4 h5 h6 h7 h8 h9 h10 h0 hy' hc2 hc3 hc4 hpk (by rw [← List.head?_eq_getElem?]; exact hc1)).mono ?_
    rintro e w' ⟨rfl, ib, ic, kb2, kc2, S', s', R', hE, hn, hnd, hm, hmp, ho⟩
    refine ⟨rfl, S', s', _, _, _, _, hE, R', hm, hmp, hn n _ (List.Mem.head _), rfl, rfl, rfl, rfl, rfl, hn l _ (List.Mem.tail _ (List.Mem.head _)), hn q _ (List.Mem.tail _ (List.Mem.tail _ (List.Mem.head _))), rfl, rfl, rfl, drop_tail, fun h => ?_, fun kl' kq' h h' => ?_, fun z hz => ?_⟩
    · rw [h1] at h; cases h
    · rw [h1] at h; rw [h2] at h'
      obtain rfl := Option.some.inj h
      obtain rfl := Option.some.inj h'
      exact ⟨_, _, c, rc, rfl, rfl, hc1, hc2, rfl, drop_tail, rfl, rfl⟩
    · by_cases e : z = c
      · subst e
        rw [hn z rc (List.Mem.tail _ (List.Mem.tail _ (List.Mem.tail _ (List.Mem.head _)))), hc2]
      · exact ho z (by simp only [List.map_cons, List.map_nil, List.mem_cons, List.not_mem_nil, or_false] at hz ⊢; intro h; rcases h with h | h | h | h; exact hz (.inl h); exact hz (.inr (.inl h)); exact hz (.inr (.inr h)); exact e h)
end

/-- What a rebalancing leaves. -/
def RPost (S : Nat → Prop) (w : World) (s : Sto It) (h n : Nat) (t' : BT It (h + 1)) (ids : List Nat) (e : Ending) (w' : World) : Prop :=
  e = .returned (.tuple #[]) ∧ ∃ S' s', Ext S w S' w' ∧ RepS E S' w' s' ∧ s'.m = s.m ∧ s'.mp = s.mp ∧ NewT w s s' (h + 1) n t' ids

variable {S : Nat → Prop} {w : World} {s : Sto It}

set_option maxHeartbeats 1000000 in
/-- 'nodeRebalance', said of trees. -/
theorem reb_tr {mn L : Nat} (hL4 : L ≤ 1000) (hL0 : 0 < L) (R : RepS E S w s) {h n : Nat} {t : BT It (h + 1)} {ids : List Nat} (T : Tr s.nd s.mp.iso (h + 1) n t ids) (hd : ids.Nodup) (hkl : t.2.length = t.1.length + 1) (h0 : 0 < t.1.length) (hhi : t.1.length ≤ L) (hk : ∀ c ∈ t.2, BT.ok mn L 0 h c) (hmx : s.mp.mx = L) (hb : (BT.all (h + 1) t).length ≤ 100000000000)
    {i : Nat} (hi : i ≤ t.1.length) (hall : (BT.all (h + 1) (reb L t i)).length = (BT.all (h + 1) t).length) :
    Calls Try.prog 138 #[.pointer (some ⟨s.m, 0, none⟩), .pointer (some ⟨n, 0, none⟩), .int .i64 i] w (RPost S w s h n (reb L t i) ids) := by
  have hltN := Tr.below R T
  obtain ⟨r, k, ps, idss, hr, a2, a3, a4, a5, a6, a7, a8, a9, a10, a11⟩ := T.kids hd
  obtain ⟨j, hjd⟩ : ∃ j, j = if i = t.1.length then i - 1 else i := ⟨_, rfl⟩
  have hj : j < t.1.length := by rw [hjd]; split <;> omega
  have hij : (i = j ∧ i ≠ t.1.length) ∨ (i = t.1.length ∧ j + 1 = i) := by rw [hjd]; split <;> omega
  have hreb : reb L t i = rebAt L t j := by unfold reb; rw [← hjd]
  rw [hreb] at hall ⊢
  clear hjd hreb
  obtain ⟨md, em⟩ : ∃ m, t.1[j]? = some m := ⟨t.1[j], List.getElem?_eq_getElem hj⟩
  obtain ⟨cl, e1⟩ : ∃ c, t.2[j]? = some c := ⟨_, List.getElem?_eq_getElem (by omega)⟩
  obtain ⟨cr, e2⟩ : ∃ c, t.2[j + 1]? = some c := ⟨_, List.getElem?_eq_getElem (by omega)⟩
  obtain ⟨l, p1⟩ : ∃ c, ps[j]? = some c := ⟨_, List.getElem?_eq_getElem (by omega)⟩
  obtain ⟨q, p2⟩ : ∃ c, ps[j + 1]? = some c := ⟨_, List.getElem?_eq_getElem (by omega)⟩
  obtain ⟨il, i1⟩ : ∃ c, idss[j]? = some c := ⟨_, List.getElem?_eq_getElem (by omega)⟩
  obtain ⟨iq, i2⟩ : ∃ c, idss[j + 1]? = some c := ⟨_, List.getElem?_eq_getElem (by omega)⟩
  have Tl := a10 j l cl il p1 e1 i1
  have Tq := a10 (j + 1) q cr iq p2 e2 i2
  obtain ⟨ml, rl, hl, l1, l2, l3, l4⟩ := Tl.root
  obtain ⟨mq, rq, hq, q1, q2, q3, q4⟩ := Tq.root
  have KK : Kids s.nd s.mp.iso h ps t.2 idss := ⟨a7, a8, a10⟩
  have hd9 := hd
  rw [a9, (KK.at2 p1 p2 e1 e2 i1 i2).2.2] at hd9
  have hdis : (il ++ iq).Nodup ∧ n ∉ il ++ iq := by
    simp only [List.flatten_append, List.flatten_cons, List.flatten_nil, List.append_nil] at hd9
    have g1 := List.nodup_cons.1 hd9
    have g2 := (List.nodup_append.1 g1.2).2.1
    rw [List.append_assoc] at g2
    refine ⟨?_, fun hm => g1.1 ?_⟩
    · have g3 := List.nodup_append.1 g2
      refine List.nodup_append.2 ⟨g3.1, (List.nodup_append.1 g3.2.1).1, fun x hx y hy => g3.2.2 x hx y (List.mem_append.2 (.inl hy))⟩
    · simp only [List.mem_append] at hm ⊢
      rcases hm with hm | hm
      · exact .inr (.inl (.inl hm))
      · exact .inr (.inl (.inr hm))
  obtain ⟨hdl, hnl⟩ := hdis
  have hln : l ≠ n := fun e => hnl (by rw [← e]; exact List.mem_append.2 (.inl ml))
  have hqn : q ≠ n := fun e => hnl (by rw [← e]; exact List.mem_append.2 (.inr mq))
  have hlq : l ≠ q := (List.nodup_append.1 hdl).2.2 l ml q mq
  have hkL := hk cl (List.mem_of_getElem? e1)
  have hkR := hk cr (List.mem_of_getElem? e2)
  have iL := BT.ok_its hkL
  have iR := BT.ok_its hkR
  obtain ⟨nb, no, hnb⟩ := R.ib_some hr (by intro e; rw [← a3, e] at h0; simp at h0)
  have hkk : k.kids.length = t.1.length + 1 := by rw [a5, List.length_map, a7, hkl]
  obtain ⟨kb, ko, hkb⟩ := R.kb_some hr a4 (by intro e; rw [e] at hkk; simp at hkk)
  have hsum : (BT.all h cl).length ≤ 100000000000 ∧ (BT.all h cr).length ≤ 100000000000 := by
    constructor
    · have hs : (BT.all h cl).Sublist (BT.all (h + 1) t) := weave_kid (ls := t.2.map (BT.all h)) (i := j) (by omega) (by rw [List.getElem?_map, e1]; rfl)
      have := hs.length_le; omega
    · have hs : (BT.all h cr).Sublist (BT.all (h + 1) t) := weave_kid (ls := t.2.map (BT.all h)) (i := j + 1) (by omega) (by rw [List.getElem?_map, e2]; rfl)
      have := hs.length_le; omega
  have HP : Pair w s n l q j t.1.length (t.1.length + 1) (BT.its cl).length (BT.its cr).length r rl rq k nb no kb ko md i L :=
    ⟨hr, hl, hq, l1, q1, by simp [Ne.symm hln, Ne.symm hqn, hlq], by rw [a3], by rw [l2], by rw [q2], a4, hkk, Nat.le_refl _, Nat.le_refl _, hnb, hkb, by rw [a5, List.getElem?_map, p1]; rfl, by rw [a5, List.getElem?_map, p2]; rfl, by rw [a3]; exact em, hij, hmx, by omega, by omega, by omega, by omega, by rw [l3]; omega, by rw [q3]; omega⟩
  have hBoth : Both rl rq := by
    cases h with
    | zero => exact .inl ⟨l4.2 rfl, q4.2 rfl⟩
    | succ h =>
      obtain ⟨r1, k1, ps1, iss1, b1, _, _, b4, b5, _, b7, _, _, _⟩ := Tl
      obtain ⟨r2, k2, ps2, iss2, c1, _, _, c4, c5, _, c7, _, _, _⟩ := Tq
      rw [hl] at b1; obtain rfl := Option.some.inj b1
      rw [hq] at c1; obtain rfl := Option.some.inj c1
      have x1 : k1.kids.length = (BT.its cl).length + 1 := by rw [b5, List.length_map, b7]; exact hkL.2.2.1
      have x2 : k2.kids.length = (BT.its cr).length + 1 := by rw [c5, List.length_map, c7]; exact hkR.2.2.1
      obtain ⟨lb, lo, hlb⟩ := R.kb_some hl b4 (by intro e; rw [e] at x1; simp at x1)
      obtain ⟨qb, qo, hqb⟩ := R.kb_some hq c4 (by intro e; rw [e] at x2; simp at x2)
      exact .inr ⟨k1, k2, lb, lo, qb, qo, _, _, b4, c4, hlb, hqb, x1, x2, by omega, by omega, by omega, by omega⟩
  have hchild : ∀ (p : Nat) (cp : BT It h) (ip : List Nat) (rp : NodeR It) (kp : KidR), Tr s.nd s.mp.iso h p cp ip → s.nd p = some rp → rp.kids = some kp → (∀ x ∈ ip, x ∈ il ∨ x ∈ iq) → (∀ x ∈ ip, x ≠ p → x ≠ l ∧ x ≠ q) → (BT.all h cp).length ≤ 100000000000 → ip.Nodup → BT.ok mn L 0 h cp →
      ∀ (m c : Nat), kp.kids[m]? = some (some c) → ∃ rc, s.nd c = some rc ∧ [n, l, q, c].Nodup ∧ 0 ≤ rc.count ∧ rc.count ≤ 100000000000 := by
    intro p cp ip rp kp Tp hp hkp hsub hne hsz hnp hcok m c hm
    cases h with
    | zero =>
      obtain ⟨_, r1, b1, _, _, b4, _⟩ := Tp
      rw [hp] at b1; obtain rfl := Option.some.inj b1
      rw [hkp] at b4; cases b4
    | succ h =>
      obtain ⟨r1, k1, ps1, iss1, b1, _, _, b4, b5, _, b7, b8, b9, b10⟩ := Tp
      rw [hp] at b1; obtain rfl := Option.some.inj b1
      rw [hkp] at b4; obtain rfl := Option.some.inj b4
      rw [b5, List.getElem?_map] at hm
      cases hpm : ps1[m]? with
      | none => rw [hpm] at hm; cases hm
      | some c' =>
        rw [hpm] at hm
        obtain rfl : c' = c := by simpa using hm
        obtain ⟨cc, hcc⟩ := get_of_len b7 hpm
        obtain ⟨ic, hic⟩ := get_of_len b8.symm hcc
        obtain ⟨mc, rc, hc, _, _, hcnt, _⟩ := (b10 m c' cc ic hpm hcc hic).root
        have hcf : c' ∈ iss1.flatten := List.mem_flatten.2 ⟨ic, List.mem_of_getElem? hic, mc⟩
        have hci : c' ∈ ip := by rw [b9]; exact List.mem_cons_of_mem _ hcf
        have hcp : c' ≠ p := fun e => by rw [b9] at hnp; exact (List.nodup_cons.1 hnp).1 (e ▸ hcf)
        have hcn : n ≠ c' := fun e => hnl (by rw [e]; exact List.mem_append.2 (hsub c' hci))
        obtain ⟨g1, g2⟩ := hne c' hci hcp
        have hs : (BT.all h cc).Sublist (BT.all (h + 1) cp) := by
          have hL : (cp.2.map (BT.all h))[m]? = some (BT.all h cc) := by rw [List.getElem?_map, hcc]; rfl
          have := (List.getElem?_eq_some_iff.1 hcc).1
          have h3 := hcok.2.2.1
          exact weave_kid (by omega) hL
        have := hs.length_le
        exact ⟨rc, hc, by simp [Ne.symm hln, Ne.symm hqn, hlq, hcn, Ne.symm g1, Ne.symm g2], by rw [hcnt]; omega, by rw [hcnt]; omega⟩
  have hnl2 : ∀ x ∈ il, x ≠ l → x ≠ l ∧ x ≠ q := fun x hx hxl => ⟨hxl, fun e => (List.nodup_append.1 hdl).2.2 x hx q mq e⟩
  have hnq2 : ∀ x ∈ iq, x ≠ q → x ≠ l ∧ x ≠ q := fun x hx hxq => ⟨fun e => (List.nodup_append.1 hdl).2.2 l ml x hx e.symm, hxq⟩
  have hout : ∀ (s' : Sto It), (∀ z, z ∉ [n, l, q] → s'.nd z = s.nd z) → (∀ x, x ∈ il ++ iq → x ≠ l → x ≠ q → s'.nd x = s.nd x) ∧ (∀ x, x ∉ il ++ iq → x < w.heap.size → x ≠ n → s'.nd x = s.nd x) ∧ (∀ x, x ∉ ids → x < w.heap.size → s'.nd x = s.nd x) := fun s' ho =>
    ⟨fun x hx h1 h2 => ho x (by simp only [List.mem_cons, List.not_mem_nil, or_false]; rintro (e | e | e); exact hnl (e ▸ hx); exact h1 e; exact h2 e),
     fun x hx _ h1 => ho x (by simp only [List.mem_cons, List.not_mem_nil, or_false]; rintro (e | e | e); exact h1 e; exact hx (e ▸ List.mem_append.2 (.inl ml)); exact hx (e ▸ List.mem_append.2 (.inr mq))),
     fun x hx _ => ho x (by
       have hin : ∀ y ∈ n :: (il ++ iq), y ∈ ids := fun y hy => by
         rw [a9]
         rcases List.mem_cons.1 hy with rfl | hy
         · simp
         · rcases List.mem_append.1 hy with hy | hy
           · exact List.mem_cons_of_mem _ (List.mem_flatten.2 ⟨il, List.mem_of_getElem? i1, hy⟩)
           · exact List.mem_cons_of_mem _ (List.mem_flatten.2 ⟨iq, List.mem_of_getElem? i2, hy⟩)
       simp only [List.mem_cons, List.not_mem_nil, or_false]; rintro (e | e | e)
       · exact hx (hin x (by rw [e]; simp))
       · exact hx (hin x (by rw [e]; exact List.mem_cons_of_mem _ (List.mem_append.2 (.inl ml))))
       · exact hx (hin x (by rw [e]; exact List.mem_cons_of_mem _ (List.mem_append.2 (.inr mq)))))⟩
  have hcn := (T.root).2
  obtain ⟨r0, hr0, _, _, hcnt0, _⟩ := hcn
  rw [hr] at hr0; obtain rfl := Option.some.inj hr0
  have hre1 : (BT.its cl).length + (BT.its cr).length < L → rebAt L t j = ((t.1.take j ++ t.1.drop (j + 1), t.2.take j ++ joinN h cl md cr :: t.2.drop (j + 2)) : BT It (h + 1)) := fun hlt => by
    unfold rebAt; rw [em, e1, e2]; simp only; rw [if_pos hlt]
  have hre2 : ∀ {l' r' : BT It h} {y : It}, ¬ (BT.its cl).length + (BT.its cr).length < L → (BT.its cr).length < (BT.its cl).length → shR h cl md cr = some (l', y, r') → rebAt L t j = ((t.1.set j y, t.2.take j ++ l' :: r' :: t.2.drop (j + 2)) : BT It (h + 1)) := fun hlt hgt hs => by
    unfold rebAt; rw [em, e1, e2]; simp only; rw [if_neg hlt, if_pos hgt, hs]
  have hre3 : ∀ {l' r' : BT It h} {y : It}, ¬ (BT.its cl).length + (BT.its cr).length < L → ¬ (BT.its cr).length < (BT.its cl).length → shL h cl md cr = some (l', y, r') → rebAt L t j = ((t.1.set j y, t.2.take j ++ l' :: r' :: t.2.drop (j + 2)) : BT It (h + 1)) := fun hlt hgt hs => by
    unfold rebAt; rw [em, e1, e2]; simp only; rw [if_neg hlt, if_neg hgt, hs]
  by_cases hlt : (BT.its cl).length + (BT.its cr).length < L
  · rw [hre1 hlt] at hall ⊢
    refine (reb_merge R HP hlt hBoth).mono ?_
    rintro e w' ⟨rfl, S', s', rn', kn', rl', hE, R', hm, hmp, b1, b2, b3, b4, b5, b6, c1, c2, c3, c4, c5, c6, ho⟩
    obtain ⟨o1, o2, o3⟩ := hout s' ho
    obtain ⟨il', Tl', hnd', hsub'⟩ := Tr.join (md := md) Tl Tq hdl hl hq c1 (c2.trans l1) c3 c4 c5 c6 o1
    obtain ⟨ids', T', hd', hs'⟩ := Tr.one (N := w.heap.size) (r' := rn') (k' := kn') (xs := t.1.take j ++ t.1.drop (j + 1)) KK a9 hd hltN p1 p2 e1 e2 i1 i2 Tl' hnd' hsub' o2 b1 (b2.trans a2) (by rw [b3, a3]) b5 (by rw [b6, a5]) (by rw [b4, hcnt0, ← hall])
    exact ⟨rfl, S', s', hE, R', hm, hmp, ids', T', hd', hs', o3⟩
  · have hge : L ≤ (BT.its cl).length + (BT.its cr).length := by omega
    by_cases hgt : (BT.its cr).length < (BT.its cl).length
    · cases hs : shR h cl md cr with
      | none =>
        exfalso
        cases h with
        | zero =>
          rw [Go.Proofs.Ytbjhnefienjncaa.Bt.shR] at hs
          cases hy : List.getLast? (cl : List It) with
          | none =>
            have e : (cl : List It) = [] := List.getLast?_eq_none_iff.1 hy
            have : (BT.its cl).length = 0 := by show List.length (cl : List It) = 0; rw [e]; rfl
            omega
          | some y => rw [hy] at hs; cases hs
        | succ h =>
          rw [Go.Proofs.Ytbjhnefienjncaa.Bt.shR] at hs
          have hc2 := hkL.2.2.1
          cases hy : cl.1.getLast? with
          | none =>
            have : (BT.its cl).length = 0 := by show cl.1.length = 0; rw [List.getLast?_eq_none_iff.1 hy]; rfl
            omega
          | some y =>
            cases hz : cl.2.getLast? with
            | none => rw [List.getLast?_eq_none_iff.1 hz] at hc2; simp at hc2
            | some z => rw [hy, hz] at hs; cases hs
      | some p =>
        obtain ⟨cl', y, cr'⟩ := p
        rw [hre2 hlt hgt hs] at hall ⊢
        have hy : rl.items.getLast? = some y := by
          rw [l2]
          cases h with
          | zero =>
            rw [Go.Proofs.Ytbjhnefienjncaa.Bt.shR] at hs
            cases hy : List.getLast? (cl : List It) with
            | none => rw [hy] at hs; cases hs
            | some y' =>
              rw [hy] at hs
              simp only [Option.some.injEq, Prod.mk.injEq] at hs
              show List.getLast? (cl : List It) = some y
              rw [hy, hs.2.1]
          | succ h =>
            rw [Go.Proofs.Ytbjhnefienjncaa.Bt.shR] at hs
            cases hy : cl.1.getLast? with
            | none => rw [hy] at hs; simp at hs
            | some y' =>
              cases hz : cl.2.getLast? with
              | none => rw [hy, hz] at hs; simp at hs
              | some z =>
                rw [hy, hz] at hs
                simp only [Option.some.injEq, Prod.mk.injEq] at hs
                show cl.1.getLast? = some y
                rw [hy, hs.2.1]
        refine (reb_right R HP hge hgt hBoth hy (fun kl hkl' => ?_)).mono ?_
        · rcases hBoth with ⟨g1, _⟩ | ⟨kl2, kq2, lb, lo, qb, qo, jl, jq, g1, g2, g3, g4, g5, g6, g7, g8, g9, g10⟩
          · rw [hkl'] at g1; cases g1
          · rw [hkl'] at g1; obtain rfl := Option.some.inj g1
            obtain ⟨pk, hpk⟩ : ∃ pk, jl = pk + 1 := ⟨jl - 1, by omega⟩
            have hnone : ∀ x ∈ kl.kids, x ≠ none := by
              cases h with
              | zero => obtain ⟨_, r1, b1, _, _, b4, _⟩ := Tl; rw [hl] at b1; obtain rfl := Option.some.inj b1; rw [hkl'] at b4; cases b4
              | succ h =>
                obtain ⟨r1, k1, ps1, iss1, b1, _, _, b4, b5, _⟩ := Tl
                rw [hl] at b1; obtain rfl := Option.some.inj b1
                rw [hkl'] at b4; obtain rfl := Option.some.inj b4
                intro x hx; rw [b5] at hx; obtain ⟨z, _, rfl⟩ := List.mem_map.1 hx; simp
            obtain ⟨x, hx⟩ : ∃ x, kl.kids[pk]? = some x := ⟨_, List.getElem?_eq_getElem (by omega)⟩
            cases x with
            | none => exact absurd rfl (hnone none (List.mem_of_getElem? hx))
            | some c =>
              obtain ⟨rc, k1, k2, k3, k4⟩ := hchild l cl il rl kl Tl hl hkl' (fun x hx => .inl hx) hnl2 hsum.1 (List.nodup_append.1 hdl).1 hkL pk c hx
              exact ⟨c, rc, last_get (g5.trans hpk) hx, k1, k2, k3, k4⟩
        rintro e w' ⟨rfl, S', s', rn', kn', rl', rq', hE, R', hm, hmp, b1, b2, b3, b4, b5, b6, c1, c2, c3, c4, c5, c6, c7, c8, ho⟩
        obtain ⟨o1, o2, o3⟩ := hout s' ho
        obtain ⟨_, il', iq', Tl', Tq', hnd', hsub'⟩ := Tr.shR hs Tl Tq hdl hl hq c1 c2 (c3.trans l1) (c4.trans q1) c5 c6 c7 c8 o1
        obtain ⟨ids', T', hd', hs'⟩ := Tr.two (N := w.heap.size) (r' := rn') (k' := kn') (xs := t.1.set j y) KK a9 hd hltN p1 p2 e1 e2 i1 i2 Tl' Tq' hnd' hsub' o2 b1 (b2.trans a2) (by rw [b3, a3]) b5 (by rw [b6, a5]) (by rw [b4, hcnt0, ← hall])
        exact ⟨rfl, S', s', hE, R', hm, hmp, ids', T', hd', hs', o3⟩
    · cases hs : shL h cl md cr with
      | none =>
        exfalso
        cases h with
        | zero =>
          rw [Go.Proofs.Ytbjhnefienjncaa.Bt.shL] at hs
          cases hy : List.head? (cr : List It) with
          | none =>
            have e : (cr : List It) = [] := List.head?_eq_none_iff.1 hy
            have : (BT.its cr).length = 0 := by show List.length (cr : List It) = 0; rw [e]; rfl
            omega
          | some y => rw [hy] at hs; cases hs
        | succ h =>
          rw [Go.Proofs.Ytbjhnefienjncaa.Bt.shL] at hs
          have hc2 := hkR.2.2.1
          cases hy : cr.1.head? with
          | none =>
            have : (BT.its cr).length = 0 := by show cr.1.length = 0; rw [List.head?_eq_none_iff.1 hy]; rfl
            omega
          | some y =>
            cases hz : cr.2.head? with
            | none => rw [List.head?_eq_none_iff.1 hz] at hc2; simp at hc2
            | some z => rw [hy, hz] at hs; cases hs
      | some p =>
        obtain ⟨cl', y, cr'⟩ := p
        rw [hre3 hlt hgt hs] at hall ⊢
        have hy : rq.items.head? = some y := by
          rw [q2]
          cases h with
          | zero =>
            rw [Go.Proofs.Ytbjhnefienjncaa.Bt.shL] at hs
            cases hy : List.head? (cr : List It) with
            | none => rw [hy] at hs; cases hs
            | some y' =>
              rw [hy] at hs
              simp only [Option.some.injEq, Prod.mk.injEq] at hs
              show List.head? (cr : List It) = some y
              rw [hy, hs.2.1]
          | succ h =>
            rw [Go.Proofs.Ytbjhnefienjncaa.Bt.shL] at hs
            cases hy : cr.1.head? with
            | none => rw [hy] at hs; simp at hs
            | some y' =>
              cases hz : cr.2.head? with
              | none => rw [hy, hz] at hs; simp at hs
              | some z =>
                rw [hy, hz] at hs
                simp only [Option.some.injEq, Prod.mk.injEq] at hs
                show cr.1.head? = some y
                rw [hy, hs.2.1]
        refine (reb_left R HP hge (by omega) hBoth hy (fun kl hkl' => ?_)).mono ?_
        · rcases hBoth with ⟨_, g2⟩ | ⟨kl2, kq2, lb, lo, qb, qo, jl, jq, g1, g2, g3, g4, g5, g6, g7, g8, g9, g10⟩
          · rw [hkl'] at g2; cases g2
          · rw [hkl'] at g2; obtain rfl := Option.some.inj g2
            have hnone : ∀ x ∈ kl.kids, x ≠ none := by
              cases h with
              | zero => obtain ⟨_, r1, b1, _, _, b4, _⟩ := Tq; rw [hq] at b1; obtain rfl := Option.some.inj b1; rw [hkl'] at b4; cases b4
              | succ h =>
                obtain ⟨r1, k1, ps1, iss1, b1, _, _, b4, b5, _⟩ := Tq
                rw [hq] at b1; obtain rfl := Option.some.inj b1
                rw [hkl'] at b4; obtain rfl := Option.some.inj b4
                intro x hx; rw [b5] at hx; obtain ⟨z, _, rfl⟩ := List.mem_map.1 hx; simp
            obtain ⟨x, hx⟩ : ∃ x, kl.kids[0]? = some x := ⟨_, List.getElem?_eq_getElem (by omega)⟩
            cases x with
            | none => exact absurd rfl (hnone none (List.mem_of_getElem? hx))
            | some c =>
              obtain ⟨rc, k1, k2, k3, k4⟩ := hchild q cr iq rq kl Tq hq hkl' (fun x hx => .inr hx) hnq2 hsum.2 (List.nodup_append.1 hdl).2.1 hkR 0 c hx
              exact ⟨c, rc, head_get hx, k1, k2, k3, k4⟩
        rintro e w' ⟨rfl, S', s', rn', kn', rl', rq', hE, R', hm, hmp, b1, b2, b3, b4, b5, b6, c1, c2, c3, c4, c5, c6, c7, c8, ho⟩
        obtain ⟨o1, o2, o3⟩ := hout s' ho
        obtain ⟨_, il', iq', Tl', Tq', hnd', hsub'⟩ := Tr.shL hs Tl Tq hdl hl hq c1 c2 (c3.trans l1) (c4.trans q1) c5 c6 c7 c8 o1
        obtain ⟨ids', T', hd', hs'⟩ := Tr.two (N := w.heap.size) (r' := rn') (k' := kn') (xs := t.1.set j y) KK a9 hd hltN p1 p2 e1 e2 i1 i2 Tl' Tq' hnd' hsub' o2 b1 (b2.trans a2) (by rw [b3, a3]) b5 (by rw [b6, a5]) (by rw [b4, hcnt0, ← hall])
        exact ⟨rfl, S', s', hE, R', hm, hmp, ids', T', hd', hs', o3⟩
end Go.Proofs.Ytbjhnefienjncaa.Bt.IU
