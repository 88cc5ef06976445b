/- Maps of numbers (sets): setting an item in a tree of nodes. -/
import Derived.Test.YtbjhnefienjncaaBtIUe
import Derived.Test.YtbjhnefienjncaaBtIUh
import Derived.Test.YtbjhnefienjncaaBtIUkz
namespace Go.Proofs.Ytbjhnefienjncaa.Bt.IU
set_option linter.unusedVariables false
set_option linter.unusedSimpArgs false
open Go Go.RowKit Go.Proofs.Ytbjhnefienjncaa.Bt

def NRes (w : World) (s s' : Sto It) (h n : Nat) (ids : List Nat) (e : Ending) : IR (BT It h) It → Prop
  | .split => e = .returned (.tuple #[Value.agg #[], .bool false, .bool true]) ∧ s' = s
  | .rep t' y => e = .returned (.tuple #[Value.agg #[], .bool true, .bool false]) ∧ NewT w s s' h n t' ids
  | .new t' => e = .returned (.tuple #[Value.agg #[], .bool false, .bool false]) ∧ NewT w s s' h n t' ids
def NPost (S : Nat → Prop) (w : World) (s : Sto It) (h n : Nat) (ids : List Nat) (res : IR (BT It h) It) (e : Ending) (w' : World) : Prop :=
  ∃ S' s', Ext S w S' w' ∧ RepS E S' w' s' ∧ s'.m = s.m ∧ s'.mp = s.mp ∧ NRes w s s' h n ids e res

section
variable {S : Nat → Prop} {w : World} {s : Sto It}

/-- 'nodeSet' at a leaf. -/
theorem nodeSet_leaf {L : Nat} (hL4 : L ≤ 1000) (R : RepS E S w s) {A : Addr} {n : Nat} (hA : w.cell? A = some (pv (some n))) {t : BT It 0} {ids : List Nat} (T : Tr s.nd s.mp.iso 0 n t ids) (hlen : List.length (t : List It) ≤ L) (hs : Srt lt (t : List It)) (hmx : s.mp.mx = L) (x : It) :
    Calls Try.prog 133 #[.pointer (some ⟨s.m, 0, none⟩), .pointer (some A), .agg #[Value.int .i64 x.1]] w (NPost S w s 0 n ids (insN lt L 0 t x)) := by
  obtain ⟨rfl, r, hr, hiso, hits, hk, hcnt⟩ := T
  have hits' : r.items = (t : List It) := hits
  have hlt : ∀ k, k ∉ [n] → k ≠ n := fun k hk e => hk (by simp [e])
  rw [insN]
  cases hl : look lt (t : List It) x with
  | some y =>
    refine (nodeSet_found R hA hr hiso (by rw [hits']; exact hs) (by rw [hits']; omega) (x := x) (y := y) (by rw [hits']; exact hl)).mono ?_
    rintro e w' ⟨rfl, hE, R'⟩
    refine ⟨S, _, hE, R', rfl, rfl, rfl, [n], ⟨rfl, _, Sto.nd_same _ _ _, hiso, ?_, hk, ?_⟩, by simp, fun k hk => .inl hk, fun k hk _ => Sto.nd_ne _ _ (hlt k hk)⟩
    · show r.items.set (pos lt r.items x) x = List.set (t : List It) _ x; rw [hits']
    · show r.count = ((List.set (t : List It) _ x).length : Nat); rw [List.length_set]; exact hcnt
  | none =>
    show Calls _ _ _ w (NPost S w s 0 n [n] (if List.length (t : List It) = L then .split else .new (put lt (t : List It) x)))
    by_cases hf : List.length (t : List It) = L
    · rw [if_pos hf]
      refine (nodeSet_full R hA hr hiso (by rw [hits']; exact hs) (by rw [hits']; omega) hk (by rw [hits', hf, hmx]) (x := x) (by rw [hits']; exact hl)).mono ?_
      rintro e w' ⟨rfl, hE, R'⟩
      exact ⟨S, s, hE, R', rfl, rfl, rfl, rfl⟩
    · rw [if_neg hf]
      refine (nodeSet_new R hA hr hiso (by rw [hits']; exact hs) (by rw [hits']; omega) hk (by rw [hits', hmx]; omega) (by rw [hcnt]; omega) (by rw [hcnt]; omega) (x := x) (by rw [hits']; exact hl)).mono ?_
      rintro e w' ⟨rfl, S', ib', cap', hE, R'⟩
      refine ⟨S', _, hE, R', rfl, rfl, rfl, [n], ⟨rfl, _, Sto.nd_same _ _ _, hiso, ?_, hk, ?_⟩, by simp, fun k hk => .inl hk, fun k hk _ => Sto.nd_ne _ _ (hlt k hk)⟩
      · show put lt r.items x = put lt (t : List It) x; rw [hits']
      · show r.count + 1 = ((put lt (t : List It) x).length : Nat)
        rw [put_length, fnd_none hl, hcnt]; simp

/-- 'nodeSet' keeps its word at trees of height h. -/
def NSet (mn L h : Nat) : Prop := ∀ {S : Nat → Prop} {w : World} {s : Sto It} (_ : RepS E S w s) {A : Addr} {n : Nat} (_ : w.cell? A = some (pv (some n))) {t : BT It h} {ids : List Nat} (_ : Tr s.nd s.mp.iso h n t ids) (_ : ids.Nodup) {lo : Nat} (_ : BT.ok mn L lo h t) (_ : Srt lt (BT.all h t)) (_ : s.mp.mx = L) (_ : (BT.all h t).length ≤ 100000000000) (x : It),
  Calls Try.prog 133 #[.pointer (some ⟨s.m, 0, none⟩), .pointer (some A), .agg #[Value.int .i64 x.1]] w (NPost S w s h n ids (insN lt L h t x))

/-- 'nodeSet' where the node below needs no split. -/
theorem nodeSet_easy {mn L h : Nat} (h1 : mn ≤ L / 2) (h2 : mn + 1 + L / 2 ≤ L) (h3 : 0 < L / 2) (hL4 : L ≤ 1000) (IH : NSet mn L h) (R : RepS E S w s) {A : Addr} {n : Nat} (hA : w.cell? A = some (pv (some n))) {t : BT It (h + 1)} {ids : List Nat} (T : Tr s.nd s.mp.iso (h + 1) n t ids) (hd : ids.Nodup) {lo : Nat} (hok : BT.ok mn L lo (h + 1) t) (hs : Srt lt (BT.all (h + 1) t)) (hmx : s.mp.mx = L) (hb : (BT.all (h + 1) t).length ≤ 100000000000) (x : It)
    (hne : look lt t.1 x = none → ∀ c, t.2[pos lt t.1 x]? = some c → insN lt L h c x ≠ .split) :
    Calls Try.prog 133 #[.pointer (some ⟨s.m, 0, none⟩), .pointer (some A), .agg #[Value.int .i64 x.1]] w (NPost S w s (h + 1) n ids (insN lt L (h + 1) t x)) := by
  rw [insN_ne L h t x hne]
  obtain ⟨r, k, ps, idss, hr, a2, a3, a4, a5, a6, a7, a8, a9, a10, a11⟩ := T.kids hd
  have hkl := hok.2.2.1
  have hlt := Tr.below R T
  have hxs : Srt lt t.1 := hs.sublist (weave_sub _ _)
  have hlen : r.items.length ≤ 100000 := by rw [a3]; have := hok.2.1; omega
  have hsr : Srt lt r.items := by rw [a3]; exact hxs
  unfold ins1
  cases hl : look lt t.1 x with
  | some y =>
    refine (nodeSet_found R hA hr a2 hsr hlen (x := x) (y := y) (by rw [a3]; exact hl)).mono ?_
    rintro e w' ⟨rfl, hE, R'⟩
    refine ⟨S, _, hE, R', rfl, rfl, rfl, ids, ⟨_, k, ps, idss, Sto.nd_same _ _ _, a2, ?_, a4, a5, ?_, a7, a8, a9, fun j q d js hq hdj hj => (a10 j q d js hq hdj hj).keep fun z hz => Sto.nd_ne _ _ (fun e => ?_)⟩, hd, fun z hz => .inl hz, fun z hz _ => Sto.nd_ne _ _ (fun e => hz (by rw [e, a9]; simp))⟩
    · show r.items.set (pos lt r.items x) x = t.1.set (pos lt t.1 x) x; rw [a3]
    · show r.count = _
      rw [a6, all_length, all_length]
      show _ = (((t.1.set (pos lt t.1 x) x).length : Nat) : Int) + _
      rw [List.length_set]
    · subst e
      rw [a9] at hd
      exact (List.nodup_cons.1 hd).1 (List.mem_flatten.2 ⟨js, List.mem_of_getElem? hj, hz⟩)
  | none =>
    have hp := pos_le (lt := lt) t.1 x
    obtain ⟨c, hc⟩ : ∃ c, t.2[pos lt t.1 x]? = some c := ⟨t.2[pos lt t.1 x]'(by omega), List.getElem?_eq_getElem _⟩
    obtain ⟨p, hpp⟩ : ∃ p, ps[pos lt t.1 x]? = some p := ⟨ps[pos lt t.1 x]'(by omega), List.getElem?_eq_getElem _⟩
    obtain ⟨js, hj⟩ : ∃ js, idss[pos lt t.1 x]? = some js := ⟨idss[pos lt t.1 x]'(by omega), List.getElem?_eq_getElem _⟩
    obtain ⟨kb, ko, hkb⟩ := R.kb_some hr a4 (by rw [a5]; intro e; have := congrArg List.length e; rw [List.length_map, a7, hkl] at this; exact absurd this (by simp))
    have Tc := a10 _ p c js hpp hc hj
    have hjm : js ∈ idss := List.mem_of_getElem? hj
    have hjd : js.Nodup := by rw [a9] at hd; exact (List.pairwise_flatten.1 (List.nodup_cons.1 hd).2).1 js hjm
    have hnj : n ∉ js := fun hn => by rw [a9] at hd; exact (List.nodup_cons.1 hd).1 (List.mem_flatten.2 ⟨js, hjm, hn⟩)
    have hnw : n < w.heap.size := (R.node hr).1
    have hjw : ∀ z ∈ js, z < w.heap.size := fun z hz => hlt z (by rw [a9]; exact List.mem_cons_of_mem _ (List.mem_flatten.2 ⟨js, hjm, hz⟩))
    have hcm := List.mem_of_getElem? hc
    have hcs : Srt lt (BT.all h c) := by
      refine List.Pairwise.sublist (weave_kid (ls := t.2.map (BT.all h)) hp ?_) hs
      rw [List.getElem?_map, hc]; rfl
    have hcl : (BT.all h c).length ≤ (BT.all (h + 1) t).length := by
      have hsub : (BT.all h c).Sublist (BT.all (h + 1) t) := weave_kid (ls := t.2.map (BT.all h)) hp (by rw [List.getElem?_map, hc]; rfl)
      exact hsub.length_le
    have hkp : k.kids[pos lt r.items x]? = some (some p) := by rw [a3, a5, List.getElem?_map, hpp]; rfl
    have hIR := insN_ok ord h1 h2 h3 h mn c x (hok.2.2.2 c hcm) hcs
    have hcall : ∀ w1, RepS E S w1 s → Ext S w S w1 → w1.cell? ⟨kb, ko + pos lt r.items x, none⟩ = some (pv (some p)) → _ := fun w1 R1 hE1 hA1 => IH R1 hA1 Tc hjd (hok.2.2.2 c hcm) hcs hmx (by omega) x
    simp only [hc]
    have hc0 : 0 ≤ r.count := by rw [a6]; omega
    have hc1 : r.count ≤ 100000000000 := by rw [a6]; omega
    cases e : insN lt L h c x with
    | split => exact absurd e (hne hl c hc)
    | rep c' y =>
      rw [e] at hIR hcall
      refine (nodeSet_down R hA hr a2 hsr hlen a4 hkb hkp (by rw [a3]; exact hl) hc0 hc1 (v := y.2) (rep := true) (D := fun s' => s'.mp = s.mp ∧ NewT w s s' h p c' js) (fun w1 R1 hE1 hA1 => (hcall w1 R1 hE1 hA1).mono ?_)).mono ?_
      · rintro e w' ⟨S', s', hE', R', hm', hmp', rfl, ids', T', hd', hs', ho'⟩
        exact ⟨S', s', rfl, hE', R', hm', (ho' n hnj (Nat.lt_of_lt_of_le hnw hE1.fr.size)).trans hr, hmp', ids', T', hd', fun z hz => (hs' z hz).imp id (Nat.le_trans hE1.fr.size), fun z hz hzw => ho' z hz (Nat.lt_of_lt_of_le hzw hE1.fr.size)⟩
      · rintro e w' ⟨rfl, S', hE', s', R', hm', hn', hmp', ids', T', hd', hs', ho'⟩
        obtain ⟨b1, b2, b3⟩ := Tr.put_kid (cnt := r.count) hr a2 a3 a4 a5 a7 a8 a9 a10 hd hlt hpp hj T' hd' hs' (fun q hq hqw _ => ho' q hq hqw) hn' (by
          have := all_set hp hc (c' := c')
          rw [hIR.2.1, put_length, fnd_some hIR.1] at this
          rw [a6]; simp at this; omega)
        refine ⟨S', s', hE', R', hm', hmp', rfl, _, b1, b2, b3, fun z hz hzw => ho' z (fun hzj => hz ?_) hzw⟩
        rw [a9]; exact List.mem_cons_of_mem _ (List.mem_flatten.2 ⟨js, hjm, hzj⟩)
    | new c' =>
      rw [e] at hIR hcall
      refine (nodeSet_down R hA hr a2 hsr hlen a4 hkb hkp (by rw [a3]; exact hl) hc0 hc1 (v := ()) (rep := false) (D := fun s' => s'.mp = s.mp ∧ NewT w s s' h p c' js) (fun w1 R1 hE1 hA1 => (hcall w1 R1 hE1 hA1).mono ?_)).mono ?_
      · rintro e w' ⟨S', s', hE', R', hm', hmp', rfl, ids', T', hd', hs', ho'⟩
        exact ⟨S', s', rfl, hE', R', hm', (ho' n hnj (Nat.lt_of_lt_of_le hnw hE1.fr.size)).trans hr, hmp', ids', T', hd', fun z hz => (hs' z hz).imp id (Nat.le_trans hE1.fr.size), fun z hz hzw => ho' z hz (Nat.lt_of_lt_of_le hzw hE1.fr.size)⟩
      · rintro e w' ⟨rfl, S', hE', s', R', hm', hn', hmp', ids', T', hd', hs', ho'⟩
        have hni : n ∉ ids' := fun hn => (hs' n hn).elim hnj (fun h => by omega)
        have T2 : Tr (s'.setNd n { r with count := r.count + 1 }).nd s.mp.iso h p c' ids' := T'.keep fun z hz => Sto.nd_ne _ _ (fun e => hni (e ▸ hz))
        obtain ⟨b1, b2, b3⟩ := Tr.put_kid (nd' := (s'.setNd n { r with count := r.count + 1 }).nd) (cnt := r.count + 1) hr a2 a3 a4 a5 a7 a8 a9 a10 hd hlt hpp hj T2 hd' hs' (fun q hq hqw hqn => (Sto.nd_ne _ _ hqn).trans (ho' q hq hqw)) (Sto.nd_same _ _ _) (by
          have := all_set hp hc (c' := c')
          rw [hIR.2.1, put_length, fnd_none hIR.1] at this
          rw [a6]; simp at this; omega)
        refine ⟨S', _, hE', R', hm', hmp', rfl, _, b1, b2, b3, fun z hz hzw => (Sto.nd_ne _ _ (fun e => hz (by rw [e, a9]; simp))).trans (ho' z (fun hzj => hz ?_) hzw)⟩
        rw [a9]; exact List.mem_cons_of_mem _ (List.mem_flatten.2 ⟨js, hjm, hzj⟩)

theorem ret3 {S : Nat → Prop} {w : World} {s : Sto It} {h n : Nat} {ids : List Nat} {res : IR (BT It h) It} {e : Ending} {w' : World} (hp : NPost S w s h n ids res e w') : ∃ v2 v3, e = .returned (.tuple #[.agg #[], v2, v3]) := by
  obtain ⟨_, _, _, _, _, _, hr⟩ := hp
  cases res <;> exact ⟨_, _, hr.1⟩

/-- 'nodeSet' where the node below is split. -/
theorem nodeSet_split {mn L h : Nat} (h1 : mn ≤ L / 2) (h2 : mn + 1 + L / 2 ≤ L) (h3 : 0 < L / 2) (hL3 : 3 ≤ L) (hL4 : L ≤ 1000) (IH : NSet mn L h) (R : RepS E S w s) {A : Addr} {n : Nat} (hA : w.cell? A = some (pv (some n))) {t : BT It (h + 1)} {ids : List Nat} (T : Tr s.nd s.mp.iso (h + 1) n t ids) (hd : ids.Nodup) {lo : Nat} (hok : BT.ok mn L lo (h + 1) t) (hs : Srt lt (BT.all (h + 1) t)) (hmx : s.mp.mx = L) (hb : (BT.all (h + 1) t).length ≤ 100000000000) (x : It)
    (hl : look lt t.1 x = none) {c : BT It h} (hc : t.2[pos lt t.1 x]? = some c) (e : insN lt L h c x = .split) :
    Calls Try.prog 133 #[.pointer (some ⟨s.m, 0, none⟩), .pointer (some A), .agg #[Value.int .i64 x.1]] w (NPost S w s (h + 1) n ids (insN lt L (h + 1) t x)) := by
  obtain ⟨r, k, ps, idss, hr, a2, a3, a4, a5, a6, a7, a8, a9, a10, a11⟩ := T.kids hd
  have hkl := hok.2.2.1
  have hlt := Tr.below R T
  have hxs : Srt lt t.1 := hs.sublist (weave_sub _ _)
  have hlen : r.items.length ≤ 100000 := by rw [a3]; have := hok.2.1; omega
  have hsr : Srt lt r.items := by rw [a3]; exact hxs
  have hp := pos_le (lt := lt) t.1 x
  obtain ⟨p, hpp⟩ : ∃ p, ps[pos lt t.1 x]? = some p := ⟨ps[pos lt t.1 x]'(by omega), List.getElem?_eq_getElem _⟩
  obtain ⟨js, hj⟩ : ∃ js, idss[pos lt t.1 x]? = some js := ⟨idss[pos lt t.1 x]'(by omega), List.getElem?_eq_getElem _⟩
  obtain ⟨kb, ko, hkb⟩ := R.kb_some hr a4 (by rw [a5]; intro e; have := congrArg List.length e; rw [List.length_map, a7, hkl] at this; exact absurd this (by simp))
  have Tc := a10 _ p c js hpp hc hj
  have hjm : js ∈ idss := List.mem_of_getElem? hj
  have hjd : js.Nodup := by rw [a9] at hd; exact (List.pairwise_flatten.1 (List.nodup_cons.1 hd).2).1 js hjm
  have hnj : n ∉ js := fun hn => by rw [a9] at hd; exact (List.nodup_cons.1 hd).1 (List.mem_flatten.2 ⟨js, hjm, hn⟩)
  have hnw : n < w.heap.size := (R.node hr).1
  have hcm := List.mem_of_getElem? hc
  have hcok := hok.2.2.2 c hcm
  have hsub : (BT.all h c).Sublist (BT.all (h + 1) t) := weave_kid (ls := t.2.map (BT.all h)) hp (by rw [List.getElem?_map, hc]; rfl)
  have hcs : Srt lt (BT.all h c) := List.Pairwise.sublist hsub hs
  have hcl := hsub.length_le
  have hkp : k.kids[pos lt r.items x]? = some (some p) := by rw [a3, a5, List.getElem?_map, hpp]; rfl
  have hIR := insN_ok ord h1 h2 h3 h mn c x hcok hcs
  rw [e] at hIR
  have hcall : ∀ w1, RepS E S w1 s → Ext S w S w1 → w1.cell? ⟨kb, ko + pos lt r.items x, none⟩ = some (pv (some p)) → Calls Try.prog 133 #[.pointer (some ⟨s.m, 0, none⟩), .pointer (some ⟨kb, ko + pos lt r.items x, none⟩), .agg #[Value.int .i64 x.1]] w1
      (fun e w' => ∃ S', e = .returned (.tuple #[Value.agg #[], .bool false, .bool true]) ∧ Ext S w1 S' w' ∧ RepS E S' w' s) := fun w1 R1 hE1 hA1 => by
    refine (IH R1 hA1 Tc hjd hcok hcs hmx (by omega) x).mono ?_
    rw [e]
    rintro e w' ⟨S', s', hE', R', _, _, he, rfl⟩
    exact ⟨S', he, hE', R'⟩
  rw [insN, hl]
  simp only [hc, e]
  by_cases hf : t.1.length = L
  · rw [if_pos hf]
    refine (nodeSet_downfull R hA hr a2 hsr hlen a4 hkb hkp (by rw [a3]; exact hl) (by rw [a3, hf, hmx]) hcall).mono ?_
    rintro e w' ⟨rfl, S', hE', R'⟩
    exact ⟨S', s, hE', R', rfl, rfl, rfl, rfl⟩
  · rw [if_neg hf]
    obtain ⟨l, m, rr, es, hlok, hrok, hll, hrl⟩ := splitN_some hcok hIR.2.1 h1 h2
    simp only [es]
    have hall := splitN_all es hcok
    obtain ⟨hok2, hall2⟩ := splat_ok hok hp hc hf hlok hrok hall
    have hs2 : Srt lt (BT.all (h + 1) (splat t (pos lt t.1 x) l m rr)) := by rw [hall2]; exact hs
    have hne2 : look lt (splat t (pos lt t.1 x) l m rr).1 x = none → ∀ d, (splat t (pos lt t.1 x) l m rr).2[pos lt (splat t (pos lt t.1 x) l m rr).1 x]? = some d → insN lt L h d x ≠ .split := fun _ d hd' e' => by
      have hdd := splat_kid (by omega) hd' splat_pos
      have hdm := List.mem_of_getElem? hd'
      have hds : Srt lt (BT.all h d) := by
        refine List.Pairwise.sublist (weave_kid (ls := (splat t (pos lt t.1 x) l m rr).2.map (BT.all h)) (i := pos lt (splat t (pos lt t.1 x) l m rr).1 x) (pos_le _ _) ?_) hs2
        rw [List.getElem?_map, hd']; rfl
      have hi := insN_ok ord h1 h2 h3 h mn d x (hok2.2.2.2 d hdm) hds
      rw [e'] at hi
      have := hi.2.1
      rcases hdd with rfl | rfl <;> omega
    rw [← insN_ne L h _ x hne2]
    refine (nodeSet_room R hA hr a2 hsr hlen a4 hkb hkp (by rw [a3]; exact hl) (by rw [a3, hmx]; have := hok.2.1; omega) (by rw [a6]; omega) (by rw [a6]; omega) (by rw [a5, List.length_map, a7, hkl, a3]) hcall (md := m)
      (D := fun q s' => ∃ il ir, Tr s'.nd s.mp.iso h p l il ∧ Tr s'.nd s.mp.iso h q rr ir ∧ (il ++ ir).Nodup ∧ (∀ z ∈ il ++ ir, z ∈ js ∨ w.heap.size ≤ z) ∧ ∀ z, z ∉ js → z < w.heap.size → s'.nd z = s.nd z)
      (fun S1 w1 R1 hE1 => (split_tr R1 Tc hjd hcok hIR.2.1 hmx hL3 hL4 (by omega) es).mono ?_) (Post := NPost S w s (h + 1) n ids (insN lt L (h + 1) (splat t (pos lt t.1 x) l m rr) x)) ?_).mono (fun _ _ h => h)
    · rintro e w' ⟨q, S', s', il, ir, rfl, hE', R', hm', hmp', T1, T2, hdd, hin, hout⟩
      exact ⟨q, S', s', rfl, hE', R', hm', hmp', (hout n hnj (Nat.lt_of_lt_of_le hnw hE1.fr.size)).trans hr, il, ir, T1, T2, hdd, fun z hz => (hin z hz).imp id (Nat.le_trans hE1.fr.size), fun z hz hzw => hout z hz (Nat.lt_of_lt_of_le hzw hE1.fr.size)⟩
    · rintro q s4 S5 w5 b5 c5 kb5 kc5 ⟨il, ir, T1, T2, hdd, hin, hout⟩ hm4 hmp4 hn4 hE5 hA5 R5
      have hni : n ∉ il ++ ir := fun hn => (hin n hn).elim hnj (fun h => by omega)
      -- the children as three lists
      have ht2 : t.2 = t.2.take (pos lt t.1 x) ++ (c :: t.2.drop (pos lt t.1 x + 1)) := by rw [← List.drop_eq_getElem_cons' hc, List.take_append_drop]
      have hps2 : ps = ps.take (pos lt t.1 x) ++ (p :: ps.drop (pos lt t.1 x + 1)) := by rw [← List.drop_eq_getElem_cons' hpp, List.take_append_drop]
      have hids2 : idss = idss.take (pos lt t.1 x) ++ (js :: idss.drop (pos lt t.1 x + 1)) := by rw [← List.drop_eq_getElem_cons' hj, List.take_append_drop]
      have K : Kids s.nd s.mp.iso h (ps.take (pos lt t.1 x) ++ (p :: ps.drop (pos lt t.1 x + 1))) (t.2.take (pos lt t.1 x) ++ (c :: t.2.drop (pos lt t.1 x + 1))) (idss.take (pos lt t.1 x) ++ (js :: idss.drop (pos lt t.1 x + 1))) := by
        rw [← hps2, ← ht2, ← hids2]; exact ⟨a7, a8, a10⟩
      obtain ⟨KA, KBC⟩ := K.parts (by rw [List.length_take, List.length_take, a7]) (by rw [List.length_take, List.length_take, a8])
      obtain ⟨_, KC⟩ := Kids.parts (ps := [p]) (cs := [c]) (iss := [js]) KBC rfl rfl
      have hs4n : ∀ (r' : NodeR It) z, z ∈ il ++ ir → (s4.setNd n r').nd z = s4.nd z := fun r' z hz => Sto.nd_ne _ _ (fun e => hni (e ▸ hz))
      obtain ⟨b1, b2, b3⟩ := Tr.splice (nd' := (s4.setNd n { r with items := r.items.take (pos lt r.items x) ++ m :: r.items.drop (pos lt r.items x), ib := b5, icap := c5, kids := some { k with base := kb5, cap := kc5, kids := k.kids.take (pos lt r.items x + 1) ++ some q :: k.kids.drop (pos lt r.items x + 1) } }).nd)
        (N := w.heap.size) (iB := [js]) (a9.trans (congrArg (fun z : List (List Nat) => n :: z.flatten) hids2)) KA KC hd hlt
        (Kids.cons (T1.keep fun z hz => hs4n _ z (List.mem_append.2 (.inl hz))) (Kids.cons (T2.keep fun z hz => hs4n _ z (List.mem_append.2 (.inr hz))) Kids.nil))
        (by simpa using hdd) (fun z hz => by simpa using hin z (by simpa using hz)) (fun z hz hzw hzn => (Sto.nd_ne _ _ hzn).trans (hout z (by simpa using hz) hzw)) (Sto.nd_same _ _ _) a2 (xs := t.1.take (pos lt t.1 x) ++ m :: t.1.drop (pos lt t.1 x)) (by show r.items.take _ ++ m :: r.items.drop _ = _; rw [a3]) rfl
        (by
          show k.kids.take (pos lt r.items x + 1) ++ some q :: k.kids.drop (pos lt r.items x + 1) = _
          rw [a5, a3, ← List.map_take, ← List.map_drop, List.take_add_one, hpp]
          simp)
        (by
          show r.count = ((BT.all (h + 1) (splat t (pos lt t.1 x) l m rr)).length : Nat)
          rw [hall2, a6])
      have hres := nodeSet_easy h1 h2 h3 hL4 IH R5 hA5 (t := splat t (pos lt t.1 x) l m rr) (by rw [Sto.mp_setNd, hmp4]; exact b1) b2 hok2 hs2 (by rw [Sto.mp_setNd, hmp4]; exact hmx) (by rw [hall2]; exact hb) x hne2
      rw [Sto.m_setNd, hm4] at hres
      refine hres.mono fun e w' hpo => ?_
      obtain ⟨v2, v3, hv⟩ := ret3 hpo
      refine ⟨v2, v3, hv, ?_⟩
      obtain ⟨S', s', hE', R', hm', hmp', hres'⟩ := hpo
      refine ⟨S', s', hE5.trans hE', R', hm'.trans hm4, hmp'.trans hmp4, ?_⟩
      have hnew : ∀ t', NewT w5 (s4.setNd n { r with items := r.items.take (pos lt r.items x) ++ m :: r.items.drop (pos lt r.items x), ib := b5, icap := c5, kids := some { k with base := kb5, cap := kc5, kids := k.kids.take (pos lt r.items x + 1) ++ some q :: k.kids.drop (pos lt r.items x + 1) } }) s' (h + 1) n t' (n :: (idss.take (pos lt t.1 x) ++ ([il, ir] ++ idss.drop (pos lt t.1 x + 1))).flatten) → NewT w s s' (h + 1) n t' ids := by
        rintro t' ⟨ids', T', hd', hs', ho'⟩
        rw [Sto.mp_setNd, hmp4] at T'
        refine ⟨ids', T', hd', fun z hz => ?_, fun z hz hzw => ?_⟩
        · rcases hs' z hz with h' | h'
          · exact b3 z h'
          · exact .inr (Nat.le_trans hE5.fr.size h')
        · have hz2 : z ∉ n :: (idss.take (pos lt t.1 x) ++ ([il, ir] ++ idss.drop (pos lt t.1 x + 1))).flatten := fun h' => (b3 z h').elim hz (fun h'' => by omega)
          rw [ho' z hz2 (Nat.lt_of_lt_of_le hzw hE5.fr.size), Sto.nd_ne _ _ (fun e => hz2 (by rw [e]; simp))]
          exact hout z (fun hzj => hz (by rw [a9]; exact List.mem_cons_of_mem _ (List.mem_flatten.2 ⟨js, hjm, hzj⟩))) hzw
      have hnosp := (insN_ne L h (splat t (pos lt t.1 x) l m rr) x hne2)
      generalize hgr : insN lt L (h + 1) (splat t (pos lt t.1 x) l m rr) x = res at hres' ⊢
      cases res with
      | split =>
        exfalso
        have hi := insN_ok ord h1 h2 h3 (h + 1) lo (splat t (pos lt t.1 x) l m rr) x hok2 hs2
        exact insN_nosplit hne2 (hok2.2.2.1) hgr
      | rep t' y => exact ⟨hres'.1, hnew t' hres'.2⟩
      | new t' => exact ⟨hres'.1, hnew t' hres'.2⟩

/-- 'nodeSet'. -/
theorem nodeSet_tr {mn L : Nat} (h1 : mn ≤ L / 2) (h2 : mn + 1 + L / 2 ≤ L) (h3 : 0 < L / 2) (hL3 : 3 ≤ L) (hL4 : L ≤ 1000) : ∀ h, NSet mn L h
  | 0 => fun R _ _ hA _ _ T _ _ hok hs hmx _ x => nodeSet_leaf hL4 R hA T hok.2 hs hmx x
  | h + 1 => fun R A n hA t ids T hd lo hok hs hmx hb x => by
    by_cases hne : look lt t.1 x = none → ∀ c, t.2[pos lt t.1 x]? = some c → insN lt L h c x ≠ .split
    · exact nodeSet_easy h1 h2 h3 hL4 (nodeSet_tr h1 h2 h3 hL3 hL4 h) R hA T hd hok hs hmx hb x hne
    · obtain ⟨hl, hne⟩ := Classical.not_imp.1 hne
      obtain ⟨c, hne⟩ := Classical.not_forall.1 hne
      obtain ⟨hc, hne⟩ := Classical.not_imp.1 hne
      exact nodeSet_split h1 h2 h3 hL3 hL4 (nodeSet_tr h1 h2 h3 hL3 hL4 h) R hA T hd hok hs hmx hb x hl hc (Classical.not_not.1 hne)
end
end Go.Proofs.Ytbjhnefienjncaa.Bt.IU
