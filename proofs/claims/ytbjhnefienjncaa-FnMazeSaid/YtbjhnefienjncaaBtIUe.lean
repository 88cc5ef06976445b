/- Maps of numbers (sets): an item is set. -/
import Derived.Test.YtbjhnefienjncaaBtIUd
namespace Go.Proofs.Ytbjhnefienjncaa.Bt.IU
set_option linter.unusedVariables false
set_option linter.unusedSimpArgs false
open Go Go.RowKit Go.Proofs.Ytbjhnefienjncaa.Bt

variable {S : Nat → Prop} {w : World} {s : Sto It}

theorem infoP : (Try.prog.info? 120).map (fun i => (i.zero, i.size, i.bytes)) = some (some (.agg #[Value.int .i64 0]), 1, 8) := by kernel_rfl
theorem infoK : (Try.prog.info? 118).map (fun i => (i.zero, i.size, i.bytes)) = some (some (.pointer none), 1, 8) := by kernel_rfl

/-- 'nodeSplit', said of trees. -/
theorem split_tr (R : RepS E S w s) {h n : Nat} {t : BT It h} {ids : List Nat} (T : Tr s.nd s.mp.iso h n t ids) (hd : ids.Nodup) {mn lo L : Nat} (hok : BT.ok mn L lo h t) (hlen : (BT.its t).length = L) (hmx : s.mp.mx = L) (hL3 : 3 ≤ L) (hL4 : L ≤ 1000) (hb : (BT.all h t).length ≤ 100000000000)
    {l rr : BT It h} {m : It} (hs : splitN (L / 2) h t = some (l, m, rr)) :
    Calls Try.prog 134 #[.pointer (some ⟨s.m, 0, none⟩), .pointer (some ⟨n, 0, none⟩)] w (fun e w' => ∃ q S' s' il ir, e = .returned (.tuple #[.pointer (some ⟨q, 0, none⟩), .agg #[Value.int .i64 m.1]]) ∧ Ext S w S' w' ∧ RepS E S' w' s' ∧ s'.m = s.m ∧ s'.mp = s.mp ∧
      Tr s'.nd s.mp.iso h n l il ∧ Tr s'.nd s.mp.iso h q rr ir ∧ (il ++ ir).Nodup ∧ (∀ x ∈ il ++ ir, x ∈ ids ∨ w.heap.size ≤ x) ∧ (∀ x, x ∉ ids → x < w.heap.size → s'.nd x = s.nd x)) := by
  have hltN : ∀ k ∈ ids, k < w.heap.size := fun k hk => by
    obtain ⟨r, hr, _⟩ := T.mem k hk
    exact (R.node hr).1
  cases h with
  | zero =>
    obtain ⟨hn0, r, hr, hiso, hits, hcnt, hk⟩ := T.root
    rw [splitN_zero] at hs
    cases hm : (t : List It)[L / 2]? with
    | none => rw [hm] at hs; cases hs
    | some m' =>
      rw [hm] at hs
      simp only [Option.map_some, Option.some.injEq, Prod.mk.injEq] at hs
      obtain ⟨rfl, rfl, rfl⟩ := hs
      have hits' : r.items = (t : List It) := hits
      have hlen' : (t : List It).length = L := hlen
      obtain ⟨b, o, hib⟩ := R.ib_some hr (by rw [hits']; intro e; rw [e] at hlen'; simp at hlen'; omega)
      refine (split_leaf R hr (hk.2 rfl) hib (by rw [hits']; exact hlen') hmx hL3 (by omega) (by rw [hits']; exact hm)).mono ?_
      rintro e w' ⟨q, S', rfl, hq, hqS, hE, R'⟩
      have hqn : n ≠ q := fun e => hqS (by rw [← e]; exact R.inS_node hr)
      have h1 : ((s.setNd n { r with items := r.items.take (L / 2), icap := L / 2, count := (L / 2 : Nat) }).setNd q ⟨s.mp.iso, ((L - 1 - L / 2 : Nat) : Int), r.items.drop (L / 2 + 1), some (b, o + (L / 2 + 1)), r.icap - (L / 2 + 1), none⟩).nd n = some ⟨r.iso, (L / 2 : Nat), r.items.take (L / 2), r.ib, L / 2, r.kids⟩ := by
        rw [Sto.nd_ne _ _ hqn, Sto.nd_same]
      have h2 : ((s.setNd n { r with items := r.items.take (L / 2), icap := L / 2, count := (L / 2 : Nat) }).setNd q ⟨s.mp.iso, ((L - 1 - L / 2 : Nat) : Int), r.items.drop (L / 2 + 1), some (b, o + (L / 2 + 1)), r.icap - (L / 2 + 1), none⟩).nd q = some ⟨s.mp.iso, (((t : List It).length - 1 - L / 2 : Nat) : Int), r.items.drop (L / 2 + 1), some (b, o + (L / 2 + 1)), r.icap - (L / 2 + 1), none⟩ := by
        rw [Sto.nd_same, hlen']
      have hTT := Tr.split_leaf T hr hm h1 h2
      refine ⟨q, S', _, [n], [q], rfl, hE, R', rfl, rfl, hTT.1, hTT.2, by simp [hqn], fun x hx => ?_, fun x hx hxs => ?_⟩
      · rcases List.mem_cons.1 (by simpa using hx : x ∈ [n, q]) with rfl | hx
        · exact .inl hn0
        · obtain rfl : x = q := by simpa using hx
          exact .inr hq
      · rw [Sto.nd_ne _ _ (fun e => by omega), Sto.nd_ne _ _ (fun e => hx (by rw [e]; exact hn0))]
  | succ h =>
    obtain ⟨r, k, ps, idss, hr, a2, a3, a4, a5, a6, a7, a8, a9, a10, a11⟩ := T.kids hd
    rw [splitN_succ] at hs
    cases hm : t.1[L / 2]? with
    | none => rw [hm] at hs; cases hs
    | some m' =>
      rw [hm] at hs
      simp only [Option.map_some, Option.some.injEq, Prod.mk.injEq] at hs
      obtain ⟨rfl, rfl, rfl⟩ := hs
      have hlen' : t.1.length = L := hlen
      have hkl := hok.2.2.1
      obtain ⟨b, o, hib⟩ := R.ib_some hr (by rw [a3]; intro e; rw [e] at hlen'; simp at hlen'; omega)
      have hps : ps.length = L + 1 := by rw [a7, hkl, hlen']
      obtain ⟨kb, ko, hkb⟩ := R.kb_some hr a4 (by rw [a5]; intro e; have := congrArg List.length e; rw [List.length_map, hps] at this; exact absurd this (by simp))
      have hall : ((BT.all (h + 1) t).length : Int) ≤ 100000000000 := Int.ofNat_le.2 hb
      rw [all_length, hlen'] at hall
      refine (split_inner R hr a4 hib hkb a5 (cs := cnts t.2) (by rw [a3]; exact hlen') hps (by rw [a7, cnts, List.length_map]) a11 (cnts_nonneg t.2) (Int.le_trans hall (by decide)) hmx hL3 (by omega) (by rw [a3]; exact hm)).mono ?_
      rintro e w' ⟨q, qh, S', rfl, hq, hqS, hE, R'⟩
      have hqn : n ≠ q := fun e => hqS (by rw [← e]; exact R.inS_node hr)
      have hn0 : n ∈ ids := by rw [a9]; simp
      have hTT := Tr.split_inner (nd' := ((s.setNd n { r with items := r.items.take (L / 2), icap := L / 2, count := ((L / 2 : Nat) : Int) + ((cnts t.2).take (L / 2 + 1)).sum, kids := some { k with cap := L / 2 + 1, kids := (ps.take (L / 2 + 1)).map some } }).setNd q
        ⟨s.mp.iso, ((L - 1 - L / 2 : Nat) : Int) + ((cnts t.2).drop (L / 2 + 1)).sum, r.items.drop (L / 2 + 1), some (b, o + (L / 2 + 1)), r.icap - (L / 2 + 1), some ⟨qh, some (kb, ko + (L / 2 + 1)), k.cap - (L / 2 + 1), (ps.drop (L / 2 + 1)).map some⟩⟩).nd) (q := q) (N := w.heap.size)
        a2 a3 a7 a8 a9 a10 hd hltN hq hm hkl (by rw [Sto.nd_ne _ _ hqn, Sto.nd_same]) (by rw [Sto.nd_same, hlen']) rfl (fun x h1 h2 => by rw [Sto.nd_ne _ _ h2, Sto.nd_ne _ _ h1])
      refine ⟨q, S', _, _, _, rfl, hE, R', rfl, rfl, hTT.1, hTT.2.1, hTT.2.2.1, fun x hx => ?_, fun x hx hxs => ?_⟩
      · rcases hTT.2.2.2 x hx with h | h
        · exact .inl h
        · exact .inr (by omega)
      · rw [Sto.nd_ne _ _ (fun e => by omega), Sto.nd_ne _ _ (fun e => hx (by rw [e]; exact hn0))]
end Go.Proofs.Ytbjhnefienjncaa.Bt.IU
