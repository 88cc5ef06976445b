/- Records of nodes make trees again behind a rebalancing. -/
import Derived.Test.YtbjhnefienjncaaBtRel
import Derived.Test.YtbjhnefienjncaaBtDel
namespace Go.Proofs.Ytbjhnefienjncaa.Bt
set_option linter.unusedVariables false
set_option linter.unusedSimpArgs false

section
variable {I : Type} {nd nd' : Nat → Option (NodeR I)} {iso : Int}

theorem cnts_append {h : Nat} (a b : List (BT I h)) : (cnts (a ++ b)).sum = (cnts a).sum + (cnts b).sum := by
  simp only [cnts, List.map_append, List.sum_append_int]
theorem cnts_cons {h : Nat} (a : BT I h) (b : List (BT I h)) : (cnts (a :: b)).sum = ((BT.all h a).length : Int) + (cnts b).sum := by
  simp only [cnts, List.map_cons, List.sum_cons]

/-- Two neighbours have become one. -/
theorem Tr.join {h l q : Nat} {cl cr : BT I h} {il iq : List Nat} {md : I} {rl rq rl' : NodeR I} (Tl : Tr nd iso h l cl il) (Tq : Tr nd iso h q cr iq) (hd : (il ++ iq).Nodup) (hl : nd l = some rl) (hq : nd q = some rq) (hl' : nd' l = some rl')
    (h1 : rl'.iso = iso) (h2 : rl'.items = rl.items ++ md :: rq.items) (h3 : rl'.count = rl.count + (rq.count + 1)) (h4 : rl.kids = none → rl'.kids = none) (h5 : ∀ kl kq, rl.kids = some kl → rq.kids = some kq → ∃ k', rl'.kids = some k' ∧ k'.kids = kl.kids ++ kq.kids)
    (ho : ∀ x, x ∈ il ++ iq → x ≠ l → x ≠ q → nd' x = nd x) : ∃ il', Tr nd' iso h l (joinN h cl md cr) il' ∧ il'.Nodup ∧ ∀ x ∈ il', x ∈ il ++ iq := by
  cases h with
  | zero =>
    obtain ⟨e1, r1, a1, a2, a3, a4, a5⟩ := Tl
    obtain ⟨e2, r2, b1, b2, b3, b4, b5⟩ := Tq
    rw [hl] at a1; obtain rfl := Option.some.inj a1
    rw [hq] at b1; obtain rfl := Option.some.inj b1
    refine ⟨[l], ⟨rfl, rl', hl', h1, ?_, h4 a4, ?_⟩, by simp, fun x hx => by rw [e1]; exact List.mem_append.2 (.inl hx)⟩
    · rw [h2, a3, b3]; rfl
    · rw [h3, a5, b5]
      show _ = ((List.append (cl : List I) (md :: (cr : List I))).length : Int)
      rw [List.append_eq, List.length_append, List.length_cons]; omega
  | succ h =>
    obtain ⟨r1, k1, ps, iss, a1, a2, a3, a4, a5, a6, a7, a8, a9, a10⟩ := Tl
    obtain ⟨r2, k2, qs, jss, b1, b2, b3, b4, b5, b6, b7, b8, b9, b10⟩ := Tq
    rw [hl] at a1; obtain rfl := Option.some.inj a1
    rw [hq] at b1; obtain rfl := Option.some.inj b1
    obtain ⟨k', e1, e2⟩ := h5 k1 k2 a4 b4
    rw [a9, b9] at hd ho
    have hdl := List.nodup_append.1 hd
    have n1 := List.nodup_cons.1 hdl.1
    have n2 := List.nodup_cons.1 hdl.2.1
    have KA : Kids nd iso h ps cl.2 iss := ⟨a7, a8, a10⟩
    have KB : Kids nd iso h qs cr.2 jss := ⟨b7, b8, b10⟩
    have KA' := KA.keep (nd' := nd') fun x hx => ho x (by simp [hx]) (fun e => n1.1 (e ▸ hx)) (fun e => hdl.2.2 x (by simp [hx]) q (by simp) e)
    have KB' := KB.keep (nd' := nd') fun x hx => ho x (by simp [hx]) (fun e => hdl.2.2 l (by simp) x (by simp [hx]) e.symm) (fun e => n2.1 (e ▸ hx))
    have K := KA'.append KB'
    refine ⟨l :: (iss ++ jss).flatten, ⟨rl', k', ps ++ qs, iss ++ jss, hl', h1, ?_, e1, by rw [e2, a5, b5, List.map_append], ?_, K.1, K.2.1, rfl, K.2.2⟩, ?_, fun x hx => ?_⟩
    · rw [h2, a3, b3]; rfl
    · rw [h3, a6, b6, all_length, all_length, all_length]
      show _ = ((cl.1 ++ md :: cr.1).length : Int) + (cnts (cl.2 ++ cr.2)).sum
      rw [cnts_append, List.length_append, List.length_cons]; omega
    · rw [List.flatten_append]
      refine List.nodup_cons.2 ⟨fun hx => ?_, List.nodup_append.2 ⟨n1.2, n2.2, fun x hx y hy => hdl.2.2 x (by simp [hx]) y (by simp [hy])⟩⟩
      rcases List.mem_append.1 hx with hx | hx
      · exact n1.1 hx
      · exact hdl.2.2 l (by simp) l (by simp [hx]) rfl
    · rw [a9, b9]
      rw [List.flatten_append] at hx
      simp only [List.mem_cons, List.mem_append] at hx ⊢
      rcases hx with hx | hx | hx
      · exact .inl (.inl hx)
      · exact .inl (.inr hx)
      · exact .inr (.inr hx)

theorem concat_of_last {α : Type} {l : List α} {y : α} (h : l.getLast? = some y) : l = l.dropLast ++ [y] := by
  obtain ⟨hn, e⟩ := List.getLast?_eq_some_iff.1 h
  rw [e]; simp
/-- The last item of the left one has gone up, the item between to the right one. -/
theorem Tr.shR {h l q : Nat} {cl cr cl' cr' : BT I h} {il iq : List Nat} {md y : I} {rl rq rl' rq' : NodeR I} (hs : shR h cl md cr = some (cl', y, cr')) (Tl : Tr nd iso h l cl il) (Tq : Tr nd iso h q cr iq) (hd : (il ++ iq).Nodup) (hl : nd l = some rl) (hq : nd q = some rq) (hl' : nd' l = some rl') (hq' : nd' q = some rq')
    (h1 : rl'.iso = iso) (g1 : rq'.iso = iso) (h2 : rl'.items = rl.items.dropLast) (g2 : rq'.items = md :: rq.items) (h4 : rl.kids = none → rl'.kids = none ∧ rq'.kids = none ∧ rl'.count = rl.count - 1 ∧ rq'.count = rq.count + 1)
    (h5 : ∀ kl kq, rl.kids = some kl → rq.kids = some kq → ∃ kl' kq' p rp, rl'.kids = some kl' ∧ rq'.kids = some kq' ∧ kl.kids.getLast? = some (some p) ∧ nd p = some rp ∧ kl'.kids = kl.kids.dropLast ∧ kq'.kids = some p :: kq.kids ∧ rl'.count = rl.count - 1 - rp.count ∧ rq'.count = rq.count + 1 + rp.count)
    (ho : ∀ x, x ∈ il ++ iq → x ≠ l → x ≠ q → nd' x = nd x) : rl.items.getLast? = some y ∧ ∃ il' iq', Tr nd' iso h l cl' il' ∧ Tr nd' iso h q cr' iq' ∧ (il' ++ iq').Nodup ∧ ∀ x ∈ il' ++ iq', x ∈ il ++ iq := by
  cases h with
  | zero =>
    obtain ⟨e1, r1, a1, a2, a3, a4, a5⟩ := Tl
    obtain ⟨e2, r2, b1, b2, b3, b4, b5⟩ := Tq
    rw [hl] at a1; obtain rfl := Option.some.inj a1
    rw [hq] at b1; obtain rfl := Option.some.inj b1
    obtain ⟨c1, c2, c3, c4⟩ := h4 a4
    rw [Go.Proofs.Ytbjhnefienjncaa.Bt.shR] at hs
    cases hy : List.getLast? (cl : List I) with
    | none => rw [hy] at hs; cases hs
    | some y' =>
      rw [hy] at hs
      simp only [Option.some.injEq, Prod.mk.injEq] at hs
      obtain ⟨rfl, rfl, rfl⟩ := hs
      have hne := congrArg List.length (concat_of_last hy)
      rw [List.length_append] at hne
      refine ⟨by rw [a3]; exact hy, [l], [q], ⟨rfl, rl', hl', h1, by rw [h2, a3], c1, ?_⟩, ⟨rfl, rq', hq', g1, by rw [g2, b3], c2, ?_⟩, by rw [e1, e2] at hd; exact hd, fun x hx => by rw [e1, e2]; exact hx⟩
      · rw [c3, a5]; simp only [List.length_singleton] at hne; omega
      · rw [c4, b5]; show _ = ((md :: (cr : List I)).length : Int); rw [List.length_cons]; omega
  | succ h =>
    obtain ⟨r1, k1, ps, iss, a1, a2, a3, a4, a5, a6, a7, a8, a9, a10⟩ := Tl
    obtain ⟨r2, k2, qs, jss, b1, b2, b3, b4, b5, b6, b7, b8, b9, b10⟩ := Tq
    rw [hl] at a1; obtain rfl := Option.some.inj a1
    rw [hq] at b1; obtain rfl := Option.some.inj b1
    obtain ⟨kl', kq', p, rp, c1, c2, c3, c4, c5, c6, c7, c8⟩ := h5 k1 k2 a4 b4
    rw [Go.Proofs.Ytbjhnefienjncaa.Bt.shR] at hs
    cases hy : cl.1.getLast? with
    | none => rw [hy] at hs; simp at hs
    | some y' =>
      cases hk : cl.2.getLast? with
      | none => rw [hy, hk] at hs; simp at hs
      | some c =>
        rw [hy, hk] at hs
        simp only [Option.some.injEq, Prod.mk.injEq] at hs
        obtain ⟨rfl, rfl, rfl⟩ := hs
        have ey := concat_of_last hy
        have ec := concat_of_last hk
        rw [a5] at c3
        obtain ⟨p', hp', e⟩ : ∃ p', ps.getLast? = some p' ∧ p' = p := by
          rw [List.getLast?_map] at c3
          cases hp : ps.getLast? with
          | none => rw [hp] at c3; simp at c3
          | some p' => rw [hp] at c3; simp at c3; exact ⟨p', rfl, c3⟩
        subst e
        have ep := concat_of_last hp'
        have hli : iss ≠ [] := by
          intro e
          rw [e] at a8
          rw [ec, List.length_append] at a8
          simp at a8
        obtain ⟨is, his⟩ : ∃ is, iss.getLast? = some is := by
          cases hc : iss.getLast? with
          | none => exact absurd (List.getLast?_eq_none_iff.1 hc) hli
          | some is => exact ⟨is, rfl⟩
        have ei := concat_of_last his
        have l1 := congrArg List.length ec
        have l2 := congrArg List.length ep
        have l3 := congrArg List.length ei
        have l4 := congrArg List.length ey
        rw [List.length_append, List.length_singleton] at l1 l2 l3 l4
        have KA : Kids nd iso h ps cl.2 iss := ⟨a7, a8, a10⟩
        rw [ep, ec, ei] at KA
        obtain ⟨K1, K2⟩ := KA.parts (by omega) (by omega)
        have KB : Kids nd iso h qs cr.2 jss := ⟨b7, b8, b10⟩
        rw [a9, b9] at hd ho
        have hdl := List.nodup_append.1 hd
        have n1 := List.nodup_cons.1 hdl.1
        have n2 := List.nodup_cons.1 hdl.2.1
        have fi : iss.flatten = iss.dropLast.flatten ++ is := by
          conv => lhs; rw [ei]
          simp
        rw [fi] at n1 hd hdl ho
        have keepA : ∀ x ∈ iss.dropLast.flatten ++ is, nd' x = nd x := fun x hx => ho x (by simp only [List.mem_append, List.mem_cons] at hx ⊢; exact .inl (.inr hx)) (fun e => n1.1 (e ▸ hx)) (fun e => hdl.2.2 x (List.mem_cons_of_mem _ hx) q (by simp) e)
        have keepB : ∀ x ∈ jss.flatten, nd' x = nd x := fun x hx => ho x (by simp only [List.mem_append, List.mem_cons] at hx ⊢; exact .inr (.inr hx)) (fun e => hdl.2.2 l (by simp) x (by simp [hx]) e.symm) (fun e => n2.1 (e ▸ hx))
        have K1' := K1.keep (nd' := nd') fun x hx => keepA x (by simp [hx])
        have K2' := K2.keep (nd' := nd') fun x hx => keepA x (by simpa using Or.inr hx)
        have KB' := KB.keep (nd' := nd') keepB
        have K3 := K2'.append KB'
        obtain ⟨_, rp', hrp, _, _, hcnt, _⟩ := (K2.2.2 0 p' c is rfl rfl rfl).root
        rw [c4] at hrp; obtain rfl := Option.some.inj hrp
        have n1' := List.nodup_append.1 n1.2
        refine ⟨by rw [a3]; exact hy, l :: iss.dropLast.flatten, q :: ([is] ++ jss).flatten, ⟨rl', kl', ps.dropLast, iss.dropLast, hl', h1, by rw [h2, a3], c1, by rw [c5, a5, List.map_dropLast], ?_, K1'.1, K1'.2.1, rfl, K1'.2.2⟩,
          ⟨rq', kq', [p'] ++ qs, [is] ++ jss, hq', g1, by rw [g2, b3], c2, by rw [c6, b5]; rfl, ?_, K3.1, K3.2.1, rfl, K3.2.2⟩, ?_, fun x hx => ?_⟩
        · rw [c7, a6, all_length, all_length, hcnt]
          show _ = ((cl.1.dropLast).length : Int) + (cnts cl.2.dropLast).sum
          have e : (cnts cl.2).sum = (cnts cl.2.dropLast).sum + (BT.all h c).length := by
            conv => lhs; rw [ec]
            rw [cnts_append, cnts_cons]; simp [cnts]
          rw [e]; omega
        · rw [c8, b6, all_length, all_length, hcnt]
          show _ = ((md :: cr.1).length : Int) + (cnts (c :: cr.2)).sum
          rw [cnts_cons, List.length_cons]; omega
        · have ef : ([is] ++ jss).flatten = is ++ jss.flatten := by simp
          rw [ef]
          refine List.nodup_append.2 ⟨List.nodup_cons.2 ⟨fun hx => n1.1 (by simp [hx]), n1'.1⟩, List.nodup_cons.2 ⟨fun hx => ?_, List.nodup_append.2 ⟨n1'.2.1, n2.2, fun x hx y hy => hdl.2.2 x (by simp [hx]) y (by simp [hy])⟩⟩, fun x hx y hy => ?_⟩
          · rcases List.mem_append.1 hx with hx | hx
            · exact hdl.2.2 q (by simp [hx]) q (by simp) rfl
            · exact n2.1 hx
          · rcases List.mem_cons.1 hx with rfl | hx
            · rcases List.mem_cons.1 hy with rfl | hy
              · exact hdl.2.2 _ (by simp) _ (by simp)
              · rcases List.mem_append.1 hy with hy | hy
                · exact fun e => n1.1 (by rw [e]; simp [hy])
                · exact hdl.2.2 x (by simp) y (by simp [hy])
            · rcases List.mem_cons.1 hy with rfl | hy
              · exact hdl.2.2 x (by simp [hx]) y (by simp)
              · rcases List.mem_append.1 hy with hy | hy
                · exact n1'.2.2 x hx y hy
                · exact hdl.2.2 x (by simp [hx]) y (by simp [hy])
        · rw [a9, b9, fi]
          have ef : ([is] ++ jss).flatten = is ++ jss.flatten := by simp
          rw [ef] at hx
          simp only [List.mem_cons, List.mem_append] at hx ⊢
          rcases hx with (hx | hx) | hx | hx | hx
          · exact .inl (.inl hx)
          · exact .inl (.inr (.inl hx))
          · exact .inr (.inl hx)
          · exact .inl (.inr (.inr hx))
          · exact .inr (.inr hx)

theorem cons_of_head {α : Type} {l : List α} {y : α} (h : l.head? = some y) : l = y :: l.tail := by
  cases l with
  | nil => cases h
  | cons a l => simp at h; subst h; rfl
/-- The first item of the right one has gone up, the item between to the left one. -/
theorem Tr.shL {h l q : Nat} {cl cr cl' cr' : BT I h} {il iq : List Nat} {md y : I} {rl rq rl' rq' : NodeR I} (hs : shL h cl md cr = some (cl', y, cr')) (Tl : Tr nd iso h l cl il) (Tq : Tr nd iso h q cr iq) (hd : (il ++ iq).Nodup) (hl : nd l = some rl) (hq : nd q = some rq) (hl' : nd' l = some rl') (hq' : nd' q = some rq')
    (h1 : rl'.iso = iso) (g1 : rq'.iso = iso) (h2 : rl'.items = rl.items ++ [md]) (g2 : rq'.items = rq.items.tail) (h4 : rl.kids = none → rl'.kids = none ∧ rq'.kids = none ∧ rl'.count = rl.count + 1 ∧ rq'.count = rq.count - 1)
    (h5 : ∀ kl kq, rl.kids = some kl → rq.kids = some kq → ∃ kl' kq' p rp, rl'.kids = some kl' ∧ rq'.kids = some kq' ∧ kq.kids.head? = some (some p) ∧ nd p = some rp ∧ kl'.kids = kl.kids ++ [some p] ∧ kq'.kids = kq.kids.tail ∧ rl'.count = rl.count + 1 + rp.count ∧ rq'.count = rq.count - 1 - rp.count)
    (ho : ∀ x, x ∈ il ++ iq → x ≠ l → x ≠ q → nd' x = nd x) : rq.items.head? = some y ∧ ∃ il' iq', Tr nd' iso h l cl' il' ∧ Tr nd' iso h q cr' iq' ∧ (il' ++ iq').Nodup ∧ ∀ x ∈ il' ++ iq', x ∈ il ++ iq := by
  cases h with
  | zero =>
    obtain ⟨e1, r1, a1, a2, a3, a4, a5⟩ := Tl
    obtain ⟨e2, r2, b1, b2, b3, b4, b5⟩ := Tq
    rw [hl] at a1; obtain rfl := Option.some.inj a1
    rw [hq] at b1; obtain rfl := Option.some.inj b1
    obtain ⟨c1, c2, c3, c4⟩ := h4 a4
    rw [Go.Proofs.Ytbjhnefienjncaa.Bt.shL] at hs
    cases hy : List.head? (cr : List I) with
    | none => rw [hy] at hs; cases hs
    | some y' =>
      rw [hy] at hs
      simp only [Option.some.injEq, Prod.mk.injEq] at hs
      obtain ⟨rfl, rfl, rfl⟩ := hs
      have hne := congrArg List.length (cons_of_head hy)
      rw [List.length_cons] at hne
      refine ⟨by rw [b3]; exact hy, [l], [q], ⟨rfl, rl', hl', h1, by rw [h2, a3]; rfl, c1, ?_⟩, ⟨rfl, rq', hq', g1, by rw [g2, b3], c2, ?_⟩, by rw [e1, e2] at hd; exact hd, fun x hx => by rw [e1, e2]; exact hx⟩
      · rw [c3, a5]; show _ = ((List.append (cl : List I) [md]).length : Int); rw [List.append_eq, List.length_append]; simp
      · rw [c4, b5]; omega
  | succ h =>
    obtain ⟨r1, k1, ps, iss, a1, a2, a3, a4, a5, a6, a7, a8, a9, a10⟩ := Tl
    obtain ⟨r2, k2, qs, jss, b1, b2, b3, b4, b5, b6, b7, b8, b9, b10⟩ := Tq
    rw [hl] at a1; obtain rfl := Option.some.inj a1
    rw [hq] at b1; obtain rfl := Option.some.inj b1
    obtain ⟨kl', kq', p, rp, c1, c2, c3, c4, c5, c6, c7, c8⟩ := h5 k1 k2 a4 b4
    rw [Go.Proofs.Ytbjhnefienjncaa.Bt.shL] at hs
    cases hy : cr.1.head? with
    | none => rw [hy] at hs; simp at hs
    | some y' =>
      cases hk : cr.2.head? with
      | none => rw [hy, hk] at hs; simp at hs
      | some c =>
        rw [hy, hk] at hs
        simp only [Option.some.injEq, Prod.mk.injEq] at hs
        obtain ⟨rfl, rfl, rfl⟩ := hs
        have ey := cons_of_head hy
        have ec := cons_of_head hk
        rw [b5] at c3
        obtain ⟨p', hp', e⟩ : ∃ p', qs.head? = some p' ∧ p' = p := by
          rw [List.head?_map] at c3
          cases hp : qs.head? with
          | none => rw [hp] at c3; simp at c3
          | some p' => rw [hp] at c3; simp at c3; exact ⟨p', rfl, c3⟩
        subst e
        have ep := cons_of_head hp'
        obtain ⟨is, his⟩ : ∃ is, jss.head? = some is := by
          cases jss with
          | nil =>
            have l1 := congrArg List.length ec
            rw [List.length_cons] at l1
            simp at b8; omega
          | cons a b => exact ⟨a, rfl⟩
        have ei := cons_of_head his
        have l1 := congrArg List.length ec
        have l4 := congrArg List.length ey
        rw [List.length_cons] at l1 l4
        have KB : Kids nd iso h qs cr.2 jss := ⟨b7, b8, b10⟩
        rw [ep, ec, ei] at KB
        obtain ⟨K1, K2⟩ := Kids.parts (ps := [p']) (cs := [c]) (iss := [is]) KB rfl rfl
        have KA : Kids nd iso h ps cl.2 iss := ⟨a7, a8, a10⟩
        rw [a9, b9] at hd ho
        have hdl := List.nodup_append.1 hd
        have n1 := List.nodup_cons.1 hdl.1
        have n2 := List.nodup_cons.1 hdl.2.1
        have fi : jss.flatten = is ++ jss.tail.flatten := by
          conv => lhs; rw [ei]
          simp
        rw [fi] at n2 hd hdl ho
        have keepB : ∀ x ∈ is ++ jss.tail.flatten, nd' x = nd x := fun x hx => ho x (by simp only [List.mem_append, List.mem_cons] at hx ⊢; exact .inr (.inr hx)) (fun e => hdl.2.2 l (by simp) x (List.mem_cons_of_mem _ hx) e.symm) (fun e => n2.1 (e ▸ hx))
        have keepA : ∀ x ∈ iss.flatten, nd' x = nd x := fun x hx => ho x (by simp only [List.mem_append, List.mem_cons] at hx ⊢; exact .inl (.inr hx)) (fun e => n1.1 (e ▸ hx)) (fun e => hdl.2.2 x (by simp [hx]) q (by simp) e)
        have K1' := K1.keep (nd' := nd') fun x hx => keepB x (by simpa using Or.inl (by simpa using hx))
        have K2' := K2.keep (nd' := nd') fun x hx => keepB x (List.mem_append.2 (.inr hx))
        have KA' := KA.keep (nd' := nd') keepA
        have K3 := KA'.append K1'
        obtain ⟨_, rp', hrp, _, _, hcnt, _⟩ := (K1.2.2 0 p' c is rfl rfl rfl).root
        rw [c4] at hrp; obtain rfl := Option.some.inj hrp
        have n2' := List.nodup_append.1 n2.2
        refine ⟨by rw [b3]; exact hy, l :: (iss ++ [is]).flatten, q :: jss.tail.flatten, ⟨rl', kl', ps ++ [p'], iss ++ [is], hl', h1, by rw [h2, a3], c1, by rw [c5, a5, List.map_append]; rfl, ?_, K3.1, K3.2.1, rfl, K3.2.2⟩,
          ⟨rq', kq', qs.tail, jss.tail, hq', g1, by rw [g2, b3], c2, by rw [c6, b5, List.map_tail], ?_, K2'.1, K2'.2.1, rfl, K2'.2.2⟩, ?_, fun x hx => ?_⟩
        · rw [c7, a6, all_length, all_length, hcnt]
          show _ = ((cl.1 ++ [md]).length : Int) + (cnts (cl.2 ++ [c])).sum
          rw [cnts_append, cnts_cons, List.length_append]; simp [cnts]; omega
        · rw [c8, b6, all_length, all_length, hcnt]
          show _ = ((cr.1.tail).length : Int) + (cnts cr.2.tail).sum
          have e : (cnts cr.2).sum = ((BT.all h c).length : Int) + (cnts cr.2.tail).sum := by
            conv => lhs; rw [ec]
            rw [cnts_cons]
          rw [e]; omega
        · have ef : (iss ++ [is]).flatten = iss.flatten ++ is := by simp
          rw [ef]
          refine List.nodup_append.2 ⟨List.nodup_cons.2 ⟨fun hx => ?_, List.nodup_append.2 ⟨n1.2, n2'.1, fun x hx y hy => hdl.2.2 x (by simp [hx]) y (by simp [hy])⟩⟩, List.nodup_cons.2 ⟨fun hx => n2.1 (by simp [hx]), n2'.2.1⟩, fun x hx y hy => ?_⟩
          · rcases List.mem_append.1 hx with hx | hx
            · exact n1.1 hx
            · exact hdl.2.2 l (by simp) l (by simp [hx]) rfl
          · rcases List.mem_cons.1 hx with rfl | hx
            · rcases List.mem_cons.1 hy with rfl | hy
              · exact hdl.2.2 _ (by simp) _ (by simp)
              · exact hdl.2.2 x (by simp) y (by simp [hy])
            · rcases List.mem_append.1 hx with hx | hx
              · rcases List.mem_cons.1 hy with rfl | hy
                · exact hdl.2.2 x (by simp [hx]) y (by simp)
                · exact hdl.2.2 x (by simp [hx]) y (by simp [hy])
              · rcases List.mem_cons.1 hy with rfl | hy
                · exact fun e => n2.1 (by rw [← e]; simp [hx])
                · exact n2'.2.2 x hx y hy
        · rw [a9, b9, fi]
          have ef : (iss ++ [is]).flatten = iss.flatten ++ is := by simp
          rw [ef] at hx
          simp only [List.mem_cons, List.mem_append] at hx ⊢
          rcases hx with (hx | hx | hx) | hx | hx
          · exact .inl (.inl hx)
          · exact .inl (.inr hx)
          · exact .inr (.inr (.inl hx))
          · exact .inr (.inl hx)
          · exact .inr (.inr (.inr hx))

/-! ### the parent of two neighbours -/
theorem Kids.at2 {h : Nat} {ps : List Nat} {cs : List (BT I h)} {iss : List (List Nat)} (K : Kids nd iso h ps cs iss) {j l q : Nat} {cl cr : BT I h} {il iq : List Nat} (hl : ps[j]? = some l) (hq : ps[j + 1]? = some q) (h1 : cs[j]? = some cl) (h2 : cs[j + 1]? = some cr) (h3 : iss[j]? = some il) (h4 : iss[j + 1]? = some iq) :
    Kids nd iso h (ps.take j) (cs.take j) (iss.take j) ∧ Kids nd iso h (ps.drop (j + 2)) (cs.drop (j + 2)) (iss.drop (j + 2)) ∧ iss = iss.take j ++ ([il, iq] ++ iss.drop (j + 2)) := by
  have e1 := two_split hl hq
  have e2 := two_split h1 h2
  have e3 := two_split h3 h4
  have l1 := (List.getElem?_eq_some_iff.1 hq).1
  have l2 := (List.getElem?_eq_some_iff.1 h2).1
  have l3 := (List.getElem?_eq_some_iff.1 h4).1
  have t1 : (ps.take j).length = (cs.take j).length := by rw [List.length_take, List.length_take]; omega
  have t2 : (iss.take j).length = (cs.take j).length := by rw [List.length_take, List.length_take]; omega
  have K' : Kids nd iso h (ps.take j ++ ([l, q] ++ ps.drop (j + 2))) (cs.take j ++ ([cl, cr] ++ cs.drop (j + 2))) (iss.take j ++ ([il, iq] ++ iss.drop (j + 2))) := by
    have a : ps.take j ++ ([l, q] ++ ps.drop (j + 2)) = ps := e1.symm
    have b : cs.take j ++ ([cl, cr] ++ cs.drop (j + 2)) = cs := e2.symm
    have c : iss.take j ++ ([il, iq] ++ iss.drop (j + 2)) = iss := e3.symm
    rw [a, b, c]; exact K
  obtain ⟨KA, KR⟩ := K'.parts t1 t2
  obtain ⟨_, KC⟩ := KR.parts rfl rfl
  exact ⟨KA, KC, e3⟩

/-- Two neighbours have become two others. -/
theorem Tr.two {h n N j l q : Nat} {t : BT I (h + 1)} {ids : List Nat} {ps : List Nat} {iss : List (List Nat)} {cl cr cl' cr' : BT I h} {il iq il' iq' : List Nat} {xs : List I} {r' : NodeR I} {k' : KidR}
    (K : Kids nd iso h ps t.2 iss) (h9 : ids = n :: iss.flatten) (hnd : ids.Nodup) (hlt : ∀ k ∈ ids, k < N) (hl : ps[j]? = some l) (hq : ps[j + 1]? = some q) (h1 : t.2[j]? = some cl) (h2 : t.2[j + 1]? = some cr) (h3 : iss[j]? = some il) (h4 : iss[j + 1]? = some iq)
    (Tl : Tr nd' iso h l cl' il') (Tq : Tr nd' iso h q cr' iq') (hd : (il' ++ iq').Nodup) (hs : ∀ x ∈ il' ++ iq', x ∈ il ++ iq) (ho : ∀ x, x ∉ il ++ iq → x < N → x ≠ n → nd' x = nd x)
    (hn : nd' n = some r') (e2 : r'.iso = iso) (e3 : r'.items = xs) (e4 : r'.kids = some k') (e5 : k'.kids = ps.map some) (hcnt : r'.count = ((BT.all (h + 1) ((xs, t.2.take j ++ cl' :: cr' :: t.2.drop (j + 2)) : BT I (h + 1))).length : Nat)) :
    ∃ ids', Tr nd' iso (h + 1) n ((xs, t.2.take j ++ cl' :: cr' :: t.2.drop (j + 2)) : BT I (h + 1)) ids' ∧ ids'.Nodup ∧ ∀ x ∈ ids', x ∈ ids ∨ N ≤ x := by
  obtain ⟨KA, KC, e⟩ := K.at2 hl hq h1 h2 h3 h4
  have hps := two_split hl hq
  have hf : [il, iq].flatten = il ++ iq := by simp
  have hf' : [il', iq'].flatten = il' ++ iq' := by simp
  obtain ⟨b1, b2, b3⟩ := Tr.splice (N := N) (pB' := [l, q]) (cB' := [cl', cr']) (iB := [il, iq]) (iB' := [il', iq']) (r' := r') (k' := k') (xs := xs) (by rw [h9]; conv => lhs; rw [e]) KA KC hnd hlt (Kids.cons Tl (Kids.cons Tq Kids.nil)) (by rw [hf']; exact hd) (fun x hx => .inl (by rw [hf]; rw [hf'] at hx; exact hs x hx))
    (fun x hx => ho x (by rw [hf] at hx; exact hx)) hn e2 e3 e4 (by rw [e5]; exact congrArg (List.map some) hps) hcnt
  exact ⟨_, b1, b2, b3⟩
/-- Two neighbours have become one. -/
theorem Tr.one {h n N j l q : Nat} {t : BT I (h + 1)} {ids : List Nat} {ps : List Nat} {iss : List (List Nat)} {cl cr cl' : BT I h} {il iq il' : List Nat} {xs : List I} {r' : NodeR I} {k' : KidR}
    (K : Kids nd iso h ps t.2 iss) (h9 : ids = n :: iss.flatten) (hnd : ids.Nodup) (hlt : ∀ k ∈ ids, k < N) (hl : ps[j]? = some l) (hq : ps[j + 1]? = some q) (h1 : t.2[j]? = some cl) (h2 : t.2[j + 1]? = some cr) (h3 : iss[j]? = some il) (h4 : iss[j + 1]? = some iq)
    (Tl : Tr nd' iso h l cl' il') (hd : il'.Nodup) (hs : ∀ x ∈ il', x ∈ il ++ iq) (ho : ∀ x, x ∉ il ++ iq → x < N → x ≠ n → nd' x = nd x)
    (hn : nd' n = some r') (e2 : r'.iso = iso) (e3 : r'.items = xs) (e4 : r'.kids = some k') (e5 : k'.kids = (ps.map some).take (j + 1) ++ (ps.map some).drop (j + 2)) (hcnt : r'.count = ((BT.all (h + 1) ((xs, t.2.take j ++ cl' :: t.2.drop (j + 2)) : BT I (h + 1))).length : Nat)) :
    ∃ ids', Tr nd' iso (h + 1) n ((xs, t.2.take j ++ cl' :: t.2.drop (j + 2)) : BT I (h + 1)) ids' ∧ ids'.Nodup ∧ ∀ x ∈ ids', x ∈ ids ∨ N ≤ x := by
  obtain ⟨KA, KC, e⟩ := K.at2 hl hq h1 h2 h3 h4
  have hf : [il, iq].flatten = il ++ iq := by simp
  have hf' : [il'].flatten = il' := by simp
  have hl1 := (List.getElem?_eq_some_iff.1 hl).1
  obtain ⟨b1, b2, b3⟩ := Tr.splice (N := N) (pB' := [l]) (cB' := [cl']) (iB := [il, iq]) (iB' := [il']) (r' := r') (k' := k') (xs := xs) (by rw [h9]; conv => lhs; rw [e]) KA KC hnd hlt (Kids.cons Tl Kids.nil) (by rw [hf']; exact hd) (fun x hx => .inl (by rw [hf]; rw [hf'] at hx; exact hs x hx))
    (fun x hx => ho x (by rw [hf] at hx; exact hx)) hn e2 e3 e4 (by
      rw [e5, ← List.map_take, ← List.map_drop, ← List.map_append, List.take_add_one, hl]
      simp) hcnt
  exact ⟨_, b1, b2, b3⟩
end
end Go.Proofs.Ytbjhnefienjncaa.Bt
