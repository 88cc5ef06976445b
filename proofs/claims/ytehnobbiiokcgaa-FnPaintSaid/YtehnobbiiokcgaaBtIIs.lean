/- Maps from numbers to numbers: nodeScan with a function value of the caller's. -/
import Derived.Test.YtehnobbiiokcgaaBtIIp
import Derived.Shelf.Abstract
namespace Go.Proofs.Ytehnobbiiokcgaa.Bt.II
set_option linter.unusedVariables false
set_option linter.unusedSimpArgs false
open Go Go.RowKit Go.Proofs.Ytehnobbiiokcgaa.Bt

/-- What a function value is handed until it says stop, and whether it has not. -/
def visit (go : List It → Bool) : List It → List It → List It × Bool
  | xs, [] => (xs, true)
  | xs, y :: l => if go (xs ++ [y]) then visit go (xs ++ [y]) l else (xs ++ [y], false)
theorem visit_append (go : List It → Bool) : ∀ (l m xs : List It), visit go xs (l ++ m) = if (visit go xs l).2 then visit go (visit go xs l).1 m else visit go xs l
  | [], m, xs => by simp [visit]
  | y :: l, m, xs => by
    simp only [List.cons_append, visit]
    split
    · exact visit_append go l m (xs ++ [y])
    · simp
theorem visit_true (go : List It → Bool) : ∀ (l xs : List It), (visit go xs l).2 = true → visit go xs l = (xs ++ l, true)
  | [], xs, _ => by simp [visit]
  | y :: l, xs, h => by
    simp only [visit] at h ⊢
    split at h
    · rename_i hg
      rw [if_pos hg, visit_true go l (xs ++ [y]) h]; simp
    · cases h
/-- One item more. -/
theorem visit_snoc {go : List It → Bool} {l xs : List It} {y : It} (h : visit go xs l = (xs ++ l, true)) : visit go xs (l ++ [y]) = (xs ++ l ++ [y], go (xs ++ l ++ [y])) := by
  rw [visit_append, h]
  simp only [if_true, visit]
  cases go (xs ++ l ++ [y]) <;> simp
theorem visit_stop {go : List It → Bool} {l m xs : List It} (h : (visit go xs l).2 = false) : visit go xs (l ++ m) = visit go xs l := by
  rw [visit_append, h]; simp
theorem visit_on {go : List It → Bool} {l m xs : List It} (h : visit go xs l = (xs ++ l, true)) : visit go xs (l ++ m) = visit go (xs ++ l) m := by
  rw [visit_append, h]; simp

/-- A function value that keeps Q: what it was handed so far; G: how the memory goes on; go: it wants more. -/
structure Fn (S : Nat → Prop) (s : Sto It) (f : Nat) (lb : Array Value) (G : World → World → Prop) (Q : List It → World → Prop) (go : List It → Bool) (M : Nat) : Prop where
  eg : ∀ args w, (callFunc f args).run Try.prog w = .ok (.enter f args) w
  refl : ∀ w, G w w
  trans : ∀ a b c, G a b → G b c → G a c
  drew : ∀ w w', G w w' → G w w'.drew
  keep : ∀ w w', RepS E S w s → G w w' → RepS E S w' s
  qdrew : ∀ xs w, Q xs w → Q xs w.drew
  call : ∀ xs y w, Q xs w → RepS E S w s → xs.length < M → Calls Try.prog f (#[Value.int .i64 y.1, Value.int .i64 y.2] ++ lb) w (fun e w' => e = .returned (.bool (go (xs ++ [y]))) ∧ Q (xs ++ [y]) w' ∧ G w w')

section
variable {S : Nat → Prop} {w : World} {s : Sto It} {f : Nat} {lb : Array Value} {G : World → World → Prop} {Q : List It → World → Prop} {go : List It → Bool} {M : Nat}
theorem Fn.drewN (F : Fn S s f lb G Q go M) {w w' : World} (h : G w w') : ∀ k, G w (w'.drewN k)
  | 0 => h
  | k + 1 => F.drew _ _ (F.drewN h k)
theorem Fn.qdrewN (F : Fn S s f lb G Q go M) {w : World} {xs : List It} (h : Q xs w) : ∀ k, Q xs (w.drewN k)
  | 0 => h
  | k + 1 => F.qdrew _ _ (F.qdrewN h k)
end

/-- What a scan of the items l leaves, where xs were handed on before. -/
def ScPost (G : World → World → Prop) (Q : List It → World → Prop) (go : List It → Bool) (w : World) (xs l : List It) (e : Ending) (w' : World) : Prop :=
  e = .returned (.bool (visit go xs l).2) ∧ Q (visit go xs l).1 w' ∧ G w w'

section
variable {S : Nat → Prop} {s : Sto It} {f : Nat} {lb : Array Value} {G : World → World → Prop} {Q : List It → World → Prop} {go : List It → Bool} {M : Nat} {w : World}

set_option maxHeartbeats 2000000 in
set_option maxRecDepth 100000 in
/-- 'nodeScan' of a leaf. -/
theorem scan_leaf (F : Fn S s f lb G Q go M) (R : RepS E S w s) {A : Addr} {n : Nat} {r : NodeR It} (hA : w.cell? A = some (pv (some n))) (hn : s.nd n = some r) (hi : r.iso = s.mp.iso) (hk : r.kids = none) {xs : List It} (hQ : Q xs w) (hlen : xs.length + r.items.length ≤ M) (hl9 : r.items.length ≤ 100000) :
    Calls Try.prog 118 #[.pointer (some ⟨s.m, 0, none⟩), .pointer (some A), .func (.func f) #[] lb, .bool false] w (ScPost G Q go w xs r.items) := by
  have HISO := hidp (isoLoad_own R hA hn hi false)
  have HR := hidp R
  have HN := hidp hn
  have HF := hidp F
  have HQ0 := hidp hQ
  have HK := hidp hk
  have eg := F.eg
  clear R hn hQ hk hA hi F
  go_enter Try.func118, Try.ntmps118
  go_wp2_with fail
  refine HISO.out.mono ?_
  rintro e w' ⟨rfl, a1, rfl⟩
  have n3 : (w.drewN a1).cell? ⟨n, 3, none⟩ = some (pv none) := by rw [(ncell (HR.out.drewN a1) HN.out).2.2.2.2, HK.out]; rfl
  have HB0 : Hid (Q xs (w.drewN a1) ∧ G w (w.drewN a1)) := hidp ⟨HF.out.qdrewN HQ0.out a1, HF.out.drewN (HF.out.refl w) a1⟩
  clear HQ0 HISO
  go_wp2_with fail
  refine (leaf_raw n3).mono ?_
  rintro e w' ⟨rfl, rfl⟩
  clear n3
  generalize w.drewN a1 = wb at HB0 ⊢
  go_wp2
  go_loopw [10] (fun i wr => ∃ j : Nat, j ≤ r.items.length ∧ i = .int .i64 j ∧ Hid (visit go xs (r.items.take j) = (xs ++ r.items.take j, true) ∧ Q (xs ++ r.items.take j) wr ∧ G w wr)) (fun i _ => r.items.length - (intOf i).toNat)
  case atStart => exact ⟨0, Nat.zero_le _, rfl, hidp ⟨by simp [visit], by simpa using HB0.out.1, HB0.out.2⟩⟩
  case round =>
    obtain ⟨j, hj, rfl, HL⟩ := hrel
    have HR1 := hidp (HF.out.keep _ _ HR.out HL.out.2.2)
    obtain ⟨ba, n2⟩ : ∃ ba, wr.cell? ⟨n, 2, none⟩ = some (.slice ba r.items.length r.icap) := ⟨_, (ncell HR1.out HN.out).2.2.2.1⟩
    by_cases hlt : j < r.items.length
    · obtain ⟨b, o, hb⟩ := HR1.out.ib_some HN.out (fun e => by rw [e] at hlt; simp at hlt)
      obtain ⟨y, hy⟩ : ∃ y, r.items[j]? = some y := ⟨r.items[j], List.getElem?_eq_getElem hlt⟩
      have cy := (icell HR1.out HN.out hb hy).2
      have cv := (icell HR1.out HN.out hb hy).1
      have n2' : wr.cell? ⟨n, 2, none⟩ = some (.slice (some ⟨b, o, none⟩) r.items.length r.icap) := by rw [(ncell HR1.out HN.out).2.2.2.1, hb]; rfl
      have etk : r.items.take (j + 1) = r.items.take j ++ [y] := by rw [List.take_add_one, hy]; rfl
      have hdr : r.items.drop j = y :: r.items.drop (j + 1) := by
        rw [List.drop_eq_getElem_cons hlt]
        congr 1
        exact (List.getElem?_eq_some_iff.1 hy).2
      have hsn := visit_snoc (y := y) HL.out.1
      have HTK := hidp (And.intro etk (And.intro hdr hsn))
      have jlt : (j : Int) < (r.items.length : Int) := by omega
      have hl1 : (xs ++ r.items.take j).length < M := by rw [List.length_append, List.length_take]; omega
      have hc := HF.out.call (xs ++ r.items.take j) y wr.drew (HF.out.qdrew _ _ HL.out.2.1) HR1.out.drew hl1
      have HFA : Hid (∀ w2, G wr.drew w2 → w2.cell? ⟨n, 2, none⟩ = some (.slice (some ⟨b, o, none⟩) r.items.length r.icap) ∧ w2.cell? ⟨b, o + j * 2, none⟩ = some (Value.int .i64 y.2) ∧ w2.cell? ⟨b, o + j * 2 + 1, none⟩ = some (Value.int .i64 y.1)) := hidp fun w2 hb2 => by
        have R2 := HF.out.keep _ _ HR1.out.drew hb2
        exact ⟨by rw [(ncell R2 HN.out).2.2.2.1, hb]; rfl, (icell R2 HN.out hb hy).1, (icell R2 HN.out hb hy).2⟩
      clear hb hy n2 hl1 HR1 etk hdr hsn
      cases hgo : go (xs ++ r.items.take j ++ [y]) with
      | true =>
        rw [hgo] at hc
        have HC := hidp hc
        clear hc
        go_wp2_with fail
        go_region_held3 (fun w' => w'.cell? ⟨n, 2, none⟩ = some (.slice (some ⟨b, o, none⟩) r.items.length r.icap) ∧ w'.cell? ⟨b, o + j * 2, none⟩ = some (Value.int .i64 y.2) ∧ w'.cell? ⟨b, o + j * 2 + 1, none⟩ = some (Value.int .i64 y.1)) (go_keep)
          ((go_at_fn f
            refine HC.out.mono ?_
            rintro e w2 ⟨rfl, hQ2, hG2⟩
            have HX := hidp (And.intro hQ2 (HF.out.trans _ _ _ HL.out.2.2 (HF.out.trans _ _ _ (HF.out.drew _ _ (HF.out.refl wr)) hG2)))
            obtain ⟨k1, k2, k3⟩ := HFA.out w2 hG2
            clear hQ2 hG2))
        go_wp2
        go_roundw
        case rel => exact ⟨j + 1, by omega, by go_num, hidp ⟨by rw [HTK.out.1, HTK.out.2.2, hgo, List.append_assoc], by rw [HTK.out.1, ← List.append_assoc]; exact HX.out.1, HX.out.2⟩⟩
        case measure => simp [intOf]; omega
      | false =>
        rw [hgo] at hc
        have HC := hidp hc
        clear hc
        go_wp2_with fail
        go_region_held3 (fun w' => w'.cell? ⟨n, 2, none⟩ = some (.slice (some ⟨b, o, none⟩) r.items.length r.icap) ∧ w'.cell? ⟨b, o + j * 2, none⟩ = some (Value.int .i64 y.2) ∧ w'.cell? ⟨b, o + j * 2 + 1, none⟩ = some (Value.int .i64 y.1)) (go_keep)
          ((go_at_fn f
            refine HC.out.mono ?_
            rintro e w2 ⟨rfl, hQ2, hG2⟩
            have HX := hidp (And.intro hQ2 (HF.out.trans _ _ _ HL.out.2.2 (HF.out.trans _ _ _ (HF.out.drew _ _ (HF.out.refl wr)) hG2)))
            obtain ⟨k1, k2, k3⟩ := HFA.out w2 hG2
            clear hQ2 hG2))
        go_wp2
        go_ret
        have hst : visit go xs r.items = (xs ++ r.items.take j ++ [y], false) := by
          have h1 : (visit go xs (r.items.take j ++ [y])).2 = false := by rw [HTK.out.2.2, hgo]
          have h2 : r.items = (r.items.take j ++ [y]) ++ r.items.drop (j + 1) := by
            have h3 := List.take_append_drop j r.items
            rw [HTK.out.2.1] at h3
            simpa using h3.symm
          exact (congrArg (visit go xs) h2).trans ((visit_stop h1).trans (by rw [HTK.out.2.2, hgo]))
        exact ⟨by rw [hst]; try rfl, by rw [hst]; exact HX.out.1, HX.out.2⟩
    · obtain rfl : j = r.items.length := by omega
      have HF2 := hidp HL.out
      clear HL HR1
      go_wp2
      go_ret
      obtain ⟨g1, g2, g3⟩ := HF2.out
      rw [List.take_length] at g1 g2
      exact ⟨by rw [g1]; try rfl, by rw [g1]; exact g2, g3⟩
end

section
variable {S : Nat → Prop} {s : Sto It} {f : Nat} {lb : Array Value} {G : World → World → Prop} {Q : List It → World → Prop} {go : List It → Bool} {M : Nat}

def ScIH (S : Nat → Prop) (s : Sto It) (f : Nat) (lb : Array Value) (G : World → World → Prop) (Q : List It → World → Prop) (go : List It → Bool) (M : Nat) (h : Nat) : Prop :=
  ∀ {w : World} (_ : RepS E S w s) {A : Addr} {n : Nat} {t : BT It h} {ids : List Nat} (_ : w.cell? A = some (pv (some n))) (_ : Tr s.nd s.mp.iso h n t ids) {mn mx lo : Nat} (_ : BT.ok mn mx lo h t) (_ : mx ≤ 100000) {xs : List It} (_ : Q xs w) (_ : xs.length + (BT.all h t).length ≤ M),
    Calls Try.prog 118 #[.pointer (some ⟨s.m, 0, none⟩), .pointer (some A), .func (.func f) #[] lb, .bool false] w (ScPost G Q go w xs (BT.all h t))

set_option maxHeartbeats 4000000 in
set_option maxRecDepth 100000 in
/-- 'nodeScan' of a node with children. -/
theorem scan_inner (F : Fn S s f lb G Q go M) {h : Nat} (IH : ScIH S s f lb G Q go M h) : ScIH S s f lb G Q go M (h + 1) := by
  intro w R A n t ids hA T mn mx lo hok hmx xs hQ0 hlen
  obtain ⟨r, k, ps, idss, hn, a2, a3, a4, a5, a6, a7, a8, a9, a10⟩ := T
  have hkl2 := hok.2.2.1
  have hhi : t.1.length ≤ mx := hok.2.1
  have hri : r.items.length = t.1.length := by rw [a3]
  have hkk : k.kids.length = t.2.length := by rw [a5, List.length_map, a7]
  obtain ⟨kb, ko, hkb⟩ := R.kb_some hn a4 (by intro e; rw [e] at hkk; simp at hkk; omega)
  have HISO := hidp (isoLoad_own R hA hn a2 false)
  have HR := hidp R
  have HN := hidp hn
  have HF := hidp F
  have HQ0 := hidp hQ0
  have HK := hidp a4
  have HKB := hidp hkb
  have HP : Hid (∀ j, j ≤ t.1.length → ∃ p c is, k.kids[j]? = some (some p) ∧ t.2[j]? = some c ∧ (t.2.map (BT.all h))[j]? = some (BT.all h c) ∧ Tr s.nd s.mp.iso h p c is ∧ BT.ok mn mx mn h c) := hidp fun j hj => by
    obtain ⟨p, hp⟩ : ∃ p, ps[j]? = some p := ⟨ps[j]'(by omega), List.getElem?_eq_getElem _⟩
    obtain ⟨c, hc⟩ : ∃ c, t.2[j]? = some c := ⟨t.2[j]'(by omega), List.getElem?_eq_getElem _⟩
    obtain ⟨is, his⟩ : ∃ is, idss[j]? = some is := ⟨idss[j]'(by omega), List.getElem?_eq_getElem _⟩
    exact ⟨p, c, is, by rw [a5, List.getElem?_map, hp]; rfl, hc, by rw [List.getElem?_map, hc]; rfl, a10 j p c is hp hc his, hok.2.2.2 c (List.mem_of_getElem? hc)⟩
  have HA := hidp a3
  have HLEN : Hid (xs.length + (weave t.1 (t.2.map (BT.all h))).length ≤ M) := hidp hlen
  have hkc : k.kids.length = t.1.length + 1 := by rw [hkk, hkl2]
  have HW : Hid (∀ j c, j ≤ t.1.length → (t.2.map (BT.all h))[j]? = some (BT.all h c) → weave t.1 (t.2.map (BT.all h)) = wpre j t.1 (t.2.map (BT.all h)) ++ (BT.all h c ++ wpost (t.1.drop j) ((t.2.map (BT.all h)).drop (j + 1)))) := hidp fun j c hj hL => weave_at j _ _ _ hj hL
  have HEND : Hid (∀ c, t.2[t.1.length]? = some c → weave t.1 (t.2.map (BT.all h)) = wpre t.1.length t.1 (t.2.map (BT.all h)) ++ BT.all h c) := hidp fun c hc => weave_end (by rw [List.length_map]; exact hkl2) (by rw [List.getElem?_map, hc]; rfl)
  have htl : t.1.length ≤ 100000 := by omega
  have eg := F.eg
  clear R hn hQ0 a2 a3 a4 a5 a6 a7 a8 a9 a10 hkb hok hlen hkk hkl2 hA F hhi
  show Calls _ _ _ w (ScPost G Q go w xs (weave t.1 (t.2.map (BT.all h))))
  have HKC := hidp hkc
  have HRI := hidp hri
  clear hkc hri
  go_enter Try.func118, Try.ntmps118
  go_wp2_with fail
  refine HISO.out.mono ?_
  rintro e w' ⟨rfl, a1, rfl⟩
  have n3 : (w.drewN a1).cell? ⟨n, 3, none⟩ = some (pv (some k.hdr)) := by rw [(ncell (HR.out.drewN a1) HN.out).2.2.2.2, HK.out]; rfl
  have HB0 : Hid (Q xs (w.drewN a1) ∧ G w (w.drewN a1)) := hidp ⟨HF.out.qdrewN HQ0.out a1, HF.out.drewN (HF.out.refl w) a1⟩
  clear HQ0 HISO
  go_wp2_with fail
  refine (leaf_raw n3).mono ?_
  rintro e w' ⟨rfl, rfl⟩
  clear n3
  generalize w.drewN a1 = wb at HB0 ⊢
  go_wp2
  go_loopw [11] (fun i wr => ∃ j : Nat, j ≤ t.1.length ∧ i = .int .i64 j ∧ Hid (visit go xs (wpre j t.1 (t.2.map (BT.all h))) = (xs ++ wpre j t.1 (t.2.map (BT.all h)), true) ∧ Q (xs ++ wpre j t.1 (t.2.map (BT.all h))) wr ∧ G w wr)) (fun i _ => t.1.length - (intOf i).toNat)
  case atStart => exact ⟨0, Nat.zero_le _, rfl, hidp ⟨by simp [wpre, visit], by simpa [wpre] using HB0.out.1, HB0.out.2⟩⟩
  case round =>
    obtain ⟨j, hj, rfl, HL⟩ := hrel
    have HR1 := hidp (HF.out.keep _ _ HR.out HL.out.2.2)
    obtain ⟨p, c, is, hp, hc, hL, Tc, hcok⟩ := HP.out j hj
    have hwl := wpre_length_le hj hL
    have hll : (xs ++ wpre j t.1 (t.2.map (BT.all h))).length = xs.length + (wpre j t.1 (t.2.map (BT.all h))).length := by simp
    have hxl := HLEN.out
    have c0 : wr.cell? ⟨kb, ko + j, none⟩ = some (.pointer (some ⟨p, 0, none⟩)) := M_cell (HR1.out.kid HN.out HK.out HKB.out hp)
    have n3 : wr.cell? ⟨n, 3, none⟩ = some (.pointer (some ⟨k.hdr, 0, none⟩)) := by rw [(ncell HR1.out HN.out).2.2.2.2, HK.out]; rfl
    have h0 : wr.cell? ⟨k.hdr, 0, none⟩ = some (.slice (some ⟨kb, ko, none⟩) (t.1.length + 1) k.cap) := by
      have := (HR1.out.hdr HN.out HK.out).cell 0 rfl
      rw [HKB.out, HKC.out] at this; exact this
    obtain ⟨ba, n2⟩ : ∃ ba, wr.cell? ⟨n, 2, none⟩ = some (.slice ba t.1.length r.icap) := ⟨r.ib.map fun p => ⟨p.1, p.2, none⟩, by rw [(ncell HR1.out HN.out).2.2.2.1, HRI.out]; rfl⟩
    have hWj := HW.out j c hj hL
    by_cases hlt : j < t.1.length
    · have hch := IH HR1.out (A := ⟨kb, ko + j, none⟩) c0 Tc hcok hmx HL.out.2.1 (by rw [hll]; omega)
      unfold ScPost at hch
      obtain ⟨y, hy⟩ : ∃ y, t.1[j]? = some y := ⟨t.1[j], List.getElem?_eq_getElem hlt⟩
      have hst := wpre_step j t.1 (t.2.map (BT.all h)) y _ hy hL
      have jlt : (j : Int) < (t.1.length : Int) := by omega
      have jlt2 : (j : Int) < ((t.1.length + 1 : Nat) : Int) := by omega
      cases hv : (visit go (xs ++ wpre j t.1 (t.2.map (BT.all h))) (BT.all h c)).2 with
      | false =>
        rw [hv] at hch
        have HCH := hidp hch
        have HV : Hid (visit go xs (weave t.1 (t.2.map (BT.all h))) = ((visit go (xs ++ wpre j t.1 (t.2.map (BT.all h))) (BT.all h c)).1, false)) := hidp (by
          rw [hWj, visit_on HL.out.1, visit_stop hv, ← hv])
        clear hp hc hL Tc hcok hwl hll hxl hst hy hch hWj hv
        go_wp2_with fail
        refine HCH.out.mono ?_
        rintro e w2 ⟨rfl, hQ2, hG2⟩
        have HX := hidp (And.intro hQ2 (HF.out.trans _ _ _ HL.out.2.2 hG2))
        clear hQ2 hG2 HCH n3 h0 c0 n2
        go_wp2
        go_ret
        exact ⟨by rw [HV.out]; try rfl, by rw [HV.out]; exact HX.out.1, HX.out.2⟩
      | true =>
        have hvt := visit_true go _ _ hv
        rw [hvt] at hch
        have HCH := hidp hch
        have hon : visit go xs (wpre j t.1 (t.2.map (BT.all h)) ++ BT.all h c) = (xs ++ (wpre j t.1 (t.2.map (BT.all h)) ++ BT.all h c), true) := by
          rw [visit_on HL.out.1, hvt, List.append_assoc]
        have hsn := visit_snoc (y := y) hon
        have hl2 : (xs ++ (wpre j t.1 (t.2.map (BT.all h)) ++ BT.all h c)).length < M := by
          have hlw : (wpre (j + 1) t.1 (t.2.map (BT.all h))).length ≤ (weave t.1 (t.2.map (BT.all h))).length := by
            obtain ⟨p', c', is', hp', hc', hL', _⟩ := HP.out (j + 1) (by omega)
            have := wpre_length_le (show j + 1 ≤ t.1.length by omega) hL'
            omega
          rw [hst] at hlw
          simp only [List.length_append, List.length_cons] at hlw ⊢
          omega
        have hst' : wpre (j + 1) t.1 (t.2.map (BT.all h)) = (wpre j t.1 (t.2.map (BT.all h)) ++ BT.all h c) ++ [y] := by rw [hst]; simp
        have HST := hidp (And.intro hst' hsn)
        have HY : Hid (r.items[j]? = some y) := hidp (by rw [HA.out]; exact hy)
        have hz : 0 < r.items.length := by have := HRI.out; omega
        obtain ⟨b, o, hb⟩ := HR1.out.ib_some HN.out (fun e => by rw [e] at hz; simp at hz)
        have HBB := hidp hb
        have hpost : weave t.1 (t.2.map (BT.all h)) = (wpre j t.1 (t.2.map (BT.all h)) ++ BT.all h c ++ [y]) ++ weave (t.1.drop (j + 1)) ((t.2.map (BT.all h)).drop (j + 1)) := by
          have h2 : t.1.drop j = y :: t.1.drop (j + 1) := by
            rw [List.drop_eq_getElem_cons hlt]
            congr 1
            exact (List.getElem?_eq_some_iff.1 hy).2
          rw [hWj, h2]; simp [wpost]
        have HPO := hidp hpost
        rw [List.append_assoc] at HCH
        clear hp hc hL Tc hcok hwl hll hxl hst hst' hy hb hz hch hvt hon hsn hWj hv hpost
        generalize hgk : wpre j t.1 (t.2.map (BT.all h)) ++ BT.all h c = zk at *
        clear hgk
        go_wp2_with fail
        refine HCH.out.mono ?_
        rintro e w2 ⟨rfl, hQ2, hG2⟩
        have HX2 := hidp (And.intro hQ2 (HF.out.trans _ _ _ HL.out.2.2 hG2))
        have HR2 := hidp (HF.out.keep _ _ HR.out HX2.out.2)
        have cv := (icell HR2.out HN.out HBB.out HY.out).1
        have cy := (icell HR2.out HN.out HBB.out HY.out).2
        have n2' : w2.cell? ⟨n, 2, none⟩ = some (.slice (some ⟨b, o, none⟩) t.1.length r.icap) := by rw [(ncell HR2.out HN.out).2.2.2.1, HBB.out, HRI.out]; rfl
        have hcy := HF.out.call (xs ++ zk) y w2.drew (HF.out.qdrew _ _ HX2.out.1) HR2.out.drew hl2
        have HFA : Hid (∀ w3, G w2.drew w3 → w3.cell? ⟨n, 2, none⟩ = some (.slice (some ⟨b, o, none⟩) t.1.length r.icap) ∧ w3.cell? ⟨b, o + j * 2, none⟩ = some (Value.int .i64 y.2) ∧ w3.cell? ⟨b, o + j * 2 + 1, none⟩ = some (Value.int .i64 y.1)) := hidp fun w3 hb2 => by
          have R2 := HF.out.keep _ _ HR2.out.drew hb2
          exact ⟨by rw [(ncell R2 HN.out).2.2.2.1, HBB.out, HRI.out]; rfl, (icell R2 HN.out HBB.out HY.out).1, (icell R2 HN.out HBB.out HY.out).2⟩
        clear hQ2 hG2 n3 h0 c0 n2 HCH HL HR1
        cases hgo : go (xs ++ zk ++ [y]) with
        | true =>
          rw [hgo] at hcy
          have HC := hidp hcy
          clear hcy
          go_wp2_with fail
          go_region_held3 (fun w' => w'.cell? ⟨n, 2, none⟩ = some (.slice (some ⟨b, o, none⟩) t.1.length r.icap) ∧ w'.cell? ⟨b, o + j * 2, none⟩ = some (Value.int .i64 y.2) ∧ w'.cell? ⟨b, o + j * 2 + 1, none⟩ = some (Value.int .i64 y.1)) (go_keep)
            ((go_at_fn f
              refine HC.out.mono ?_
              rintro e w3 ⟨rfl, hQ3, hG3⟩
              have HX := hidp (And.intro hQ3 (HF.out.trans _ _ _ HX2.out.2 (HF.out.trans _ _ _ (HF.out.drew _ _ (HF.out.refl w2)) hG3)))
              obtain ⟨k1, k2, k3⟩ := HFA.out w3 hG3
              clear hQ3 hG3))
          go_wp2
          go_roundw
          case rel => exact ⟨j + 1, by omega, by go_num, hidp ⟨by rw [HST.out.1, HST.out.2, hgo]; simp, by rw [HST.out.1, ← List.append_assoc]; exact HX.out.1, HX.out.2⟩⟩
          case measure => simp [intOf]; omega
        | false =>
          rw [hgo] at hcy
          have HC := hidp hcy
          clear hcy
          go_wp2_with fail
          go_region_held3 (fun w' => w'.cell? ⟨n, 2, none⟩ = some (.slice (some ⟨b, o, none⟩) t.1.length r.icap) ∧ w'.cell? ⟨b, o + j * 2, none⟩ = some (Value.int .i64 y.2) ∧ w'.cell? ⟨b, o + j * 2 + 1, none⟩ = some (Value.int .i64 y.1)) (go_keep)
            ((go_at_fn f
              refine HC.out.mono ?_
              rintro e w3 ⟨rfl, hQ3, hG3⟩
              have HX := hidp (And.intro hQ3 (HF.out.trans _ _ _ HX2.out.2 (HF.out.trans _ _ _ (HF.out.drew _ _ (HF.out.refl w2)) hG3)))
              obtain ⟨k1, k2, k3⟩ := HFA.out w3 hG3
              clear hQ3 hG3))
          go_wp2
          go_ret
          have hst : visit go xs (weave t.1 (t.2.map (BT.all h))) = (xs ++ zk ++ [y], false) := by
            have h1 : (visit go xs (zk ++ [y])).2 = false := by rw [HST.out.2, hgo]
            exact (congrArg (visit go xs) HPO.out).trans ((visit_stop h1).trans (by rw [HST.out.2, hgo]))
          exact ⟨by rw [hst]; try rfl, by rw [hst]; exact HX.out.1, HX.out.2⟩
    · obtain rfl : j = t.1.length := by omega
      have HE := hidp (HEND.out c hc)
      have HCD := hidp (IH HR1.out.drew (A := ⟨kb, ko + t.1.length, none⟩) c0 Tc hcok hmx (HF.out.qdrew _ _ HL.out.2.1) (by rw [hll]; omega))
      clear hp hc hL Tc hcok hwl hll hxl hWj
      obtain ⟨N, hN⟩ : ∃ N, N = t.1.length + 1 := ⟨_, rfl⟩
      rw [← hN] at h0
      have hN1 : (t.1.length : Int) < (N : Int) := by omega
      have hw1 : IntKind.i64.wrap ((N : Int) - 1) = (t.1.length : Int) := by rw [Last.i64_w, IntWalk.wrap64_in _ ⟨by omega, by omega⟩]; omega
      have HFA : Hid (∀ w2, G wr.drew w2 → w2.cell? ⟨n, 3, none⟩ = some (.pointer (some ⟨k.hdr, 0, none⟩)) ∧ w2.cell? ⟨k.hdr, 0, none⟩ = some (.slice (some ⟨kb, ko, none⟩) N k.cap)) := hidp fun w2 hb => by
        have R2 := HF.out.keep _ _ HR1.out.drew hb
        refine ⟨by rw [(ncell R2 HN.out).2.2.2.2, HK.out]; rfl, ?_⟩
        have := (R2.hdr HN.out HK.out).cell 0 rfl
        rw [HKB.out, HKC.out, ← hN] at this; exact this
      clear hN
      go_wp2_with fail
      go_region_held3 (fun w' => w'.cell? ⟨n, 3, none⟩ = some (.pointer (some ⟨k.hdr, 0, none⟩)) ∧ w'.cell? ⟨k.hdr, 0, none⟩ = some (.slice (some ⟨kb, ko, none⟩) N k.cap)) (go_keep)
        ((go_at_call 118
          refine (HCD.out).mono ?_
          rintro e w2 ⟨rfl, hQ2, hG2⟩
          have HC2 := hidp (And.intro hQ2 (HF.out.trans _ _ _ HL.out.2.2 (HF.out.trans _ _ _ (HF.out.drew _ _ (HF.out.refl wr)) hG2)))
          obtain ⟨k1, k2⟩ := HFA.out w2 hG2
          clear hQ2 hG2))
      go_wp2
      go_ret
      have hv : visit go xs (weave t.1 (t.2.map (BT.all h))) = visit go (xs ++ wpre t.1.length t.1 (t.2.map (BT.all h))) (BT.all h c) := by rw [HE.out, visit_on HL.out.1]
      exact ⟨by rw [hv]; try rfl, by rw [hv]; exact HC2.out.1, HC2.out.2⟩

/-- 'nodeScan' -/
theorem scan_tr (F : Fn S s f lb G Q go M) : ∀ h, ScIH S s f lb G Q go M h
  | 0 => fun R _ _ _ _ hA T _ _ _ hok hmx _ hQ hlen => by
    obtain ⟨_, r, h1, h2, h3, h4, _⟩ := T
    subst h3
    exact scan_leaf F R hA h1 h2 h4 hQ hlen (Nat.le_trans hok.2 hmx)
  | h + 1 => scan_inner F (scan_tr F h)
end
end Go.Proofs.Ytehnobbiiokcgaa.Bt.II
