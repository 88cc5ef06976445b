/- Maps of numbers (sets): all keys. -/
import Derived.Test.YtbjhnefienjncaaBtIUo
import Derived.Test.YtbjhnefienjncaaBtIUn
namespace Go.Proofs.Ytbjhnefienjncaa.Bt.IU
set_option linter.unusedVariables false
set_option linter.unusedSimpArgs false
open Go Go.RowKit Go.Proofs.Ytbjhnefienjncaa.Bt

variable {S : Nat → Prop} {w : World} {s : Sto It}

/-- 'Len' -/
theorem len_is (R : RepS E S w s) : Calls Try.prog 100 #[.pointer (some ⟨s.m, 0, none⟩)] w (fun e w' => e = .returned (.int .i64 s.mp.count) ∧ w = w') := by
  obtain ⟨hmlt, _, _, _, m3, _⟩ := mcell R
  clear R
  go_enter Try.func100, Try.ntmps100
  go_wp2
  go_ret
  exact ⟨rfl, rfl⟩

set_option maxHeartbeats 1000000 in
set_option maxRecDepth 100000 in
/-- 'Keys' -/
theorem keys_is {D : Nat} {l : List It} (m : MapIs D S w s l) (hb : l.length ≤ 1000000000000) : Calls Try.prog 65 #[.pointer (some ⟨s.m, 0, none⟩)] w (KeysPost w.heap.size w (kv l)) := by
  have R := m.rep
  have hlen := len_is R
  rw [m.cnt] at hlen
  have HLE := hidp hlen
  have HM := hidp m
  obtain ⟨hmlt, _⟩ := mcell R
  obtain ⟨i0, hi0, hz0, hz1, hz2⟩ := info_parts infoKey
  have HI0 := hidp hi0
  have HZ0 := hidp hz0
  have HZ1 := hidp hz1
  have HZ2 := hidp hz2
  clear hlen m R hi0 hz0 hz1 hz2
  have m2 := (mcell HM.out.rep).2.2.2.1
  rcases HM.out.tree with ⟨hr, hl⟩ | ⟨h, n, t, ids, hr, T, hd, hok, hl⟩
  · have m2' : w.cell? ⟨s.m, 2, none⟩ = some (.pointer none) := by rw [m2, hr]; rfl
    have HL := hidp hl
    clear m2 hr hl
    go_enter Try.func65, Try.ntmps65
    go_wp2_with fail
    refine HLE.out.mono ?_
    rintro e w' ⟨rfl, rfl⟩
    go_wp2_with (at_make; refine wpList_make_own _ rfl _ _ 23 rfl w.heap.size 3 i0 _ 1 Try.underlying23 HI0.out HZ0.out HZ1.out .i64 .i64 _ l.length rfl rfl rfl (by rw [HZ2.out]; omega) (by unfold maxLen; omega) (Nat.le_refl _) ?_; intro w1 hown hgrow; have hbl : Below w.heap.size w w1 := (Below.refl _ _).grown hgrow (Nat.le_refl _) (fun k hk => by cases hk); have m2w := (hbl.cell (p := ⟨s.m, 2, none⟩) hmlt).trans m2'; have HG := hidp (And.intro hown hbl); clear hown hgrow hbl)
    go_ret
    have hkv : kv l = [] := by rw [HL.out]; rfl
    rw [hkv]
    exact ⟨_, rfl, HG.out.1, HG.out.2⟩
  · have m2' : w.cell? ⟨s.m, 2, none⟩ = some (.pointer (some ⟨n, 0, none⟩)) := by rw [m2, hr]; rfl
    have HL := hidp hl
    have HT := hidp (And.intro T hok)
    clear m2 hr hl T hd hok
    go_enter Try.func65, Try.ntmps65
    go_wp2_with fail
    refine HLE.out.mono ?_
    rintro e w' ⟨rfl, rfl⟩
    go_wp2_with (at_make; refine wpList_make_own _ rfl _ _ 23 rfl w.heap.size 3 i0 _ 1 Try.underlying23 HI0.out HZ0.out HZ1.out .i64 .i64 _ l.length rfl rfl rfl (by rw [HZ2.out]; omega) (by unfold maxLen; omega) (Nat.le_refl _) ?_; intro w1 hown hgrow; have hbl : Below w.heap.size w w1 := (Below.refl _ _).grown hgrow (Nat.le_refl _) (fun k hk => by cases hk); have m2w := (hbl.cell (p := ⟨s.m, 2, none⟩) hmlt).trans m2'; have HG := hidp (And.intro hown hbl); clear hown hgrow hbl)
    have m1 := HM.out.rep.below HG.out.2 HM.out.rep.rep.lt
    refine (keys_tr h m1 HM.out.rep.rep.lt HG.out.2.size HT.out.1 HT.out.2 (v := .slice (some ⟨w.heap.size, 0, none⟩) 0 l.length) (xs := []) HG.out.1 (by rw [← HL.out]; simpa using hb)).mono ?_
    rintro e w2 ⟨v2, rfl, hown2, hbl2⟩
    have HF := hidp (And.intro hown2 (HG.out.2.trans hbl2))
    clear hown2 hbl2 m1
    go_wp2
    go_ret
    rw [HL.out]
    exact ⟨v2, rfl, HF.out.1, HF.out.2⟩

/-- 'Keys' of a set -/
theorem set_keys {D : Nat} {l : List It} (m : MapIs D S w s l) (hb : l.length ≤ 1000000000000) : Calls Try.prog 34 #[.pointer (some ⟨s.m, 0, none⟩)] w (KeysPost w.heap.size w (kv l)) := by
  have HC := hidp (keys_is m hb)
  clear m
  go_enter Try.func34, Try.ntmps34
  go_wp2_with fail
  refine HC.out.mono ?_
  rintro e w2 ⟨v2, rfl, hown2, hbl2⟩
  have HF := hidp (And.intro hown2 hbl2)
  clear hown2 hbl2
  go_wp2
  go_ret
  exact ⟨v2, rfl, HF.out.1, HF.out.2⟩
/-- 'Insert' of a set -/
theorem set_insert {D : Nat} (hD : 2 ≤ D) (hD2 : D ≤ 400) {l : List It} (m : MapIs D S w s l) (hb : l.length ≤ 100000000000) (x : It) :
    Calls Try.prog 63 #[.pointer (some ⟨s.m, 0, none⟩), Value.int .i64 x.1] w (fun e w' => ∃ S' s', e = .returned (.tuple #[]) ∧ Ext S w S' w' ∧ MapIs D S' w' s' (put lt l x) ∧ s'.m = s.m) := by
  have HC := hidp (set_is hD hD2 m hb x)
  clear m
  go_enter Try.func63, Try.ntmps63
  go_wp2_with fail
  refine HC.out.mono ?_
  intro e w2 hp
  obtain ⟨v, b, rfl⟩ := hp.form
  obtain ⟨S', s', _, hE, hM, hm, _⟩ := hp
  have HF := hidp (And.intro hE (And.intro hM hm))
  clear hE hM hm
  go_wp2
  go_end0
  exact ⟨S', s', rfl, HF.out.1, HF.out.2.1, HF.out.2.2⟩
end Go.Proofs.Ytbjhnefienjncaa.Bt.IU
