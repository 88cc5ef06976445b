/- Sets of strings: TAscend, whole. -/
import Derived.Test.YtceildcbehaoaaaBtTl
namespace Go.Proofs.Ytceildcbehaoaaa.Bt.T
set_option linter.unusedVariables false
set_option linter.unusedSimpArgs false
open Go Go.RowKit Go.Proofs.Ytceildcbehaoaaa.Bt Go.Proofs.Ytceildcbehaoaaa.Bt.SU

variable {w : World}

/-- 'taker' -/
theorem taker_is {bo : Nat} :
    Calls Try.prog 57 #[.pointer (some ⟨bo, 0, none⟩), .int .i64 0] w (fun e w' => e = .returned (.func (.func 82) #[] #[.pointer (some ⟨w.heap.size, 0, none⟩), .pointer (some ⟨w.heap.size + 1, 0, none⟩)]) ∧
      Bx w' w.heap.size [.pointer (some ⟨bo, 0, none⟩)] ∧ Bx w' (w.heap.size + 1) [.int .i64 0] ∧ Fr (fun _ => False) w w') := by
  go_enter Try.func57, Try.ntmps57
  go_wp2
  go_ret
  refine ⟨rfl, (Bx.new w [.pointer (some ⟨bo, 0, none⟩)] _).alloc _, ?_, ((Fr.refl (fun _ => False) w).alloc _).alloc _⟩
  have h := Bx.new (w.alloc (.cells #[.pointer (some ⟨bo, 0, none⟩)] 79)) [.int .i64 0] 3
  rw [World.size_alloc] at h; exact h

set_option maxHeartbeats 1000000 in
set_option maxRecDepth 100000 in
/-- 'TAscend' from x on, without a bound. -/
theorem tascend_is {v : Value} {l : List ByteArray} (hv : Strs w v l) (hl : l.length ≤ 4294967296) (x : ByteArray) :
    Calls Try.prog 21 #[v, .string x, .int .i64 0] w (fun e w' => ∃ u g, e = .returned u ∧ Row 1 w' u ((from_ (ins (its l)) (x, ())).map (·.1)).length (((from_ (ins (its l)) (x, ())).map (·.1)).map Value.string) g ∧ (∀ b, g = some b → w.heap.size ≤ b) ∧ Below w.heap.size w w') := by
  have hz : Below w.heap.size w (w.alloc (.cells #[.slice none 0 0] 23)) := (Below.refl _ _).alloc (Nat.le_refl _) _
  have HZ := hidp hz
  have HB := hidp (Bx.new w [.slice none 0 0] 23)
  have HG := hidp (grow_is2 (w := w.alloc (.cells #[.slice none 0 0] 23)) (hv.below hz) hl)
  clear hv hz
  go_enter Try.func21, Try.ntmps21
  go_wp2_with fail
  refine HG.out.mono ?_
  rintro e w1 ⟨S, s, rfl, hM, hb, hS⟩
  rw [World.size_alloc] at hb hS
  have hs1 : w.heap.size + 1 ≤ w1.heap.size := by have := hb.size; rwa [World.size_alloc] at this
  have HM := hidp (And.intro hM (And.intro hb hS))
  have HT := hidp (taker_is (w := w1) (bo := w.heap.size))
  clear hM hb hS HG
  go_wp2_with fail
  refine HT.out.mono ?_
  rintro e w2 ⟨rfl, hx, hn, hF⟩
  have hs2 : w1.heap.size + 1 < w2.heap.size := hn.1
  have hM2 := HM.out.1.keep hF (fun _ _ h => h)
  have hbx : Bx w1 w.heap.size [.slice none 0 0] := ⟨by omega, fun j v hj => by rw [M_block (HM.out.2.1.block _ (Nat.lt_succ_self _))]; exact HB.out.2 j v hj⟩
  have hT : Tk w2.heap.size w.heap.size w2 [] := ⟨by omega, Nat.le_refl _, _, none, hbx.keep hF (fun h => h), Row.nil _ _, fun b h => by cases h⟩
  have hW : Tw w2.heap.size w.heap.size w1.heap.size (w1.heap.size + 1) w2 := ⟨by omega, hs2, by omega, by omega, hx.cell 0 rfl, hn.cell 0 rfl⟩
  have hlen : (ins (its l)).length ≤ 1000000000000 := by have := ins_length (its l); simp only [its, List.length_map] at this ⊢; omega
  have HSC := hidp (set_ascend hM2 (fun i hi e => by have := HM.out.2.2 i hi; omega) hT hW hlen x)
  have HF2 := hidp ((HZ.out.trans (HM.out.2.1.mono (by omega))).trans (hF.below (by omega) (fun _ h => h.elim)))
  clear hx hn hF hM2 hbx hT hW hlen HT HM
  go_wp2_with fail
  refine HSC.out.mono ?_
  rintro e w3 ⟨rfl, ⟨_, _, u, g, hu, hr, hg⟩, hF3⟩
  have cu := hu.cell 0 rfl
  have HX := hidp (And.intro hr (And.intro hg (HF2.out.trans (Fr.below hF3 (by omega) (fun i hi => hi.elim (fun e => by omega) (fun e => by omega))))))
  obtain ⟨a, cap, ha⟩ := hr.len
  rw [ha] at cu
  have HA := hidp ha
  clear hu hr hg hF3 HSC HF2 ha
  go_wp2
  go_ret
  exact ⟨.slice a ((from_ (ins (its l)) (x, ())).map (·.1)).length cap, g, by rw [List.length_map]; rfl, by rw [← HA.out]; exact HX.out.1, fun b hb => by have := HX.out.2.1 b hb; omega, HX.out.2.2⟩
end Go.Proofs.Ytceildcbehaoaaa.Bt.T
