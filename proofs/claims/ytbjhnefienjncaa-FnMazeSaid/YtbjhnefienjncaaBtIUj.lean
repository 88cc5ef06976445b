/- Maps of numbers (sets): the bounds of a degree, and the first use of a map. -/
import Derived.Test.YtbjhnefienjncaaBtIUkz
namespace Go.Proofs.Ytbjhnefienjncaa.Bt.IU
set_option linter.unusedVariables false
set_option linter.unusedSimpArgs false
open Go Go.RowKit Go.Proofs.Ytbjhnefienjncaa.Bt

variable {S : Nat → Prop} {w : World} {s : Sto It}

/-- 'degreeToMinMax' -/
theorem dmm_zero : Calls Try.prog 165 #[.int .i64 0] w (fun e w' => e = .returned (.tuple #[.int .i64 31, .int .i64 63]) ∧ w = w') := by
  go_enter Try.func165, Try.ntmps165
  go_wp2
  go_ret2
  exact ⟨rfl, rfl⟩
theorem dmm_deg {D : Nat} (h1 : 2 ≤ D) (h2 : D ≤ 1000) : Calls Try.prog 165 #[.int .i64 D] w (fun e w' => e = .returned (.tuple #[.int .i64 ((D - 1 : Nat) : Int), .int .i64 ((2 * D - 1 : Nat) : Int)]) ∧ w = w') := by
  have e1 : ((2 * D - 1 : Nat) : Int) = (D : Int) * 2 - 1 := by omega
  have e2 : ((D - 1 : Nat) : Int) = ((D : Int) * 2 - 1) / 2 := by omega
  rw [e1, e2]
  clear e1 e2
  have h3 : (D : Int) ≤ 1000 := by omega
  have h4 : 2 ≤ (D : Int) := by omega
  clear h1 h2
  generalize (D : Int) = d at *
  have h5 : ¬ d ≤ 0 := by omega
  have h6 : (d == 1) = false := beq_eq_false_iff_ne.2 (by omega)
  go_enter Try.func165, Try.ntmps165
  go_wp2
  go_ret2
  exact ⟨rfl, rfl⟩

theorem no_copy {f : TypeId} : Instr.missingMethod #[("Copy", f)] #[] = some "Copy" := by simp [Instr.missingMethod, Instr.least]
theorem no_isoCopy {f : TypeId} : Instr.missingMethod #[("IsoCopy", f)] #[] = some "IsoCopy" := by simp [Instr.missingMethod, Instr.least]
theorem zero_copier (W : World) : (zeroValue 248).run Try.prog W = .ok .nilIface W := by kernel_rfl
theorem zero_isoCopier (W : World) : (zeroValue 251).run Try.prog W = .ok .nilIface W := by kernel_rfl
theorem methods_V : Try.t82.methods = #[] := rfl
theorem as_copier (W : World) : (Instr.typeAssert (.iface 82 (Value.agg #[])) 20 248 true).run Try.prog W = .ok (.tuple #[.nilIface, .bool false]) W := by
  simp [Instr.typeAssert, go_sem, methods_V, no_copy, zero_copier, Result.andThen]
theorem as_isoCopier (W : World) : (Instr.typeAssert (.iface 82 (Value.agg #[])) 20 251 true).run Try.prog W = .ok (.tuple #[.nilIface, .bool false]) W := by
  simp [Instr.typeAssert, go_sem, methods_V, no_isoCopy, zero_isoCopier, Result.andThen]

/-- 'init' of a map that was used. -/
theorem init_done (R : RepS E S w s) (h : s.mp.mn ≠ 0) (d : Int) : Calls Try.prog 131 #[.pointer (some ⟨s.m, 0, none⟩), .int .i64 d] w (fun e w' => e = .returned (.tuple #[]) ∧ w = w') := by
  obtain ⟨_, _, _, _, _, _, _, m6, _⟩ := mcell R
  have h' : (s.mp.mn != 0) = true := by simpa using h
  clear R h
  go_enter Try.func131, Try.ntmps131
  go_wp2
  refine bodyPost_ret (v := .tuple #[]) (by simp [results, Try.results131, go_sem]) rfl ?_
  exact ⟨rfl, rfl⟩

/-- 'init' at the first use. -/
theorem init_new (R : RepS E S w s) (h : s.mp.mn = 0) {d : Int} {D : Nat} (hd : (d = 0 ∧ D = 32) ∨ (d = (D : Nat) ∧ 2 ≤ D ∧ D ≤ 1000)) :
    Calls Try.prog 131 #[.pointer (some ⟨s.m, 0, none⟩), .int .i64 d] w (fun e w' => e = .returned (.tuple #[]) ∧ Ext S w S w' ∧ RepS E S w' (s.setMp { s.mp with mn := ((D - 1 : Nat) : Int), mx := ((2 * D - 1 : Nat) : Int) })) := by
  obtain ⟨hmlt, _, _, _, _, m4, m5, m6, m7, m8, m9⟩ := mcell R
  rw [h] at m6
  have hdm : ∀ w0, Calls Try.prog 165 #[.int .i64 d] w0 (fun e w' => e = .returned (.tuple #[.int .i64 ((D - 1 : Nat) : Int), .int .i64 ((2 * D - 1 : Nat) : Int)]) ∧ w0 = w') := fun w0 => by
    rcases hd with ⟨rfl, rfl⟩ | ⟨rfl, h1, h2⟩
    · exact dmm_zero
    · exact dmm_deg h1 h2
  have f6 := R.map.froz 5 (v := .int .i64 s.mp.mn) rfl
  have f7 := R.map.froz 6 (v := .int .i64 s.mp.mx) rfl
  have f8 := R.map.froz 7 (v := .bool false) rfl
  have f9 := R.map.froz 8 (v := .bool false) rfl
  have HD := hidp hdm
  generalize hmn : ((D - 1 : Nat) : Int) = mn at *
  generalize hmx : ((2 * D - 1 : Nat) : Int) = mx at *
  obtain ⟨E1, R1⟩ := R.put_mp { s.mp with mn := mn } (off := 5) (.int .i64 mn) (by show 5 < 9; decide) rfl
  obtain ⟨E2, R2⟩ := R1.put_mp { s.mp with mn := mn, mx := mx } (off := 6) (.int .i64 mx) (by show 6 < 9; decide) rfl
  obtain ⟨E3, R3⟩ := R2.put_mp { s.mp with mn := mn, mx := mx } (off := 7) (.bool false) (by show 7 < 9; decide) rfl
  obtain ⟨E4, R4⟩ := R3.put_mp { s.mp with mn := mn, mx := mx } (off := 8) (.bool false) (by show 8 < 9; decide) rfl
  have hpe2 := part_empty R2
  have hpe3 := part_empty R3
  have HF := hidp (And.intro (((E1.trans E2).trans E3).trans E4) R4)
  have hta := as_copier
  have htb := as_isoCopier
  clear R hdm hd h hmn hmx R1 E1 R2 E2 R3 E3 R4 E4
  simp only [Sto.m_setMp] at hpe2 hpe3
  go_enter Try.func131, Try.ntmps131
  go_wp2_with fail
  refine (HD.out _).mono ?_
  rintro e w' ⟨rfl, rfl⟩
  go_wp2
  go_end0
  exact ⟨rfl, HF.out.1, HF.out.2⟩
end Go.Proofs.Ytbjhnefienjncaa.Bt.IU
