/- Maps of numbers (sets): an item that is not there, in a leaf. -/
import Derived.Test.YtbjhnefienjncaaBtIUd1
namespace Go.Proofs.Ytbjhnefienjncaa.Bt.IU
set_option linter.unusedVariables false
set_option linter.unusedSimpArgs false
open Go Go.RowKit Go.Proofs.Ytbjhnefienjncaa.Bt

variable {S : Nat → Prop} {w : World} {s : Sto It}

set_option maxHeartbeats 4000000 in
set_option maxRecDepth 100000 in
/-- 'delete' of an item that is not there, in a leaf. -/
theorem del_none (R : RepS E S w s) {A : Addr} {n : Nat} {r : NodeR It} {x : It} {ln : Nat} (hA : w.cell? A = some (pv (some n))) (hn : s.nd n = some r) (hi : r.iso = s.mp.iso) (hk : r.kids = none) (hln : r.items.length = ln) (hl9 : ln ≤ 100000) (hsrt : Srt lt r.items) (hf : fnd lt r.items x = false) :
    Calls Try.prog 98 #[.pointer (some ⟨s.m, 0, none⟩), .pointer (some A), .bool false, Value.int .i64 x.1] w (fun e w' => e = .returned (.tuple #[.agg #[Value.int .i64 0], .bool false]) ∧ ∃ BX, KB E S w s BX [] w') := by
  have hAlt : A.block < w.heap.size := World.block_lt_of_cell? w _ hA
  have HR := hidp R
  have HN := hidp hn
  have HKN := hidp hk
  have HISO := hidp (isoLoad_own (R.alloc (.cells #[Value.int .i64 0] 120)) (A := A) ((World.cell?_alloc_lt _ _ _ hAlt).trans hA) hn hi true)
  have HS0 : Hid (KB E S w s [(w.heap.size, [Value.int .i64 0])] [] (w.alloc (.cells #[Value.int .i64 0] 120))) := hidp ((KB.start R (fun a r' h => by simp at h) (by simp)).box [Value.int .i64 0] 120)
  have HSR := hidp (And.intro hsrt (And.intro hf hln))
  clear R hA hn hi hk hsrt hf hln hAlt
  go_enter Try.func98, Try.ntmps98
  go_wp2_with fail
  refine HISO.out.mono ?_
  rintro e w' ⟨rfl, a1, rfl⟩
  have K1 := HS0.out.drewN a1
  have HRw := hidp ((HR.out.alloc (.cells #[Value.int .i64 0] 120)).drewN a1)
  generalize (w.alloc (.cells #[Value.int .i64 0] 120)).drewN a1 = w1 at K1 HRw ⊢
  have HK1 := hidp K1
  clear K1 HISO HS0
  have HSE := hidp (search_is HRw.out HN.out HSR.out.1 (by rw [HSR.out.2.2]; omega) x)
  rw [HSR.out.2.1] at HSE
  go_wp2_with fail
  refine HSE.out.mono ?_
  rintro e w' ⟨rfl, m, rfl⟩
  have K1 := HK1.out.drewN m
  have HRw2 := hidp (HRw.out.drewN m)
  generalize w1.drewN m = w2 at K1 HRw2 ⊢
  have n3 : w2.cell? ⟨n, 3, none⟩ = some (pv none) := by rw [(ncell HRw2.out HN.out).2.2.2.2, HKN.out]; rfl
  have HK2 := hidp K1
  clear K1 HK1 HRw HSE
  go_wp2_with fail
  refine (leaf_raw n3).mono ?_
  rintro e w' ⟨rfl, rfl⟩
  clear n3
  have x4 : w2.cell? ⟨s.m, 4, none⟩ = some (Value.int .i64 0) := HK2.out.map.1.cell 4 rfl
  have x5 : w2.cell? ⟨s.m, 4, none⟩ = some (Value.int .i64 0) := HK2.out.map.1.cell 4 rfl
  have b0 := (HK2.out.bx (b := w.heap.size) (vs := [Value.int .i64 0]) (by simp)).cell 0 rfl
  have g0 := (HK2.out.bx (b := w.heap.size) (vs := [Value.int .i64 0]) (by simp)).froz 0 rfl
  
  
  have KF := KB.set_box (vs' := [Value.int .i64 0]) HK2.out (Upd.one w2 (b := w.heap.size) (o := 0) (Value.int .i64 0) (by rw [(HK2.out.bx (b := w.heap.size) (vs := [Value.int .i64 0]) (by simp)).2 0 _ rfl]; rfl)) (fun p' hp' => by cases hp')
  have d0 := (KF.bx (b := w.heap.size) (vs := [Value.int .i64 0]) (by simp)).cell 0 rfl
  
  have HKF := hidp KF
  clear KF HRw2 HSR
  go_wp2
  refine bodyPost_ret (v := .tuple #[.agg #[Value.int .i64 0], .bool false]) (by simp [results, Try.results98, go_sem, d0]) rfl ?_
  exact ⟨rfl, _, HKF.out⟩
end Go.Proofs.Ytbjhnefienjncaa.Bt.IU
