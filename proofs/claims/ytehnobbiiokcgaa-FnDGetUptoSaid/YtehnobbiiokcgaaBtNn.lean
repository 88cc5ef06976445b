/- Nodes as data: DKeyValues, NodeHeight, and what the laws ask. -/
import Derived.Test.YtehnobbiiokcgaaBtNm
namespace Go.Proofs.Ytehnobbiiokcgaa.Bt.ND
set_option linter.unusedVariables false
set_option linter.unusedSimpArgs false
open Go Go.RowKit Go.Proofs.Ytehnobbiiokcgaa.Bt

/-- The height of the tree of a root. -/
def hgt {n : Nat} (t : DT (n + 1)) : Nat := if t.1.length = 0 then 0 else (lev (n + 1) t).1
theorem VTree.hgt {D n h : Nat} {t : DT (n + 1)} (v : VTree D t h) : hgt t = h + 1 := by
  have h1 := v.fil
  unfold filled at h1
  rw [Bool.and_eq_true, Bool.and_eq_true, decide_eq_true_eq, decide_eq_true_eq] at h1
  unfold ND.hgt
  rw [if_neg (by omega), v.lev]
theorem Stands.below {D n : Nat} {t : DT (n + 1)} {S : Nat → Prop} {w w' : World} {s : Sto II.It} (h : Stands D t S w s) (hb : Below w.heap.size w w') : Stands D t S w' s :=
  ⟨⟨h.mp.rep.below hb h.mp.rep.rep.lt, h.mp.srt, h.mp.cnt, h.mp.mm, h.mp.tree⟩, h.tree⟩
theorem lev_bulk : ∀ (n : Nat) (t : DT n), (lev n t).1 ≤ bulk n t
  | 0, _ => Nat.zero_le _
  | n + 1, t => by
    show _ ≤ 1 + t.1.length + (t.2.1.map (bulk n)).sum
    cases hk : t.2.1 with
    | nil => unfold lev; rw [hk]; simp only; omega
    | cons k ks =>
      rw [lev_cons hk]
      split
      · have := lev_bulk n k
        simp only [List.map_cons, List.sum_cons]; omega
      · simp
theorem height_is {D n : Nat} {t : DT (n + 1)} {S : Nat → Prop} {w : World} {s : Sto II.It} (h : Stands D t S w s) (hb : bulk (n + 1) t ≤ 10000000) :
    Calls Try.prog 47 #[.pointer (some ⟨s.m, 0, none⟩)] w (fun e w' => e = .returned (.int .i64 (hgt t : Nat)) ∧ w' = w) := by
  rcases h.tree with ⟨h1, h2, h3⟩ | ⟨k, m, ids, V, hr, T, _⟩
  · have e : hgt t = 0 := by unfold hgt; rw [if_pos h1]
    rw [e]
    exact II.height_nil h.mp.rep h3
  · have e : hgt t = k + 1 := V.hgt
    rw [e]
    have hl := lev_bulk (n + 1) t
    rw [V.lev] at hl
    exact II.height_tr h.mp.rep hr T V.ok (by simp only at hl; omega)

set_option maxHeartbeats 2000000 in
set_option maxRecDepth 100000 in
/-- 'DKeyValues' -/
theorem dkv_is {D : Nat} (hD : 2 ≤ D) (hD2 : D ≤ 1000) {n : Nat} {t : DT (n + 1)} (hv : validB D (n + 1) t = true) {w : World} {vi vk : Value} {c : Int} (hN : NodeAt w (n + 1) t vi vk c) (hb : bulk (n + 1) t ≤ 10000000) :
    Calls Try.prog 15 #[.int .i64 D, .agg #[vi, vk, .int .i64 c]] w (fun e w' => ∃ u v, e = .returned (.tuple #[u, v, .int .i64 (dAll (n + 1) t).length, .int .i64 (hgt t : Nat)]) ∧ II.Rows2 w.heap.size w' u v (II.kv (dAll (n + 1) t)) (II.vv (dAll (n + 1) t)) ∧ Below w.heap.size w w') := by
  obtain ⟨⟨i1, i2, icap, rfl⟩, q1, q2, kcap, rfl⟩ := hN.vals
  have hB1 := (Below.refl w.heap.size w).alloc (Nat.le_refl _) (.cells #[.slice i1 i2 icap, .slice q1 q2 kcap, .int .i64 c] 25)
  have hlen : (dAll (n + 1) t).length ≤ 10000000 := by have := dAll_bulk (n + 1) t; omega
  have HST := hidp (stand_is hD hD2 hv (hN.below hB1) (by omega))
  have HB1 := hidp hB1
  have hsz : w.heap.size ≤ (w.alloc (.cells #[.slice i1 i2 icap, .slice q1 q2 kcap, .int .i64 c] 25)).heap.size := by rw [World.size_alloc]; omega
  clear hN hB1 hv
  go_enter Try.func15, Try.ntmps15
  go_wp2_with fail
  refine HST.out.mono ?_
  rintro e w2 ⟨S, s, rfl, St, hb2, _⟩
  have hB2 : Below w.heap.size w w2 := HB1.out.trans (hb2.mono hsz)
  have HS := hidp St
  have HB2 := hidp hB2
  have HKV := hidp (II.KeyValues_is St.mp (by omega))
  clear St hb2 hB2 HST
  go_wp2_with fail
  refine HKV.out.mono ?_
  rintro e w3 ⟨u, v, rfl, hrows, hb3⟩
  have hS3 := HS.out.below hb3
  have HS3 := hidp hS3
  have HR3 := hidp (And.intro hrows (HB2.out.trans (hb3.mono HB2.out.size)))
  have hL := II.len_is hS3.mp.rep
  rw [hS3.mp.cnt] at hL
  have HL := hidp hL
  clear hrows hb3 hS3 hL HKV HS
  go_wp2_with fail
  refine HL.out.mono ?_
  rintro e w' ⟨rfl, rfl⟩
  have HH := hidp (height_is HS3.out hb)
  go_wp2_with fail
  refine HH.out.mono ?_
  rintro e w' ⟨rfl, rfl⟩
  go_wp2
  refine bodyPost_ret (v := .tuple #[u, v, .int .i64 (dAll (n + 1) t).length, .int .i64 (hgt t : Nat)]) (by simp [results, Try.results15, go_sem]) rfl ?_
  obtain ⟨g1, g2, r1, r2, hne, h1, h2⟩ := HR3.out.1
  have hsz2 := HB2.out.size
  exact ⟨u, v, rfl, ⟨g1, g2, r1, r2, hne, by omega, by omega⟩, HR3.out.2⟩
end Go.Proofs.Ytehnobbiiokcgaa.Bt.ND
