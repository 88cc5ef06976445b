/- A node as data that came in: how it lies in memory. -/
import Derived.Test.YtehnobbiiokcgaaBtNf
import Derived.Test.YtehnobbiiokcgaaRows
import Derived.Deep.SlicePairs
namespace Go.Proofs.Ytehnobbiiokcgaa.Bt.ND
set_option linter.unusedVariables false
set_option linter.unusedSimpArgs false
open Go Go.ChangeShapes Go.WideShapes Go.RowKit Go.Proofs.Ytehnobbiiokcgaa.Bt

theorem cellsN : Try.prog.cellsOf 25 = 3 := by kernel_rfl
theorem cellsM : Try.prog.cellsOf 35 = 2 := by kernel_rfl
theorem cellsI : Try.prog.cellsOf 3 = 1 := by kernel_rfl
theorem cellsSM : Try.prog.cellsOf 22 = 1 := by kernel_rfl
theorem cellsSN : Try.prog.cellsOf 23 = 1 := by kernel_rfl

section
variable {H : Type}
theorem bulk_pos (d : DataW H) : 1 ≤ Rows.uptoBulk d := by
  cases d with
  | lit l => cases l <;> simp [Rows.uptoBulk]
  | _ => simp [Rows.uptoBulk]
theorem bulk_all_len : ∀ ds : List (DataW H), ds.length ≤ Rows.uptoBulkAll ds
  | [] => by simp
  | d :: r => by
    have h1 := bulk_pos d
    have h2 := bulk_all_len r
    simp only [Rows.uptoBulkAll, List.length_cons]; omega
theorem bulk_all_sum : ∀ (ds : List (DataW H)) (ns : List Nat), ns.length = ds.length → (∀ (i n : Nat) (d : DataW H), ns[i]? = some n → ds[i]? = some d → n ≤ Rows.uptoBulk d) → ns.sum ≤ Rows.uptoBulkAll ds
  | [], [], _, _ => by simp
  | [], _ :: _, h, _ => by simp at h
  | _ :: _, [], h, _ => by simp at h
  | d :: ds, n :: ns, h, hc => by
    have h1 := hc 0 n d rfl rfl
    have h2 := bulk_all_sum ds ns (by simpa using h) (fun i m e h1 h2 => hc (i + 1) m e (by simpa using h1) (by simpa using h2))
    simp only [List.sum_cons, Rows.uptoBulkAll]; omega

theorem three {α : Type} {l : List α} (h : l.length = 3) : ∃ a b c, l = [a, b, c] := by
  match l, h with
  | [a, b, c], _ => exact ⟨a, b, c, rfl⟩

def dep : Nat → Nat
  | n + 2 => dep n + 1
  | _ => 0

variable {enc : TypeId × Value → H} {w : World} {spare : Nat → Bool} {held : Bool}

/-- A list of items that came in. -/
theorem items_in {fuel : Nat} {cs : List Value} {x : DataW H × List MemPlace} (h : DataW.trod enc Try.prog w 0 spare held fuel 22 cs = some x) :
    ∃ v l, cs = [v] ∧ Its w v l ∧ l.length ≤ Rows.uptoBulk x.1 := by
  rcases Deep.open_slice_pairs Try.underlying22 Try.underlying35 cellsM rfl rfl cellsI cellsI h with ⟨rfl, rfl⟩ | ⟨a', n, c, m, k, V0, V1, D0, D1, P0, P1, rfl, _, hl, hm, hz, rfl, hcell⟩
  · exact ⟨_, [], rfl, ⟨none, 0, rfl, Nat.le_refl _, fun j x hx => by simp at hx⟩, Nat.zero_le _⟩
  · have hnm : n ≤ m := by rw [hz]; split <;> omega
    have each : ∀ i, i < n → ∃ q : Im, V0 i = .int .i64 q.1 ∧ V1 i = .int .i64 q.2 := fun i hi => by
      obtain ⟨_, _, t0, t1⟩ := hcell i (by omega)
      obtain ⟨z0, e0, _, _⟩ := DataW.trod_int Try.underlying3 t0
      obtain ⟨z1, e1, _, _⟩ := DataW.trod_int Try.underlying3 t1
      simp at e0 e1
      exact ⟨(z0, z1), e0, e1⟩
    have : Inhabited Im := ⟨(0, 0)⟩
    obtain ⟨q, hq⟩ := Deep.choose_lt each
    refine ⟨_, (List.range n).map q, rfl, ⟨some a', c, by simp, by simpa using hl, fun j x hx => ?_⟩, ?_⟩
    · rw [List.getElem?_map] at hx
      by_cases hj : j < n
      · rw [List.getElem?_range hj] at hx
        obtain rfl : x = q j := by simpa using hx.symm
        obtain ⟨c0, c1, _, _⟩ := hcell j (by omega)
        rw [(hq j hj).1] at c0
        rw [(hq j hj).2] at c1
        obtain ⟨b, off, spot⟩ := a'
        have hspot : spot = none := by
          have := World.cell?_spot (hcell 0 (by omega)).1
          simpa [Addr.add] using this
        subst hspot
        rw [Addr.add_lit] at c0 c1
        exact ⟨b, off, rfl, c0, by rw [Nat.add_assoc]; exact c1⟩
      · rw [List.getElem?_eq_none (by simpa using Nat.le_of_not_lt hj)] at hx
        simp at hx
    · have h1 := bulk_all_len ((List.range n).map fun i => DataW.agg [D0 i, D1 i])
      simp only [List.length_map, List.length_range] at h1 ⊢
      simp only [Rows.uptoBulk]
      omega

set_option maxRecDepth 10000 in
/-- A node that came in. -/
theorem node_in : ∀ (fuel : Nat) (cs : List Value) (x : DataW H × List MemPlace), DataW.trod enc Try.prog w 0 spare held fuel 25 cs = some x →
    ∃ (t : DT (dep fuel)) (vi vk : Value) (c : Int), cs = [vi, vk, .int .i64 c] ∧ NodeAt w (dep fuel) t vi vk c ∧ bulk (dep fuel) t ≤ Rows.uptoBulk x.1
  | fuel, cs, x, h => by
    obtain ⟨xs, n, rfl, rfl, hcl, hxl, hf⟩ := DataW.trod_struct Try.underlying25 h
    rw [cellsN] at hcl
    have hxl3 : xs.length = 3 := hxl
    obtain ⟨y0, y1, y2, rfl⟩ := three hxl3
    obtain ⟨v0, v1, v2, rfl⟩ := three hcl
    · have g0 := hf 0 _ rfl
      have g1 := hf 1 _ rfl
      have g2 := hf 2 _ rfl
      simp [cellsSM, cellsSN, cellsI] at g0 g1 g2
      obtain ⟨z, e2, hy2, _⟩ := DataW.trod_int Try.underlying3 g2
      obtain rfl : v2 = .int .i64 z := by simpa using e2
      obtain ⟨vi, its, e0, hi, hib⟩ := items_in g0
      obtain rfl : v0 = vi := by simpa using e0
      clear hf hxl hcl
      rcases DataW.trod_slice Try.underlying23 g1 with ⟨e1, hy1⟩ | ⟨a, len, cap, elems, rest, n2, rfl, e1, hy1, _, hl, hm, hlen, hel, _, _⟩
      · obtain rfl : v1 = .slice none 0 0 := by simpa using e1
        cases n with
        | zero => simp [DataW.trod] at g0
        | succ n2 =>
          refine ⟨(its, [], z), _, _, z, rfl, ⟨rfl, hi, none, 0, rfl, Nat.le_refl _, fun j k hj => by simp at hj⟩, ?_⟩
          show 1 + its.length + 0 ≤ _
          simp only [List.map_cons, List.map_nil, Rows.uptoBulk, Rows.uptoBulkAll]
          have := bulk_pos y1.1
          have := bulk_pos y2.1
          omega
      · obtain rfl : v1 = .slice (some a) len cap := by simpa using e1
        rw [cellsN] at hel
        have each : ∀ i, i < len → ∃ q : DT (dep n2) × Value × Value × Int, w.cell? (a.add (i * 3)) = some q.2.1 ∧ w.cell? (a.add (i * 3 + 1)) = some q.2.2.1 ∧ w.cell? (a.add (i * 3 + 2)) = some (.int .i64 q.2.2.2) ∧ NodeAt w (dep n2) q.1 q.2.1 q.2.2.1 q.2.2.2 ∧ ∃ y, elems[i]? = some y ∧ bulk (dep n2) q.1 ≤ Rows.uptoBulk y.1 := fun i hi' => by
          have hb := hel i hi'
          rw [List.getElem?_eq_getElem (by omega)] at hb
          obtain ⟨cs', h1, h2⟩ := Option.bind_eq_some_iff.1 hb
          obtain ⟨t', vi', vk', c', ec, ht', hb'⟩ := node_in n2 cs' _ h2
          obtain ⟨_, hlen', hat⟩ := World.cells?_some h1
          subst ec
          have c0 := hat 0 (by omega)
          have c1 := hat 1 (by omega)
          have c2 := hat 2 (by omega)
          rw [Deep.add_add] at c0 c1 c2
          exact ⟨(t', vi', vk', c'), by simpa using c0, by simpa using c1, by simpa using c2, ht', _, List.getElem?_eq_getElem (by omega), hb'⟩
        by_cases h0 : len = 0
        · subst h0
          refine ⟨(its, [], z), _, _, z, rfl, ⟨rfl, hi, some a, cap, rfl, Nat.zero_le _, fun j k hj => by simp at hj⟩, ?_⟩
          show 1 + its.length + 0 ≤ _
          simp only [List.map_cons, List.map_nil, Rows.uptoBulk, Rows.uptoBulkAll]
          have := bulk_pos y1.1
          have := bulk_pos y2.1
          omega
        · have : Inhabited (DT (dep n2) × Value × Value × Int) := ⟨Classical.choose (each 0 (by omega))⟩
          obtain ⟨q, hq⟩ := Deep.choose_lt each
          obtain ⟨b, off, spot⟩ := a
          have hspot : spot = none := by
            have := World.cell?_spot (hq 0 (by omega)).1
            simpa [Addr.add] using this
          subst hspot
          refine ⟨(its, (List.range len).map fun i => (q i).1, z), _, _, z, rfl, ⟨rfl, hi, some ⟨b, off, none⟩, cap, by simp, by simpa using hl, fun j k hj => ?_⟩, ?_⟩
          · rw [List.getElem?_map] at hj
            by_cases hjl : j < len
            · rw [List.getElem?_range hjl] at hj
              obtain rfl : k = (q j).1 := by simpa using hj.symm
              obtain ⟨c0, c1, c2, hn, _⟩ := hq j hjl
              rw [Addr.add_lit] at c0 c1 c2
              exact ⟨b, off, _, _, _, rfl, c0, by rw [Nat.add_assoc]; exact c1, by rw [Nat.add_assoc]; exact c2, hn⟩
            · rw [List.getElem?_eq_none (by simpa using Nat.le_of_not_lt hjl)] at hj
              simp at hj
          · show 1 + its.length + (((List.range len).map fun i => (q i).1).map (bulk (dep n2))).sum ≤ _
            simp only [List.map_cons, List.map_nil, Rows.uptoBulk, Rows.uptoBulkAll]
            rw [hy1]
            simp only [Rows.uptoBulk]
            have hs := bulk_all_sum (elems.map (·.1)) (((List.range len).map fun i => (q i).1).map (bulk (dep n2))) (by simp [hlen]) (fun i m d h1 h2 => by
              rw [List.getElem?_map, List.getElem?_map] at h1
              by_cases hil : i < len
              · rw [List.getElem?_range hil] at h1
                obtain rfl : m = bulk (dep n2) (q i).1 := by simpa using h1.symm
                obtain ⟨_, _, _, _, y, hy, hb⟩ := hq i hil
                rw [List.getElem?_map, hy] at h2
                obtain rfl : d = y.1 := by simpa using h2.symm
                exact hb
              · rw [List.getElem?_eq_none (by simpa using Nat.le_of_not_lt hil)] at h1
                simp at h1)
            have := bulk_pos y2.1
            omega
end
end Go.Proofs.Ytehnobbiiokcgaa.Bt.ND
