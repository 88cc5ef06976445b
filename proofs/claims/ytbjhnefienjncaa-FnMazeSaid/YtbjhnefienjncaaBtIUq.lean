/- Maps of numbers (sets): a new one. -/
import Derived.Test.YtbjhnefienjncaaBtIUp
namespace Go.Proofs.Ytbjhnefienjncaa.Bt.IU
set_option linter.unusedVariables false
set_option linter.unusedSimpArgs false
open Go Go.RowKit Go.Proofs.Ytbjhnefienjncaa.Bt

def noMap (m : Nat) : Sto It := ⟨m, ⟨0, none, none, 0, 0, 0⟩, fun _ => none⟩
/-- A new map. -/
theorem new_rep {w : World} {m : Nat} (hb : Bx w m (mapCells E (noMap m).mp)) (ht : bty w m = some 124) : RepS E (· = m) w (noMap m) := by
  refine ⟨⟨fun x c hx => ?_, fun x y c d hne hx hy => ?_, fun x c hx => ?_, (fun b hb' => by subst hb'; exact hb.1)⟩, (fun n r hn => by cases hn), ⟨ht, (fun n r hn => by cases hn)⟩⟩
  · cases x with
    | mp =>
      obtain rfl := Option.some.inj hx
      refine ⟨by simp [mapCells, E], fun j hj => ?_, fun j v hv => ?_⟩
      · have hj' : j < (mapCells E (noMap m).mp).length := by simpa [mapCells, E] using hj
        show (M w m (0 + j)).isSome = true
        rw [Nat.zero_add, hb.2 j _ (List.getElem?_eq_getElem hj')]; rfl
      · show M w m (0 + j) = some v
        rw [Nat.zero_add]; exact hb.2 j v hv
    | of k p => cases hx
  · cases x with
    | mp =>
      cases y with
      | mp => exact absurd rfl hne
      | of k p => cases hy
    | of k p => cases hx
  · cases x with
    | mp => obtain rfl := Option.some.inj hx; rfl
    | of k p => cases hx
theorem new_map {w : World} {m : Nat} (hb : Bx w m (mapCells E (noMap m).mp)) (ht : bty w m = some 124) : MapIs 32 (· = m) w (noMap m) [] :=
  ⟨new_rep hb ht, List.Pairwise.nil, rfl, .inl ⟨rfl, rfl, rfl⟩, .inl ⟨rfl, rfl⟩⟩

/-- Items set one behind the other. -/
def ins (l : List It) : List It := l.foldl (fun acc x => put lt acc x) []
theorem ins_snoc (l : List It) (x : It) : ins (l ++ [x]) = put lt (ins l) x := by unfold ins; rw [List.foldl_append]; rfl
theorem ins_take {l : List It} {j : Nat} {x : It} (h : l[j]? = some x) : ins (l.take (j + 1)) = put lt (ins (l.take j)) x := by
  rw [List.take_add_one, h]; exact ins_snoc _ _
theorem ins_length (l : List It) : (ins l).length ≤ l.length := by
  have key : ∀ (l acc : List It), (l.foldl (fun acc x => put lt acc x) acc).length ≤ acc.length + l.length := by
    intro l
    induction l with
    | nil => intro acc; simp
    | cons x l ih =>
      intro acc
      have h := ih (put lt acc x)
      have hp : (put lt acc x).length ≤ acc.length + 1 := by rw [put_length]; split <;> omega
      simp only [List.foldl_cons, List.length_cons]; omega
  have := key l []
  simpa [ins] using this
theorem ins_srt (l : List It) : Srt lt (ins l) := by
  have key : ∀ (l acc : List It), Srt lt acc → Srt lt (l.foldl (fun acc x => put lt acc x) acc) := by
    intro l
    induction l with
    | nil => exact fun acc h => h
    | cons x l ih => exact fun acc h => ih _ (put_srt ord h)
  exact key l [] List.Pairwise.nil
end Go.Proofs.Ytbjhnefienjncaa.Bt.IU
