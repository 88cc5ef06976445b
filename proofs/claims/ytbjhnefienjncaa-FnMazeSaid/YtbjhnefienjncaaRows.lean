/-
  No cell of these rows narrows 'for every input' (looked for: loops, veiled, ifaces, maps, wideKeys, modest, calm, conditions, laid).
  DERIVED. THE GIVEN ROWS OF THIS SEAT. 4 by the template 'for every input the law returns true; each argument reads behind the call as it read before'; 0 by the template 'total and deterministic' (their statements: YtbjhnefienjncaaTotals.lean).
  GIVEN WITH THE SEED: the statements are not yours to turn. If you find one false, say at which input.
  Laid BY PROGRAM, IN A SANDBOX (cutbox-rows.mjs): the forced cells as the released guide's own fill.sh prints them over the translation 87b2a69656414932… (all of the seat's roots in one cut). By AI agents, Wed Nov 11 2026. No macro, syntax, notation, axiom, sorry.
-/
import Derived.Test.YtbjhnefienjncaaChecked
import GoSem.Claim
import GoSem.ClaimJoined
import GoSem.ClaimMapViews
import Derived.JoinedTies
import Derived.KernelRfl
namespace Go.Proofs.Ytbjhnefienjncaa
/- THE CELL 'sum', in the pinned program and in every row, IS THE sha256 OF THE DUMP (.gsa) THAT YtbjhnefienjncaaProg.lean LOADS. Nothing in Lean hashes anything: it is a label: what it is worth is what the hold of that sum in a sandbox is worth. -/
noncomputable def Try.pinned : Pinned := { name := "ytbjhnefienjncaa", sum := "87b2a69656414932b0500611face9d49ea2222604bd501464d515f382cc81886", checked := Try.checked }
namespace Rows
def none {H : Type} : Left H := { results := [], args := [] }

/-- 'laws.FnMaze': WHATEVER THE INPUT: true; the input reads as it did. -/
def fnMazeSpec : ChangeSpec := { name := "fnMaze", fn := fun _ => fun
  | [d1, d2] => { results := [.lit (.bool true)], args := [d1, d2] }
  | _ => none }
def fnMazeRow : OpenClaim := { program := "ytbjhnefienjncaa", sum := "87b2a69656414932b0500611face9d49ea2222604bd501464d515f382cc81886", func := "pub-windbreak/laws.FnMaze", spec := "fnMaze", unfollowed := true, recurses := true, apart := false }
def FnMazeSaid : Prop := fnMazeRow.holds Try.pinned (OpenSpec.ofChange fnMazeSpec)

/-- ITS FALSE NEIGHBOUR: 'it returns false'. Refute it at one input. -/
def fnMazeWrong : ChangeSpec := { name := "fnMaze", fn := fun _ => fun
  | [d1, d2] => { results := [.lit (.bool false)], args := [d1, d2] }
  | _ => none }
def FnMazeWrongFalsely : Prop := fnMazeRow.holds Try.pinned (OpenSpec.ofChange fnMazeWrong)

/-- 'laws.FnExactSCursors': WHATEVER THE INPUT: true; the input reads as it did. -/
def fnExactSCursorsSpec : ChangeSpec := { name := "fnExactSCursors", fn := fun _ => fun
  | [d1, d2] => { results := [.lit (.bool true)], args := [d1, d2] }
  | _ => none }
def fnExactSCursorsRow : OpenClaim := { program := "ytbjhnefienjncaa", sum := "87b2a69656414932b0500611face9d49ea2222604bd501464d515f382cc81886", func := "pub-windbreak/laws.FnExactSCursors", spec := "fnExactSCursors", unfollowed := true, recurses := true, apart := false }
def FnExactSCursorsSaid : Prop := fnExactSCursorsRow.holds Try.pinned (OpenSpec.ofChange fnExactSCursorsSpec)

/-- ITS FALSE NEIGHBOUR: 'it returns false'. Refute it at one input. -/
def fnExactSCursorsWrong : ChangeSpec := { name := "fnExactSCursors", fn := fun _ => fun
  | [d1, d2] => { results := [.lit (.bool false)], args := [d1, d2] }
  | _ => none }
def FnExactSCursorsWrongFalsely : Prop := fnExactSCursorsRow.holds Try.pinned (OpenSpec.ofChange fnExactSCursorsWrong)

/-- 'laws.FnExactTIter': WHATEVER THE INPUT: true; the input reads as it did. -/
def fnExactTIterSpec : ChangeSpec := { name := "fnExactTIter", fn := fun _ => fun
  | [d1, d2] => { results := [.lit (.bool true)], args := [d1, d2] }
  | _ => none }
def fnExactTIterRow : OpenClaim := { program := "ytbjhnefienjncaa", sum := "87b2a69656414932b0500611face9d49ea2222604bd501464d515f382cc81886", func := "pub-windbreak/laws.FnExactTIter", spec := "fnExactTIter", unfollowed := true, recurses := true, apart := false }
def FnExactTIterSaid : Prop := fnExactTIterRow.holds Try.pinned (OpenSpec.ofChange fnExactTIterSpec)

/-- ITS FALSE NEIGHBOUR: 'it returns false'. Refute it at one input. -/
def fnExactTIterWrong : ChangeSpec := { name := "fnExactTIter", fn := fun _ => fun
  | [d1, d2] => { results := [.lit (.bool false)], args := [d1, d2] }
  | _ => none }
def FnExactTIterWrongFalsely : Prop := fnExactTIterRow.holds Try.pinned (OpenSpec.ofChange fnExactTIterWrong)

/-- 'laws.FnMLacking': WHATEVER THE INPUT: true; the input reads as it did. -/
def fnMLackingSpec : ChangeSpec := { name := "fnMLacking", fn := fun _ => fun
  | [d1, d2, d3] => { results := [.lit (.bool true)], args := [d1, d2, d3] }
  | _ => none }
def fnMLackingRow : OpenClaim := { program := "ytbjhnefienjncaa", sum := "87b2a69656414932b0500611face9d49ea2222604bd501464d515f382cc81886", func := "pub-windbreak/laws.FnMLacking", spec := "fnMLacking", unfollowed := true, recurses := true, apart := false }
def FnMLackingSaid : Prop := fnMLackingRow.holds Try.pinned (OpenSpec.ofChange fnMLackingSpec)

/-- ITS FALSE NEIGHBOUR: 'it returns false'. Refute it at one input. -/
def fnMLackingWrong : ChangeSpec := { name := "fnMLacking", fn := fun _ => fun
  | [d1, d2, d3] => { results := [.lit (.bool false)], args := [d1, d2, d3] }
  | _ => none }
def FnMLackingWrongFalsely : Prop := fnMLackingRow.holds Try.pinned (OpenSpec.ofChange fnMLackingWrong)

/- THE SECOND FORM. 'bulk': how many values and letters a reading holds, each counted each time it is reached (what is shared counts as often as it is met; a slice's spare places count too). A statement '..UptoSaid' is the law's where the arguments, and the package variables that the reading takes, are together of bulk at most 1048576: NARROWER than '..Said'. Prove '..Said' where nothing that the law and all that it calls make is longer than what came in: it says more and counts as full. Else prove '..UptoSaid'. A law counts once. -/
mutual
def uptoBulk {H : Type} : DataW H → Nat
  | .lit (.string bytes) => bytes.length + 1
  | .lit _ => 1
  | .nil => 1
  | .ptr d => uptoBulk d + 1
  | .slice elems spare => uptoBulkAll elems + uptoBulkAll spare + 1
  | .agg parts => uptoBulkAll parts + 1
  | .iface _ d => uptoBulk d + 1
  | .map entries => uptoBulkEntries entries + 1
  | .held _ => 1
def uptoBulkAll {H : Type} : List (DataW H) → Nat
  | [] => 0
  | d :: r => uptoBulk d + uptoBulkAll r
def uptoBulkEntries {H : Type} : List (Lit × DataW H) → Nat
  | [] => 0
  | x :: r => uptoBulkEntry x + uptoBulkEntries r
def uptoBulkEntry {H : Type} : Lit × DataW H → Nat
  | (.string bytes, d) => bytes.length + uptoBulk d + 1
  | (_, d) => uptoBulk d + 1
 end
def uptoSmall : (H : Type) → List (DataW H) → Bool := fun _ ds => decide (uptoBulkAll ds ≤ 1048576)
def OpenSpec.upto (s : _root_.Go.ChangeSpec) : _root_.Go.OpenSpec := { _root_.Go.OpenSpec.ofChange s with cond := some uptoSmall }

/-- 'laws.FnMaze', WHERE WHAT IT READS IS OF BULK AT MOST 1048576: true; the input reads as it did. -/
def fnMazeUptoRow : OpenClaim := { program := "ytbjhnefienjncaa", sum := "87b2a69656414932b0500611face9d49ea2222604bd501464d515f382cc81886", func := "pub-windbreak/laws.FnMaze", spec := "fnMaze", unfollowed := true, recurses := true, apart := false, narrowed := true }
def FnMazeUptoSaid : Prop := fnMazeUptoRow.holds Try.pinned (OpenSpec.upto fnMazeSpec)

/-- 'laws.FnExactSCursors', WHERE WHAT IT READS IS OF BULK AT MOST 1048576: true; the input reads as it did. -/
def fnExactSCursorsUptoRow : OpenClaim := { program := "ytbjhnefienjncaa", sum := "87b2a69656414932b0500611face9d49ea2222604bd501464d515f382cc81886", func := "pub-windbreak/laws.FnExactSCursors", spec := "fnExactSCursors", unfollowed := true, recurses := true, apart := false, narrowed := true }
def FnExactSCursorsUptoSaid : Prop := fnExactSCursorsUptoRow.holds Try.pinned (OpenSpec.upto fnExactSCursorsSpec)

/-- 'laws.FnExactTIter', WHERE WHAT IT READS IS OF BULK AT MOST 1048576: true; the input reads as it did. -/
def fnExactTIterUptoRow : OpenClaim := { program := "ytbjhnefienjncaa", sum := "87b2a69656414932b0500611face9d49ea2222604bd501464d515f382cc81886", func := "pub-windbreak/laws.FnExactTIter", spec := "fnExactTIter", unfollowed := true, recurses := true, apart := false, narrowed := true }
def FnExactTIterUptoSaid : Prop := fnExactTIterUptoRow.holds Try.pinned (OpenSpec.upto fnExactTIterSpec)

/-- 'laws.FnMLacking', WHERE WHAT IT READS IS OF BULK AT MOST 1048576: true; the input reads as it did. -/
def fnMLackingUptoRow : OpenClaim := { program := "ytbjhnefienjncaa", sum := "87b2a69656414932b0500611face9d49ea2222604bd501464d515f382cc81886", func := "pub-windbreak/laws.FnMLacking", spec := "fnMLacking", unfollowed := true, recurses := true, apart := false, narrowed := true }
def FnMLackingUptoSaid : Prop := fnMLackingUptoRow.holds Try.pinned (OpenSpec.upto fnMLackingSpec)

end Rows
end Go.Proofs.Ytbjhnefienjncaa
