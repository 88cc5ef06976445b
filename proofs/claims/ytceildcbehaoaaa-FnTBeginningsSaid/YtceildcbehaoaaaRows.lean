/-
  No cell of these rows narrows 'for every input' (looked for: loops, veiled, ifaces, maps, wideKeys, modest, calm, conditions, laid).
  DERIVED. THE GIVEN ROWS OF THIS SEAT. 9 by the template 'for every input the law returns true; each argument reads behind the call as it read before'; 0 by the template 'total and deterministic' (their statements: YtceildcbehaoaaaTotals.lean).
  GIVEN WITH THE SEED: the statements are not yours to turn. If you find one false, say at which input.
  Laid BY PROGRAM, IN A SANDBOX (cutbox-rows.mjs): the forced cells as the released guide's own fill.sh prints them over the translation 4cd5f9322433e224… (all of the seat's roots in one cut). By AI agents, Wed Nov 11 2026. No macro, syntax, notation, axiom, sorry.
-/
import Derived.Test.YtceildcbehaoaaaChecked
import GoSem.Claim
import GoSem.ClaimJoined
import GoSem.ClaimMapViews
import Derived.JoinedTies
import Derived.KernelRfl
namespace Go.Proofs.Ytceildcbehaoaaa
/- THE CELL 'sum', in the pinned program and in every row, IS THE sha256 OF THE DUMP (.gsa) THAT YtceildcbehaoaaaProg.lean LOADS. Nothing in Lean hashes anything: it is a label: what it is worth is what the hold of that sum in a sandbox is worth. -/
noncomputable def Try.pinned : Pinned := { name := "ytceildcbehaoaaa", sum := "4cd5f9322433e224238c94ad1cfda39793691304e89c80caa23649c5d4eb90a1", checked := Try.checked }
namespace Rows
def none {H : Type} : Left H := { results := [], args := [] }

/-- 'laws.FnTNumbers': WHATEVER THE INPUT: true; the input reads as it did. -/
def fnTNumbersSpec : ChangeSpec := { name := "fnTNumbers", fn := fun _ => fun
  | [d] => { results := [.lit (.bool true)], args := [d] }
  | _ => none }
def fnTNumbersRow : OpenClaim := { program := "ytceildcbehaoaaa", sum := "4cd5f9322433e224238c94ad1cfda39793691304e89c80caa23649c5d4eb90a1", func := "pub-windbreak/laws.FnTNumbers", spec := "fnTNumbers", unfollowed := true, recurses := true, apart := false }
def FnTNumbersSaid : Prop := fnTNumbersRow.holds Try.pinned (OpenSpec.ofChange fnTNumbersSpec)

/-- ITS FALSE NEIGHBOUR: 'it returns false'. Refute it at one input. -/
def fnTNumbersWrong : ChangeSpec := { name := "fnTNumbers", fn := fun _ => fun
  | [d] => { results := [.lit (.bool false)], args := [d] }
  | _ => none }
def FnTNumbersWrongFalsely : Prop := fnTNumbersRow.holds Try.pinned (OpenSpec.ofChange fnTNumbersWrong)

/-- 'laws.FnExactTInsert': WHATEVER THE INPUT: true; the input reads as it did. -/
def fnExactTInsertSpec : ChangeSpec := { name := "fnExactTInsert", fn := fun _ => fun
  | [d] => { results := [.lit (.bool true)], args := [d] }
  | _ => none }
def fnExactTInsertRow : OpenClaim := { program := "ytceildcbehaoaaa", sum := "4cd5f9322433e224238c94ad1cfda39793691304e89c80caa23649c5d4eb90a1", func := "pub-windbreak/laws.FnExactTInsert", spec := "fnExactTInsert", unfollowed := true, recurses := true, apart := false }
def FnExactTInsertSaid : Prop := fnExactTInsertRow.holds Try.pinned (OpenSpec.ofChange fnExactTInsertSpec)

/-- ITS FALSE NEIGHBOUR: 'it returns false'. Refute it at one input. -/
def fnExactTInsertWrong : ChangeSpec := { name := "fnExactTInsert", fn := fun _ => fun
  | [d] => { results := [.lit (.bool false)], args := [d] }
  | _ => none }
def FnExactTInsertWrongFalsely : Prop := fnExactTInsertRow.holds Try.pinned (OpenSpec.ofChange fnExactTInsertWrong)

/-- 'laws.FnTOrders': WHATEVER THE INPUT: true; the input reads as it did. -/
def fnTOrdersSpec : ChangeSpec := { name := "fnTOrders", fn := fun _ => fun
  | [d1, d2] => { results := [.lit (.bool true)], args := [d1, d2] }
  | _ => none }
def fnTOrdersRow : OpenClaim := { program := "ytceildcbehaoaaa", sum := "4cd5f9322433e224238c94ad1cfda39793691304e89c80caa23649c5d4eb90a1", func := "pub-windbreak/laws.FnTOrders", spec := "fnTOrders", unfollowed := true, recurses := true, apart := false }
def FnTOrdersSaid : Prop := fnTOrdersRow.holds Try.pinned (OpenSpec.ofChange fnTOrdersSpec)

/-- ITS FALSE NEIGHBOUR: 'it returns false'. Refute it at one input. -/
def fnTOrdersWrong : ChangeSpec := { name := "fnTOrders", fn := fun _ => fun
  | [d1, d2] => { results := [.lit (.bool false)], args := [d1, d2] }
  | _ => none }
def FnTOrdersWrongFalsely : Prop := fnTOrdersRow.holds Try.pinned (OpenSpec.ofChange fnTOrdersWrong)

/-- 'laws.FnTBeginnings': WHATEVER THE INPUT: true; the input reads as it did. -/
def fnTBeginningsSpec : ChangeSpec := { name := "fnTBeginnings", fn := fun _ => fun
  | [d1, d2] => { results := [.lit (.bool true)], args := [d1, d2] }
  | _ => none }
def fnTBeginningsRow : OpenClaim := { program := "ytceildcbehaoaaa", sum := "4cd5f9322433e224238c94ad1cfda39793691304e89c80caa23649c5d4eb90a1", func := "pub-windbreak/laws.FnTBeginnings", spec := "fnTBeginnings", unfollowed := true, recurses := true, apart := false }
def FnTBeginningsSaid : Prop := fnTBeginningsRow.holds Try.pinned (OpenSpec.ofChange fnTBeginningsSpec)

/-- ITS FALSE NEIGHBOUR: 'it returns false'. Refute it at one input. -/
def fnTBeginningsWrong : ChangeSpec := { name := "fnTBeginnings", fn := fun _ => fun
  | [d1, d2] => { results := [.lit (.bool false)], args := [d1, d2] }
  | _ => none }
def FnTBeginningsWrongFalsely : Prop := fnTBeginningsRow.holds Try.pinned (OpenSpec.ofChange fnTBeginningsWrong)

/-- 'laws.FnMaze': WHATEVER THE INPUT: true; the input reads as it did. -/
def fnMazeSpec : ChangeSpec := { name := "fnMaze", fn := fun _ => fun
  | [d1, d2] => { results := [.lit (.bool true)], args := [d1, d2] }
  | _ => none }
def fnMazeRow : OpenClaim := { program := "ytceildcbehaoaaa", sum := "4cd5f9322433e224238c94ad1cfda39793691304e89c80caa23649c5d4eb90a1", func := "pub-windbreak/laws.FnMaze", spec := "fnMaze", unfollowed := true, recurses := true, apart := false }
def FnMazeSaid : Prop := fnMazeRow.holds Try.pinned (OpenSpec.ofChange fnMazeSpec)

/-- ITS FALSE NEIGHBOUR: 'it returns false'. Refute it at one input. -/
def fnMazeWrong : ChangeSpec := { name := "fnMaze", fn := fun _ => fun
  | [d1, d2] => { results := [.lit (.bool false)], args := [d1, d2] }
  | _ => none }
def FnMazeWrongFalsely : Prop := fnMazeRow.holds Try.pinned (OpenSpec.ofChange fnMazeWrong)

/-- 'laws.FnTDeletes': WHATEVER THE INPUT: true; the input reads as it did. -/
def fnTDeletesSpec : ChangeSpec := { name := "fnTDeletes", fn := fun _ => fun
  | [d1, d2] => { results := [.lit (.bool true)], args := [d1, d2] }
  | _ => none }
def fnTDeletesRow : OpenClaim := { program := "ytceildcbehaoaaa", sum := "4cd5f9322433e224238c94ad1cfda39793691304e89c80caa23649c5d4eb90a1", func := "pub-windbreak/laws.FnTDeletes", spec := "fnTDeletes", unfollowed := true, recurses := true, apart := false }
def FnTDeletesSaid : Prop := fnTDeletesRow.holds Try.pinned (OpenSpec.ofChange fnTDeletesSpec)

/-- ITS FALSE NEIGHBOUR: 'it returns false'. Refute it at one input. -/
def fnTDeletesWrong : ChangeSpec := { name := "fnTDeletes", fn := fun _ => fun
  | [d1, d2] => { results := [.lit (.bool false)], args := [d1, d2] }
  | _ => none }
def FnTDeletesWrongFalsely : Prop := fnTDeletesRow.holds Try.pinned (OpenSpec.ofChange fnTDeletesWrong)

/-- 'laws.FnExactTDelete': WHATEVER THE INPUT: true; the input reads as it did. -/
def fnExactTDeleteSpec : ChangeSpec := { name := "fnExactTDelete", fn := fun _ => fun
  | [d1, d2] => { results := [.lit (.bool true)], args := [d1, d2] }
  | _ => none }
def fnExactTDeleteRow : OpenClaim := { program := "ytceildcbehaoaaa", sum := "4cd5f9322433e224238c94ad1cfda39793691304e89c80caa23649c5d4eb90a1", func := "pub-windbreak/laws.FnExactTDelete", spec := "fnExactTDelete", unfollowed := true, recurses := true, apart := false }
def FnExactTDeleteSaid : Prop := fnExactTDeleteRow.holds Try.pinned (OpenSpec.ofChange fnExactTDeleteSpec)

/-- ITS FALSE NEIGHBOUR: 'it returns false'. Refute it at one input. -/
def fnExactTDeleteWrong : ChangeSpec := { name := "fnExactTDelete", fn := fun _ => fun
  | [d1, d2] => { results := [.lit (.bool false)], args := [d1, d2] }
  | _ => none }
def FnExactTDeleteWrongFalsely : Prop := fnExactTDeleteRow.holds Try.pinned (OpenSpec.ofChange fnExactTDeleteWrong)

/-- 'laws.FnExactSCursors': WHATEVER THE INPUT: true; the input reads as it did. -/
def fnExactSCursorsSpec : ChangeSpec := { name := "fnExactSCursors", fn := fun _ => fun
  | [d1, d2] => { results := [.lit (.bool true)], args := [d1, d2] }
  | _ => none }
def fnExactSCursorsRow : OpenClaim := { program := "ytceildcbehaoaaa", sum := "4cd5f9322433e224238c94ad1cfda39793691304e89c80caa23649c5d4eb90a1", func := "pub-windbreak/laws.FnExactSCursors", spec := "fnExactSCursors", unfollowed := true, recurses := true, apart := false }
def FnExactSCursorsSaid : Prop := fnExactSCursorsRow.holds Try.pinned (OpenSpec.ofChange fnExactSCursorsSpec)

/-- ITS FALSE NEIGHBOUR: 'it returns false'. Refute it at one input. -/
def fnExactSCursorsWrong : ChangeSpec := { name := "fnExactSCursors", fn := fun _ => fun
  | [d1, d2] => { results := [.lit (.bool false)], args := [d1, d2] }
  | _ => none }
def FnExactSCursorsWrongFalsely : Prop := fnExactSCursorsRow.holds Try.pinned (OpenSpec.ofChange fnExactSCursorsWrong)

/-- 'laws.FnExactTIter': WHATEVER THE INPUT: true; the input reads as it did. -/
def fnExactTIterSpec : ChangeSpec := { name := "fnExactTIter", fn := fun _ => fun
  | [d1, d2] => { results := [.lit (.bool true)], args := [d1, d2] }
  | _ => none }
def fnExactTIterRow : OpenClaim := { program := "ytceildcbehaoaaa", sum := "4cd5f9322433e224238c94ad1cfda39793691304e89c80caa23649c5d4eb90a1", func := "pub-windbreak/laws.FnExactTIter", spec := "fnExactTIter", unfollowed := true, recurses := true, apart := false }
def FnExactTIterSaid : Prop := fnExactTIterRow.holds Try.pinned (OpenSpec.ofChange fnExactTIterSpec)

/-- ITS FALSE NEIGHBOUR: 'it returns false'. Refute it at one input. -/
def fnExactTIterWrong : ChangeSpec := { name := "fnExactTIter", fn := fun _ => fun
  | [d1, d2] => { results := [.lit (.bool false)], args := [d1, d2] }
  | _ => none }
def FnExactTIterWrongFalsely : Prop := fnExactTIterRow.holds Try.pinned (OpenSpec.ofChange fnExactTIterWrong)

/- THE SECOND FORM. 'bulk': how many values and letters a reading holds, each counted each time it is reached (what is shared counts as often as it is met; a slice's spare places count too). A statement '..UptoSaid' is the law's where the arguments, and the package variables that the reading takes, are together of bulk at most 1048576: NARROWER than '..Said'. Prove '..Said' where nothing that the law and all that it calls make is longer than what came in: it says more and counts as full. Else prove '..UptoSaid'. A law counts once. -/
mutual
def uptoBulk {H : Type} : DataW H → Nat
  | .lit (.string bytes) => bytes.length + 1
  | .lit _ => 1
  | .nil => 1
  | .ptr d => uptoBulk d + 1
  | .slice elems spare => uptoBulkAll elems + uptoBulkAll spare + 1
  | .agg parts => uptoBulkAll parts + 1
  | .iface _ d => uptoBulk d + 1
  | .map entries => uptoBulkEntries entries + 1
  | .held _ => 1
def uptoBulkAll {H : Type} : List (DataW H) → Nat
  | [] => 0
  | d :: r => uptoBulk d + uptoBulkAll r
def uptoBulkEntries {H : Type} : List (Lit × DataW H) → Nat
  | [] => 0
  | x :: r => uptoBulkEntry x + uptoBulkEntries r
def uptoBulkEntry {H : Type} : Lit × DataW H → Nat
  | (.string bytes, d) => bytes.length + uptoBulk d + 1
  | (_, d) => uptoBulk d + 1
 end
def uptoSmall : (H : Type) → List (DataW H) → Bool := fun _ ds => decide (uptoBulkAll ds ≤ 1048576)
def OpenSpec.upto (s : _root_.Go.ChangeSpec) : _root_.Go.OpenSpec := { _root_.Go.OpenSpec.ofChange s with cond := some uptoSmall }

/-- 'laws.FnTNumbers', WHERE WHAT IT READS IS OF BULK AT MOST 1048576: true; the input reads as it did. -/
def fnTNumbersUptoRow : OpenClaim := { program := "ytceildcbehaoaaa", sum := "4cd5f9322433e224238c94ad1cfda39793691304e89c80caa23649c5d4eb90a1", func := "pub-windbreak/laws.FnTNumbers", spec := "fnTNumbers", unfollowed := true, recurses := true, apart := false, narrowed := true }
def FnTNumbersUptoSaid : Prop := fnTNumbersUptoRow.holds Try.pinned (OpenSpec.upto fnTNumbersSpec)

/-- 'laws.FnExactTInsert', WHERE WHAT IT READS IS OF BULK AT MOST 1048576: true; the input reads as it did. -/
def fnExactTInsertUptoRow : OpenClaim := { program := "ytceildcbehaoaaa", sum := "4cd5f9322433e224238c94ad1cfda39793691304e89c80caa23649c5d4eb90a1", func := "pub-windbreak/laws.FnExactTInsert", spec := "fnExactTInsert", unfollowed := true, recurses := true, apart := false, narrowed := true }
def FnExactTInsertUptoSaid : Prop := fnExactTInsertUptoRow.holds Try.pinned (OpenSpec.upto fnExactTInsertSpec)

/-- 'laws.FnTOrders', WHERE WHAT IT READS IS OF BULK AT MOST 1048576: true; the input reads as it did. -/
def fnTOrdersUptoRow : OpenClaim := { program := "ytceildcbehaoaaa", sum := "4cd5f9322433e224238c94ad1cfda39793691304e89c80caa23649c5d4eb90a1", func := "pub-windbreak/laws.FnTOrders", spec := "fnTOrders", unfollowed := true, recurses := true, apart := false, narrowed := true }
def FnTOrdersUptoSaid : Prop := fnTOrdersUptoRow.holds Try.pinned (OpenSpec.upto fnTOrdersSpec)

/-- 'laws.FnTBeginnings', WHERE WHAT IT READS IS OF BULK AT MOST 1048576: true; the input reads as it did. -/
def fnTBeginningsUptoRow : OpenClaim := { program := "ytceildcbehaoaaa", sum := "4cd5f9322433e224238c94ad1cfda39793691304e89c80caa23649c5d4eb90a1", func := "pub-windbreak/laws.FnTBeginnings", spec := "fnTBeginnings", unfollowed := true, recurses := true, apart := false, narrowed := true }
def FnTBeginningsUptoSaid : Prop := fnTBeginningsUptoRow.holds Try.pinned (OpenSpec.upto fnTBeginningsSpec)

/-- 'laws.FnMaze', WHERE WHAT IT READS IS OF BULK AT MOST 1048576: true; the input reads as it did. -/
def fnMazeUptoRow : OpenClaim := { program := "ytceildcbehaoaaa", sum := "4cd5f9322433e224238c94ad1cfda39793691304e89c80caa23649c5d4eb90a1", func := "pub-windbreak/laws.FnMaze", spec := "fnMaze", unfollowed := true, recurses := true, apart := false, narrowed := true }
def FnMazeUptoSaid : Prop := fnMazeUptoRow.holds Try.pinned (OpenSpec.upto fnMazeSpec)

/-- 'laws.FnTDeletes', WHERE WHAT IT READS IS OF BULK AT MOST 1048576: true; the input reads as it did. -/
def fnTDeletesUptoRow : OpenClaim := { program := "ytceildcbehaoaaa", sum := "4cd5f9322433e224238c94ad1cfda39793691304e89c80caa23649c5d4eb90a1", func := "pub-windbreak/laws.FnTDeletes", spec := "fnTDeletes", unfollowed := true, recurses := true, apart := false, narrowed := true }
def FnTDeletesUptoSaid : Prop := fnTDeletesUptoRow.holds Try.pinned (OpenSpec.upto fnTDeletesSpec)

/-- 'laws.FnExactTDelete', WHERE WHAT IT READS IS OF BULK AT MOST 1048576: true; the input reads as it did. -/
def fnExactTDeleteUptoRow : OpenClaim := { program := "ytceildcbehaoaaa", sum := "4cd5f9322433e224238c94ad1cfda39793691304e89c80caa23649c5d4eb90a1", func := "pub-windbreak/laws.FnExactTDelete", spec := "fnExactTDelete", unfollowed := true, recurses := true, apart := false, narrowed := true }
def FnExactTDeleteUptoSaid : Prop := fnExactTDeleteUptoRow.holds Try.pinned (OpenSpec.upto fnExactTDeleteSpec)

/-- 'laws.FnExactSCursors', WHERE WHAT IT READS IS OF BULK AT MOST 1048576: true; the input reads as it did. -/
def fnExactSCursorsUptoRow : OpenClaim := { program := "ytceildcbehaoaaa", sum := "4cd5f9322433e224238c94ad1cfda39793691304e89c80caa23649c5d4eb90a1", func := "pub-windbreak/laws.FnExactSCursors", spec := "fnExactSCursors", unfollowed := true, recurses := true, apart := false, narrowed := true }
def FnExactSCursorsUptoSaid : Prop := fnExactSCursorsUptoRow.holds Try.pinned (OpenSpec.upto fnExactSCursorsSpec)

/-- 'laws.FnExactTIter', WHERE WHAT IT READS IS OF BULK AT MOST 1048576: true; the input reads as it did. -/
def fnExactTIterUptoRow : OpenClaim := { program := "ytceildcbehaoaaa", sum := "4cd5f9322433e224238c94ad1cfda39793691304e89c80caa23649c5d4eb90a1", func := "pub-windbreak/laws.FnExactTIter", spec := "fnExactTIter", unfollowed := true, recurses := true, apart := false, narrowed := true }
def FnExactTIterUptoSaid : Prop := fnExactTIterUptoRow.holds Try.pinned (OpenSpec.upto fnExactTIterSpec)

end Rows
end Go.Proofs.Ytceildcbehaoaaa
