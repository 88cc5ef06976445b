/-
  NARROWER THAN 'FOR EVERY INPUT', by the rows' own cells (each row's printed sentence says how): FnDKeyValues: loops · FnDGet: loops · FnDRebalance: loops · FnDSetLocal: loops · FnDSet: loops · FnDPop: loops.
  DERIVED. THE GIVEN ROWS OF THIS SEAT. 8 by the template 'for every input the law returns true; each argument reads behind the call as it read before'; 0 by the template 'total and deterministic' (their statements: YtehnobbiiokcgaaTotals.lean).
  GIVEN WITH THE SEED: the statements are not yours to turn. If you find one false, say at which input.
  Laid BY PROGRAM, IN A SANDBOX (cutbox-rows.mjs): the forced cells as the released guide's own fill.sh prints them over the translation 07cbf3bd37fb0d60… (all of the seat's roots in one cut). By AI agents, Wed Nov 11 2026. No macro, syntax, notation, axiom, sorry.
-/
import Derived.Test.YtehnobbiiokcgaaChecked
import GoSem.Claim
import GoSem.ClaimJoined
import GoSem.ClaimMapViews
import Derived.JoinedTies
import Derived.KernelRfl
namespace Go.Proofs.Ytehnobbiiokcgaa
/- THE CELL 'sum', in the pinned program and in every row, IS THE sha256 OF THE DUMP (.gsa) THAT YtehnobbiiokcgaaProg.lean LOADS. Nothing in Lean hashes anything: it is a label: what it is worth is what the hold of that sum in a sandbox is worth. -/
noncomputable def Try.pinned : Pinned := { name := "ytehnobbiiokcgaa", sum := "07cbf3bd37fb0d6062a24ba9717e202cbd7b6bd07861bc3860f36888e0fb13d5", checked := Try.checked }
namespace Rows
def none {H : Type} : Left H := { results := [], args := [] }

/-- 'laws.FnDKeyValues': WHATEVER THE INPUT: true; the input reads as it did. -/
def fnDKeyValuesSpec : ChangeSpec := { name := "fnDKeyValues", fn := fun _ => fun
  | [d1, d2] => { results := [.lit (.bool true)], args := [d1, d2] }
  | _ => none }
def fnDKeyValuesRow : OpenClaim := { program := "ytehnobbiiokcgaa", sum := "07cbf3bd37fb0d6062a24ba9717e202cbd7b6bd07861bc3860f36888e0fb13d5", func := "pub-windbreak/laws.FnDKeyValues", spec := "fnDKeyValues", unfollowed := true, recurses := true, loops := true, apart := false }
def FnDKeyValuesSaid : Prop := fnDKeyValuesRow.holds Try.pinned (OpenSpec.ofChange fnDKeyValuesSpec)

/-- ITS FALSE NEIGHBOUR: 'it returns false'. Refute it at one input. -/
def fnDKeyValuesWrong : ChangeSpec := { name := "fnDKeyValues", fn := fun _ => fun
  | [d1, d2] => { results := [.lit (.bool false)], args := [d1, d2] }
  | _ => none }
def FnDKeyValuesWrongFalsely : Prop := fnDKeyValuesRow.holds Try.pinned (OpenSpec.ofChange fnDKeyValuesWrong)

/-- 'laws.FnDGet': WHATEVER THE INPUT: true; the input reads as it did. -/
def fnDGetSpec : ChangeSpec := { name := "fnDGet", fn := fun _ => fun
  | [d1, d2, d3] => { results := [.lit (.bool true)], args := [d1, d2, d3] }
  | _ => none }
def fnDGetRow : OpenClaim := { program := "ytehnobbiiokcgaa", sum := "07cbf3bd37fb0d6062a24ba9717e202cbd7b6bd07861bc3860f36888e0fb13d5", func := "pub-windbreak/laws.FnDGet", spec := "fnDGet", unfollowed := true, recurses := true, loops := true, apart := false }
def FnDGetSaid : Prop := fnDGetRow.holds Try.pinned (OpenSpec.ofChange fnDGetSpec)

/-- ITS FALSE NEIGHBOUR: 'it returns false'. Refute it at one input. -/
def fnDGetWrong : ChangeSpec := { name := "fnDGet", fn := fun _ => fun
  | [d1, d2, d3] => { results := [.lit (.bool false)], args := [d1, d2, d3] }
  | _ => none }
def FnDGetWrongFalsely : Prop := fnDGetRow.holds Try.pinned (OpenSpec.ofChange fnDGetWrong)

/-- 'laws.FnDRebalance': WHATEVER THE INPUT: true; the input reads as it did. -/
def fnDRebalanceSpec : ChangeSpec := { name := "fnDRebalance", fn := fun _ => fun
  | [d1, d2, d3] => { results := [.lit (.bool true)], args := [d1, d2, d3] }
  | _ => none }
def fnDRebalanceRow : OpenClaim := { program := "ytehnobbiiokcgaa", sum := "07cbf3bd37fb0d6062a24ba9717e202cbd7b6bd07861bc3860f36888e0fb13d5", func := "pub-windbreak/laws.FnDRebalance", spec := "fnDRebalance", unfollowed := true, recurses := true, loops := true, apart := false }
def FnDRebalanceSaid : Prop := fnDRebalanceRow.holds Try.pinned (OpenSpec.ofChange fnDRebalanceSpec)

/-- ITS FALSE NEIGHBOUR: 'it returns false'. Refute it at one input. -/
def fnDRebalanceWrong : ChangeSpec := { name := "fnDRebalance", fn := fun _ => fun
  | [d1, d2, d3] => { results := [.lit (.bool false)], args := [d1, d2, d3] }
  | _ => none }
def FnDRebalanceWrongFalsely : Prop := fnDRebalanceRow.holds Try.pinned (OpenSpec.ofChange fnDRebalanceWrong)

/-- 'laws.FnDSetLocal': WHATEVER THE INPUT: true; the input reads as it did. -/
def fnDSetLocalSpec : ChangeSpec := { name := "fnDSetLocal", fn := fun _ => fun
  | [d1, d2, d3] => { results := [.lit (.bool true)], args := [d1, d2, d3] }
  | _ => none }
def fnDSetLocalRow : OpenClaim := { program := "ytehnobbiiokcgaa", sum := "07cbf3bd37fb0d6062a24ba9717e202cbd7b6bd07861bc3860f36888e0fb13d5", func := "pub-windbreak/laws.FnDSetLocal", spec := "fnDSetLocal", unfollowed := true, recurses := true, loops := true, apart := false }
def FnDSetLocalSaid : Prop := fnDSetLocalRow.holds Try.pinned (OpenSpec.ofChange fnDSetLocalSpec)

/-- ITS FALSE NEIGHBOUR: 'it returns false'. Refute it at one input. -/
def fnDSetLocalWrong : ChangeSpec := { name := "fnDSetLocal", fn := fun _ => fun
  | [d1, d2, d3] => { results := [.lit (.bool false)], args := [d1, d2, d3] }
  | _ => none }
def FnDSetLocalWrongFalsely : Prop := fnDSetLocalRow.holds Try.pinned (OpenSpec.ofChange fnDSetLocalWrong)

/-- 'laws.FnDSet': WHATEVER THE INPUT: true; the input reads as it did. -/
def fnDSetSpec : ChangeSpec := { name := "fnDSet", fn := fun _ => fun
  | [d1, d2, d3] => { results := [.lit (.bool true)], args := [d1, d2, d3] }
  | _ => none }
def fnDSetRow : OpenClaim := { program := "ytehnobbiiokcgaa", sum := "07cbf3bd37fb0d6062a24ba9717e202cbd7b6bd07861bc3860f36888e0fb13d5", func := "pub-windbreak/laws.FnDSet", spec := "fnDSet", unfollowed := true, recurses := true, loops := true, apart := false }
def FnDSetSaid : Prop := fnDSetRow.holds Try.pinned (OpenSpec.ofChange fnDSetSpec)

/-- ITS FALSE NEIGHBOUR: 'it returns false'. Refute it at one input. -/
def fnDSetWrong : ChangeSpec := { name := "fnDSet", fn := fun _ => fun
  | [d1, d2, d3] => { results := [.lit (.bool false)], args := [d1, d2, d3] }
  | _ => none }
def FnDSetWrongFalsely : Prop := fnDSetRow.holds Try.pinned (OpenSpec.ofChange fnDSetWrong)

/-- 'laws.FnDPop': WHATEVER THE INPUT: true; the input reads as it did. -/
def fnDPopSpec : ChangeSpec := { name := "fnDPop", fn := fun _ => fun
  | [d1, d2, d3] => { results := [.lit (.bool true)], args := [d1, d2, d3] }
  | _ => none }
def fnDPopRow : OpenClaim := { program := "ytehnobbiiokcgaa", sum := "07cbf3bd37fb0d6062a24ba9717e202cbd7b6bd07861bc3860f36888e0fb13d5", func := "pub-windbreak/laws.FnDPop", spec := "fnDPop", unfollowed := true, recurses := true, loops := true, apart := false }
def FnDPopSaid : Prop := fnDPopRow.holds Try.pinned (OpenSpec.ofChange fnDPopSpec)

/-- ITS FALSE NEIGHBOUR: 'it returns false'. Refute it at one input. -/
def fnDPopWrong : ChangeSpec := { name := "fnDPop", fn := fun _ => fun
  | [d1, d2, d3] => { results := [.lit (.bool false)], args := [d1, d2, d3] }
  | _ => none }
def FnDPopWrongFalsely : Prop := fnDPopRow.holds Try.pinned (OpenSpec.ofChange fnDPopWrong)

/-- 'laws.FnBookings': WHATEVER THE INPUT: true; the input reads as it did. -/
def fnBookingsSpec : ChangeSpec := { name := "fnBookings", fn := fun _ => fun
  | [d1, d2] => { results := [.lit (.bool true)], args := [d1, d2] }
  | _ => none }
def fnBookingsRow : OpenClaim := { program := "ytehnobbiiokcgaa", sum := "07cbf3bd37fb0d6062a24ba9717e202cbd7b6bd07861bc3860f36888e0fb13d5", func := "pub-windbreak/laws.FnBookings", spec := "fnBookings", unfollowed := true, recurses := true, apart := false }
def FnBookingsSaid : Prop := fnBookingsRow.holds Try.pinned (OpenSpec.ofChange fnBookingsSpec)

/-- ITS FALSE NEIGHBOUR: 'it returns false'. Refute it at one input. -/
def fnBookingsWrong : ChangeSpec := { name := "fnBookings", fn := fun _ => fun
  | [d1, d2] => { results := [.lit (.bool false)], args := [d1, d2] }
  | _ => none }
def FnBookingsWrongFalsely : Prop := fnBookingsRow.holds Try.pinned (OpenSpec.ofChange fnBookingsWrong)

/-- 'laws.FnPaint': WHATEVER THE INPUT: true; the input reads as it did. -/
def fnPaintSpec : ChangeSpec := { name := "fnPaint", fn := fun _ => fun
  | [d1, d2] => { results := [.lit (.bool true)], args := [d1, d2] }
  | _ => none }
def fnPaintRow : OpenClaim := { program := "ytehnobbiiokcgaa", sum := "07cbf3bd37fb0d6062a24ba9717e202cbd7b6bd07861bc3860f36888e0fb13d5", func := "pub-windbreak/laws.FnPaint", spec := "fnPaint", unfollowed := true, recurses := true, apart := false }
def FnPaintSaid : Prop := fnPaintRow.holds Try.pinned (OpenSpec.ofChange fnPaintSpec)

/-- ITS FALSE NEIGHBOUR: 'it returns false'. Refute it at one input. -/
def fnPaintWrong : ChangeSpec := { name := "fnPaint", fn := fun _ => fun
  | [d1, d2] => { results := [.lit (.bool false)], args := [d1, d2] }
  | _ => none }
def FnPaintWrongFalsely : Prop := fnPaintRow.holds Try.pinned (OpenSpec.ofChange fnPaintWrong)

/- THE SECOND FORM. 'bulk': how many values and letters a reading holds, each counted each time it is reached (what is shared counts as often as it is met; a slice's spare places count too). A statement '..UptoSaid' is the law's where the arguments, and the package variables that the reading takes, are together of bulk at most 1048576: NARROWER than '..Said'. Prove '..Said' where nothing that the law and all that it calls make is longer than what came in: it says more and counts as full. Else prove '..UptoSaid'. A law counts once. -/
mutual
def uptoBulk {H : Type} : DataW H → Nat
  | .lit (.string bytes) => bytes.length + 1
  | .lit _ => 1
  | .nil => 1
  | .ptr d => uptoBulk d + 1
  | .slice elems spare => uptoBulkAll elems + uptoBulkAll spare + 1
  | .agg parts => uptoBulkAll parts + 1
  | .iface _ d => uptoBulk d + 1
  | .map entries => uptoBulkEntries entries + 1
  | .held _ => 1
def uptoBulkAll {H : Type} : List (DataW H) → Nat
  | [] => 0
  | d :: r => uptoBulk d + uptoBulkAll r
def uptoBulkEntries {H : Type} : List (Lit × DataW H) → Nat
  | [] => 0
  | x :: r => uptoBulkEntry x + uptoBulkEntries r
def uptoBulkEntry {H : Type} : Lit × DataW H → Nat
  | (.string bytes, d) => bytes.length + uptoBulk d + 1
  | (_, d) => uptoBulk d + 1
 end
def uptoSmall : (H : Type) → List (DataW H) → Bool := fun _ ds => decide (uptoBulkAll ds ≤ 1048576)
def OpenSpec.upto (s : _root_.Go.ChangeSpec) : _root_.Go.OpenSpec := { _root_.Go.OpenSpec.ofChange s with cond := some uptoSmall }

/-- 'laws.FnDKeyValues', WHERE WHAT IT READS IS OF BULK AT MOST 1048576: true; the input reads as it did. -/
def fnDKeyValuesUptoRow : OpenClaim := { program := "ytehnobbiiokcgaa", sum := "07cbf3bd37fb0d6062a24ba9717e202cbd7b6bd07861bc3860f36888e0fb13d5", func := "pub-windbreak/laws.FnDKeyValues", spec := "fnDKeyValues", unfollowed := true, recurses := true, loops := true, apart := false, narrowed := true }
def FnDKeyValuesUptoSaid : Prop := fnDKeyValuesUptoRow.holds Try.pinned (OpenSpec.upto fnDKeyValuesSpec)

/-- 'laws.FnDGet', WHERE WHAT IT READS IS OF BULK AT MOST 1048576: true; the input reads as it did. -/
def fnDGetUptoRow : OpenClaim := { program := "ytehnobbiiokcgaa", sum := "07cbf3bd37fb0d6062a24ba9717e202cbd7b6bd07861bc3860f36888e0fb13d5", func := "pub-windbreak/laws.FnDGet", spec := "fnDGet", unfollowed := true, recurses := true, loops := true, apart := false, narrowed := true }
def FnDGetUptoSaid : Prop := fnDGetUptoRow.holds Try.pinned (OpenSpec.upto fnDGetSpec)

/-- 'laws.FnDRebalance', WHERE WHAT IT READS IS OF BULK AT MOST 1048576: true; the input reads as it did. -/
def fnDRebalanceUptoRow : OpenClaim := { program := "ytehnobbiiokcgaa", sum := "07cbf3bd37fb0d6062a24ba9717e202cbd7b6bd07861bc3860f36888e0fb13d5", func := "pub-windbreak/laws.FnDRebalance", spec := "fnDRebalance", unfollowed := true, recurses := true, loops := true, apart := false, narrowed := true }
def FnDRebalanceUptoSaid : Prop := fnDRebalanceUptoRow.holds Try.pinned (OpenSpec.upto fnDRebalanceSpec)

/-- 'laws.FnDSetLocal', WHERE WHAT IT READS IS OF BULK AT MOST 1048576: true; the input reads as it did. -/
def fnDSetLocalUptoRow : OpenClaim := { program := "ytehnobbiiokcgaa", sum := "07cbf3bd37fb0d6062a24ba9717e202cbd7b6bd07861bc3860f36888e0fb13d5", func := "pub-windbreak/laws.FnDSetLocal", spec := "fnDSetLocal", unfollowed := true, recurses := true, loops := true, apart := false, narrowed := true }
def FnDSetLocalUptoSaid : Prop := fnDSetLocalUptoRow.holds Try.pinned (OpenSpec.upto fnDSetLocalSpec)

/-- 'laws.FnDSet', WHERE WHAT IT READS IS OF BULK AT MOST 1048576: true; the input reads as it did. -/
def fnDSetUptoRow : OpenClaim := { program := "ytehnobbiiokcgaa", sum := "07cbf3bd37fb0d6062a24ba9717e202cbd7b6bd07861bc3860f36888e0fb13d5", func := "pub-windbreak/laws.FnDSet", spec := "fnDSet", unfollowed := true, recurses := true, loops := true, apart := false, narrowed := true }
def FnDSetUptoSaid : Prop := fnDSetUptoRow.holds Try.pinned (OpenSpec.upto fnDSetSpec)

/-- 'laws.FnDPop', WHERE WHAT IT READS IS OF BULK AT MOST 1048576: true; the input reads as it did. -/
def fnDPopUptoRow : OpenClaim := { program := "ytehnobbiiokcgaa", sum := "07cbf3bd37fb0d6062a24ba9717e202cbd7b6bd07861bc3860f36888e0fb13d5", func := "pub-windbreak/laws.FnDPop", spec := "fnDPop", unfollowed := true, recurses := true, loops := true, apart := false, narrowed := true }
def FnDPopUptoSaid : Prop := fnDPopUptoRow.holds Try.pinned (OpenSpec.upto fnDPopSpec)

/-- 'laws.FnBookings', WHERE WHAT IT READS IS OF BULK AT MOST 1048576: true; the input reads as it did. -/
def fnBookingsUptoRow : OpenClaim := { program := "ytehnobbiiokcgaa", sum := "07cbf3bd37fb0d6062a24ba9717e202cbd7b6bd07861bc3860f36888e0fb13d5", func := "pub-windbreak/laws.FnBookings", spec := "fnBookings", unfollowed := true, recurses := true, apart := false, narrowed := true }
def FnBookingsUptoSaid : Prop := fnBookingsUptoRow.holds Try.pinned (OpenSpec.upto fnBookingsSpec)

/-- 'laws.FnPaint', WHERE WHAT IT READS IS OF BULK AT MOST 1048576: true; the input reads as it did. -/
def fnPaintUptoRow : OpenClaim := { program := "ytehnobbiiokcgaa", sum := "07cbf3bd37fb0d6062a24ba9717e202cbd7b6bd07861bc3860f36888e0fb13d5", func := "pub-windbreak/laws.FnPaint", spec := "fnPaint", unfollowed := true, recurses := true, apart := false, narrowed := true }
def FnPaintUptoSaid : Prop := fnPaintUptoRow.holds Try.pinned (OpenSpec.upto fnPaintSpec)

end Rows
end Go.Proofs.Ytehnobbiiokcgaa
