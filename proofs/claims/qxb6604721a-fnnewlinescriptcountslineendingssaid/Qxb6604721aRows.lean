/-
  No cell of these rows narrows 'for every input' (looked for: loops, veiled, ifaces, maps, wideKeys, modest, calm, conditions, laid).
  DERIVED. THE GIVEN ROWS OF THIS SEAT. 4 by the template 'for every input the law returns true; each argument reads behind the call as it read before'; 0 by the template 'total and deterministic' (their statements: Qxb6604721aTotals.lean).
  GIVEN WITH THE SEED: the statements are not yours to turn. If you find one false, say at which input.
  Laid BY PROGRAM, IN A SANDBOX (cutbox-rows.mjs): the forced cells as the released guide's own fill.sh prints them over the translation 4ca1362162aa5d1a… (all of the seat's roots in one cut). By AI agents, Wed Nov 11 2026. No macro, syntax, notation, axiom, sorry.
-/
import Derived.Test.Qxb6604721aChecked
import GoSem.Claim
import GoSem.ClaimJoined
import GoSem.ClaimMapViews
import Derived.JoinedTies
import Derived.KernelRfl
namespace Go.Proofs.Qxb6604721a
/- THE CELL 'sum', in the pinned program and in every row, IS THE sha256 OF THE DUMP (.gsa) THAT Qxb6604721aProg.lean LOADS. Nothing in Lean hashes anything: it is a label: what it is worth is what the hold of that sum in a sandbox is worth. -/
noncomputable def Try.pinned : Pinned := { name := "qxb6604721a", sum := "4ca1362162aa5d1a0ba03633b961488e723263028f4cbc95c2628bfa85248bc9", checked := Try.checked }
namespace Rows
def none {H : Type} : Left H := { results := [], args := [] }

/-- 'zzlaws_internal_tomltree_b1.FnSpanBitsTextRoundTrip': WHATEVER THE INPUT: true; the input reads as it did. -/
def fnSpanBitsTextRoundTripSpec : ChangeSpec := { name := "fnSpanBitsTextRoundTrip", fn := fun _ => fun
  | [d1, d2] => { results := [.lit (.bool true)], args := [d1, d2] }
  | _ => none }
def fnSpanBitsTextRoundTripRow : OpenClaim := { program := "qxb6604721a", sum := "4ca1362162aa5d1a0ba03633b961488e723263028f4cbc95c2628bfa85248bc9", func := "example.com/vestledger/vestledger/zzlaws_internal_tomltree_b1.FnSpanBitsTextRoundTrip", spec := "fnSpanBitsTextRoundTrip", apart := false }
def FnSpanBitsTextRoundTripSaid : Prop := fnSpanBitsTextRoundTripRow.holds Try.pinned (OpenSpec.ofChange fnSpanBitsTextRoundTripSpec)

/-- ITS FALSE NEIGHBOUR: 'it returns false'. Refute it at one input. -/
def fnSpanBitsTextRoundTripWrong : ChangeSpec := { name := "fnSpanBitsTextRoundTrip", fn := fun _ => fun
  | [d1, d2] => { results := [.lit (.bool false)], args := [d1, d2] }
  | _ => none }
def FnSpanBitsTextRoundTripWrongFalsely : Prop := fnSpanBitsTextRoundTripRow.holds Try.pinned (OpenSpec.ofChange fnSpanBitsTextRoundTripWrong)

/-- 'zzlaws_internal_tomltree_b1.FnSpanBitsCoverEveryWord': WHATEVER THE INPUT: true; the input reads as it did. -/
def fnSpanBitsCoverEveryWordSpec : ChangeSpec := { name := "fnSpanBitsCoverEveryWord", fn := fun _ => fun
  | [d] => { results := [.lit (.bool true)], args := [d] }
  | _ => none }
def fnSpanBitsCoverEveryWordRow : OpenClaim := { program := "qxb6604721a", sum := "4ca1362162aa5d1a0ba03633b961488e723263028f4cbc95c2628bfa85248bc9", func := "example.com/vestledger/vestledger/zzlaws_internal_tomltree_b1.FnSpanBitsCoverEveryWord", spec := "fnSpanBitsCoverEveryWord", apart := false }
def FnSpanBitsCoverEveryWordSaid : Prop := fnSpanBitsCoverEveryWordRow.holds Try.pinned (OpenSpec.ofChange fnSpanBitsCoverEveryWordSpec)

/-- ITS FALSE NEIGHBOUR: 'it returns false'. Refute it at one input. -/
def fnSpanBitsCoverEveryWordWrong : ChangeSpec := { name := "fnSpanBitsCoverEveryWord", fn := fun _ => fun
  | [d] => { results := [.lit (.bool false)], args := [d] }
  | _ => none }
def FnSpanBitsCoverEveryWordWrongFalsely : Prop := fnSpanBitsCoverEveryWordRow.holds Try.pinned (OpenSpec.ofChange fnSpanBitsCoverEveryWordWrong)

/-- 'zzlaws_internal_tomltree_b1.FnNewlineTakesLineEndingUpToFirstLineFeed': WHATEVER THE INPUT: true; the input reads as it did. -/
def fnNewlineTakesLineEndingUpToFirstLineFeedSpec : ChangeSpec := { name := "fnNewlineTakesLineEndingUpToFirstLineFeed", fn := fun _ => fun
  | [d1, d2] => { results := [.lit (.bool true)], args := [d1, d2] }
  | _ => none }
def fnNewlineTakesLineEndingUpToFirstLineFeedRow : OpenClaim := { program := "qxb6604721a", sum := "4ca1362162aa5d1a0ba03633b961488e723263028f4cbc95c2628bfa85248bc9", func := "example.com/vestledger/vestledger/zzlaws_internal_tomltree_b1.FnNewlineTakesLineEndingUpToFirstLineFeed", spec := "fnNewlineTakesLineEndingUpToFirstLineFeed", apart := false }
def FnNewlineTakesLineEndingUpToFirstLineFeedSaid : Prop := fnNewlineTakesLineEndingUpToFirstLineFeedRow.holds Try.pinned (OpenSpec.ofChange fnNewlineTakesLineEndingUpToFirstLineFeedSpec)

/-- ITS FALSE NEIGHBOUR: 'it returns false'. Refute it at one input. -/
def fnNewlineTakesLineEndingUpToFirstLineFeedWrong : ChangeSpec := { name := "fnNewlineTakesLineEndingUpToFirstLineFeed", fn := fun _ => fun
  | [d1, d2] => { results := [.lit (.bool false)], args := [d1, d2] }
  | _ => none }
def FnNewlineTakesLineEndingUpToFirstLineFeedWrongFalsely : Prop := fnNewlineTakesLineEndingUpToFirstLineFeedRow.holds Try.pinned (OpenSpec.ofChange fnNewlineTakesLineEndingUpToFirstLineFeedWrong)

/-- 'zzlaws_internal_tomltree_b1.FnNewlineScriptCountsLineEndings': WHATEVER THE INPUT: true; the input reads as it did. -/
def fnNewlineScriptCountsLineEndingsSpec : ChangeSpec := { name := "fnNewlineScriptCountsLineEndings", fn := fun _ => fun
  | [d] => { results := [.lit (.bool true)], args := [d] }
  | _ => none }
def fnNewlineScriptCountsLineEndingsRow : OpenClaim := { program := "qxb6604721a", sum := "4ca1362162aa5d1a0ba03633b961488e723263028f4cbc95c2628bfa85248bc9", func := "example.com/vestledger/vestledger/zzlaws_internal_tomltree_b1.FnNewlineScriptCountsLineEndings", spec := "fnNewlineScriptCountsLineEndings", apart := false }
def FnNewlineScriptCountsLineEndingsSaid : Prop := fnNewlineScriptCountsLineEndingsRow.holds Try.pinned (OpenSpec.ofChange fnNewlineScriptCountsLineEndingsSpec)

/-- ITS FALSE NEIGHBOUR: 'it returns false'. Refute it at one input. -/
def fnNewlineScriptCountsLineEndingsWrong : ChangeSpec := { name := "fnNewlineScriptCountsLineEndings", fn := fun _ => fun
  | [d] => { results := [.lit (.bool false)], args := [d] }
  | _ => none }
def FnNewlineScriptCountsLineEndingsWrongFalsely : Prop := fnNewlineScriptCountsLineEndingsRow.holds Try.pinned (OpenSpec.ofChange fnNewlineScriptCountsLineEndingsWrong)

end Rows
end Go.Proofs.Qxb6604721a
