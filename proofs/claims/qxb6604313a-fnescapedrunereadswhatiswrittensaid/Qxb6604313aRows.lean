/-
  No cell of these rows narrows 'for every input' (looked for: loops, veiled, ifaces, maps, wideKeys, modest, calm, conditions, laid).
  DERIVED. THE GIVEN ROWS OF THIS SEAT. 4 by the template 'for every input the law returns true; each argument reads behind the call as it read before'; 0 by the template 'total and deterministic' (their statements: Qxb6604313aTotals.lean).
  GIVEN WITH THE SEED: the statements are not yours to turn. If you find one false, say at which input.
  Laid BY PROGRAM, IN A SANDBOX (cutbox-rows.mjs): the forced cells as the released guide's own fill.sh prints them over the translation 0d44f4803ba8e402… (all of the seat's roots in one cut). By AI agents, Wed Nov 11 2026. No macro, syntax, notation, axiom, sorry.
-/
import Derived.Test.Qxb6604313aChecked
import GoSem.Claim
import GoSem.ClaimJoined
import GoSem.ClaimMapViews
import Derived.JoinedTies
import Derived.KernelRfl
namespace Go.Proofs.Qxb6604313a
/- THE CELL 'sum', in the pinned program and in every row, IS THE sha256 OF THE DUMP (.gsa) THAT Qxb6604313aProg.lean LOADS. Nothing in Lean hashes anything: it is a label: what it is worth is what the hold of that sum in a sandbox is worth. -/
noncomputable def Try.pinned : Pinned := { name := "qxb6604313a", sum := "0d44f4803ba8e402d14a9a5536483714124b20951541e21f61b9011b5003b168", checked := Try.checked }
namespace Rows
def none {H : Type} : Left H := { results := [], args := [] }

/-- 'zzlaws_jsonvalue_b1.FnEscapedRuneReadsWhatIsWritten': WHATEVER THE INPUT: true; the input reads as it did. -/
def fnEscapedRuneReadsWhatIsWrittenSpec : ChangeSpec := { name := "fnEscapedRuneReadsWhatIsWritten", fn := fun _ => fun
  | [d1, d2, d3] => { results := [.lit (.bool true)], args := [d1, d2, d3] }
  | _ => none }
def fnEscapedRuneReadsWhatIsWrittenRow : OpenClaim := { program := "qxb6604313a", sum := "0d44f4803ba8e402d14a9a5536483714124b20951541e21f61b9011b5003b168", func := "example.com/sandpiper/sandpiper/zzlaws_jsonvalue_b1.FnEscapedRuneReadsWhatIsWritten", spec := "fnEscapedRuneReadsWhatIsWritten", apart := false }
def FnEscapedRuneReadsWhatIsWrittenSaid : Prop := fnEscapedRuneReadsWhatIsWrittenRow.holds Try.pinned (OpenSpec.ofChange fnEscapedRuneReadsWhatIsWrittenSpec)

/-- ITS FALSE NEIGHBOUR: 'it returns false'. Refute it at one input. -/
def fnEscapedRuneReadsWhatIsWrittenWrong : ChangeSpec := { name := "fnEscapedRuneReadsWhatIsWritten", fn := fun _ => fun
  | [d1, d2, d3] => { results := [.lit (.bool false)], args := [d1, d2, d3] }
  | _ => none }
def FnEscapedRuneReadsWhatIsWrittenWrongFalsely : Prop := fnEscapedRuneReadsWhatIsWrittenRow.holds Try.pinned (OpenSpec.ofChange fnEscapedRuneReadsWhatIsWrittenWrong)

/-- 'zzlaws_jsonvalue_b1.FnStringEndMatchesForwardScan': WHATEVER THE INPUT: true; the input reads as it did. -/
def fnStringEndMatchesForwardScanSpec : ChangeSpec := { name := "fnStringEndMatchesForwardScan", fn := fun _ => fun
  | [d1, d2] => { results := [.lit (.bool true)], args := [d1, d2] }
  | _ => none }
def fnStringEndMatchesForwardScanRow : OpenClaim := { program := "qxb6604313a", sum := "0d44f4803ba8e402d14a9a5536483714124b20951541e21f61b9011b5003b168", func := "example.com/sandpiper/sandpiper/zzlaws_jsonvalue_b1.FnStringEndMatchesForwardScan", spec := "fnStringEndMatchesForwardScan", inPlace := ["internal/bytealg.IndexByte"], apart := false }
def FnStringEndMatchesForwardScanSaid : Prop := fnStringEndMatchesForwardScanRow.holds Try.pinned (OpenSpec.ofChange fnStringEndMatchesForwardScanSpec)

/-- ITS FALSE NEIGHBOUR: 'it returns false'. Refute it at one input. -/
def fnStringEndMatchesForwardScanWrong : ChangeSpec := { name := "fnStringEndMatchesForwardScan", fn := fun _ => fun
  | [d1, d2] => { results := [.lit (.bool false)], args := [d1, d2] }
  | _ => none }
def FnStringEndMatchesForwardScanWrongFalsely : Prop := fnStringEndMatchesForwardScanRow.holds Try.pinned (OpenSpec.ofChange fnStringEndMatchesForwardScanWrong)

/-- 'zzlaws_jsonvalue_b1.FnStringEndFindsTheEndOfAQuotedString': WHATEVER THE INPUT: true; the input reads as it did. -/
def fnStringEndFindsTheEndOfAQuotedStringSpec : ChangeSpec := { name := "fnStringEndFindsTheEndOfAQuotedString", fn := fun _ => fun
  | [d1, d2, d3] => { results := [.lit (.bool true)], args := [d1, d2, d3] }
  | _ => none }
def fnStringEndFindsTheEndOfAQuotedStringRow : OpenClaim := { program := "qxb6604313a", sum := "0d44f4803ba8e402d14a9a5536483714124b20951541e21f61b9011b5003b168", func := "example.com/sandpiper/sandpiper/zzlaws_jsonvalue_b1.FnStringEndFindsTheEndOfAQuotedString", spec := "fnStringEndFindsTheEndOfAQuotedString", inPlace := ["internal/bytealg.IndexByte"], apart := false }
def FnStringEndFindsTheEndOfAQuotedStringSaid : Prop := fnStringEndFindsTheEndOfAQuotedStringRow.holds Try.pinned (OpenSpec.ofChange fnStringEndFindsTheEndOfAQuotedStringSpec)

/-- ITS FALSE NEIGHBOUR: 'it returns false'. Refute it at one input. -/
def fnStringEndFindsTheEndOfAQuotedStringWrong : ChangeSpec := { name := "fnStringEndFindsTheEndOfAQuotedString", fn := fun _ => fun
  | [d1, d2, d3] => { results := [.lit (.bool false)], args := [d1, d2, d3] }
  | _ => none }
def FnStringEndFindsTheEndOfAQuotedStringWrongFalsely : Prop := fnStringEndFindsTheEndOfAQuotedStringRow.holds Try.pinned (OpenSpec.ofChange fnStringEndFindsTheEndOfAQuotedStringWrong)

/-- 'zzlaws_jsonvalue_b1.FnStringEndIsBoundedAndIgnoresWhatFollows': WHATEVER THE INPUT: true; the input reads as it did. -/
def fnStringEndIsBoundedAndIgnoresWhatFollowsSpec : ChangeSpec := { name := "fnStringEndIsBoundedAndIgnoresWhatFollows", fn := fun _ => fun
  | [d1, d2] => { results := [.lit (.bool true)], args := [d1, d2] }
  | _ => none }
def fnStringEndIsBoundedAndIgnoresWhatFollowsRow : OpenClaim := { program := "qxb6604313a", sum := "0d44f4803ba8e402d14a9a5536483714124b20951541e21f61b9011b5003b168", func := "example.com/sandpiper/sandpiper/zzlaws_jsonvalue_b1.FnStringEndIsBoundedAndIgnoresWhatFollows", spec := "fnStringEndIsBoundedAndIgnoresWhatFollows", inPlace := ["internal/bytealg.IndexByte"], apart := false }
def FnStringEndIsBoundedAndIgnoresWhatFollowsSaid : Prop := fnStringEndIsBoundedAndIgnoresWhatFollowsRow.holds Try.pinned (OpenSpec.ofChange fnStringEndIsBoundedAndIgnoresWhatFollowsSpec)

/-- ITS FALSE NEIGHBOUR: 'it returns false'. Refute it at one input. -/
def fnStringEndIsBoundedAndIgnoresWhatFollowsWrong : ChangeSpec := { name := "fnStringEndIsBoundedAndIgnoresWhatFollows", fn := fun _ => fun
  | [d1, d2] => { results := [.lit (.bool false)], args := [d1, d2] }
  | _ => none }
def FnStringEndIsBoundedAndIgnoresWhatFollowsWrongFalsely : Prop := fnStringEndIsBoundedAndIgnoresWhatFollowsRow.holds Try.pinned (OpenSpec.ofChange fnStringEndIsBoundedAndIgnoresWhatFollowsWrong)

end Rows
end Go.Proofs.Qxb6604313a
