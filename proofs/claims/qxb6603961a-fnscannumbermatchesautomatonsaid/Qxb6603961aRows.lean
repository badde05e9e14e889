/-
  No cell of these rows narrows 'for every input' (looked for: loops, veiled, ifaces, maps, wideKeys, modest, calm, conditions, laid).
  DERIVED. THE GIVEN ROWS OF THIS SEAT. 2 by the template 'for every input the law returns true; each argument reads behind the call as it read before'; 0 by the template 'total and deterministic' (their statements: Qxb6603961aTotals.lean).
  GIVEN WITH THE SEED: the statements are not yours to turn. If you find one false, say at which input.
  Laid BY PROGRAM, IN A SANDBOX (cutbox-rows.mjs): the forced cells as the released guide's own fill.sh prints them over the translation 971be4ec0d77cac9… (all of the seat's roots in one cut). By AI agents, Wed Nov 11 2026. No macro, syntax, notation, axiom, sorry.
-/
import Derived.Test.Qxb6603961aChecked
import GoSem.Claim
import GoSem.ClaimJoined
import GoSem.ClaimMapViews
import Derived.JoinedTies
import Derived.KernelRfl
namespace Go.Proofs.Qxb6603961a
/- THE CELL 'sum', in the pinned program and in every row, IS THE sha256 OF THE DUMP (.gsa) THAT Qxb6603961aProg.lean LOADS. Nothing in Lean hashes anything: it is a label: what it is worth is what the hold of that sum in a sandbox is worth. -/
noncomputable def Try.pinned : Pinned := { name := "qxb6603961a", sum := "971be4ec0d77cac917429ac0457ecf5229cccf5fbaa9d14c444c2afb536360cb", checked := Try.checked }
namespace Rows
def none {H : Type} : Left H := { results := [], args := [] }

/-- 'zzlaws_toon_b1.FnWriteQuotedDecodesBack': WHATEVER THE INPUT: true; the input reads as it did. -/
def fnWriteQuotedDecodesBackSpec : ChangeSpec := { name := "fnWriteQuotedDecodesBack", fn := fun _ => fun
  | [d1, d2] => { results := [.lit (.bool true)], args := [d1, d2] }
  | _ => none }
def fnWriteQuotedDecodesBackRow : OpenClaim := { program := "qxb6603961a", sum := "971be4ec0d77cac917429ac0457ecf5229cccf5fbaa9d14c444c2afb536360cb", func := "example.com/floc/floc/zzlaws_toon_b1.FnWriteQuotedDecodesBack", spec := "fnWriteQuotedDecodesBack", inPlace := ["internal/abi.NoEscape"], apart := false }
def FnWriteQuotedDecodesBackSaid : Prop := fnWriteQuotedDecodesBackRow.holds Try.pinned (OpenSpec.ofChange fnWriteQuotedDecodesBackSpec)

/-- ITS FALSE NEIGHBOUR: 'it returns false'. Refute it at one input. -/
def fnWriteQuotedDecodesBackWrong : ChangeSpec := { name := "fnWriteQuotedDecodesBack", fn := fun _ => fun
  | [d1, d2] => { results := [.lit (.bool false)], args := [d1, d2] }
  | _ => none }
def FnWriteQuotedDecodesBackWrongFalsely : Prop := fnWriteQuotedDecodesBackRow.holds Try.pinned (OpenSpec.ofChange fnWriteQuotedDecodesBackWrong)

/-- 'zzlaws_toon_b1.FnScanNumberMatchesAutomaton': WHATEVER THE INPUT: true; the input reads as it did. -/
def fnScanNumberMatchesAutomatonSpec : ChangeSpec := { name := "fnScanNumberMatchesAutomaton", fn := fun _ => fun
  | [d1, d2] => { results := [.lit (.bool true)], args := [d1, d2] }
  | _ => none }
def fnScanNumberMatchesAutomatonRow : OpenClaim := { program := "qxb6603961a", sum := "971be4ec0d77cac917429ac0457ecf5229cccf5fbaa9d14c444c2afb536360cb", func := "example.com/floc/floc/zzlaws_toon_b1.FnScanNumberMatchesAutomaton", spec := "fnScanNumberMatchesAutomaton", apart := false }
def FnScanNumberMatchesAutomatonSaid : Prop := fnScanNumberMatchesAutomatonRow.holds Try.pinned (OpenSpec.ofChange fnScanNumberMatchesAutomatonSpec)

/-- ITS FALSE NEIGHBOUR: 'it returns false'. Refute it at one input. -/
def fnScanNumberMatchesAutomatonWrong : ChangeSpec := { name := "fnScanNumberMatchesAutomaton", fn := fun _ => fun
  | [d1, d2] => { results := [.lit (.bool false)], args := [d1, d2] }
  | _ => none }
def FnScanNumberMatchesAutomatonWrongFalsely : Prop := fnScanNumberMatchesAutomatonRow.holds Try.pinned (OpenSpec.ofChange fnScanNumberMatchesAutomatonWrong)

end Rows
end Go.Proofs.Qxb6603961a
