/-
  No cell of these rows narrows 'for every input' (looked for: loops, veiled, ifaces, maps, wideKeys, modest, calm, conditions, laid).
  DERIVED. THE GIVEN ROWS OF THIS SEAT. 4 by the template 'for every input the law returns true; each argument reads behind the call as it read before'; 0 by the template 'total and deterministic' (their statements: Qxb6604001aTotals.lean).
  GIVEN WITH THE SEED: the statements are not yours to turn. If you find one false, say at which input.
  Laid BY PROGRAM, IN A SANDBOX (cutbox-rows.mjs): the forced cells as the released guide's own fill.sh prints them over the translation 85c25b76a7bb2b95… (all of the seat's roots in one cut). By AI agents, Wed Nov 11 2026. No macro, syntax, notation, axiom, sorry.
-/
import Derived.Test.Qxb6604001aChecked
import GoSem.Claim
import GoSem.ClaimJoined
import GoSem.ClaimMapViews
import Derived.JoinedTies
import Derived.KernelRfl
namespace Go.Proofs.Qxb6604001a
/- THE CELL 'sum', in the pinned program and in every row, IS THE sha256 OF THE DUMP (.gsa) THAT Qxb6604001aProg.lean LOADS. Nothing in Lean hashes anything: it is a label: what it is worth is what the hold of that sum in a sandbox is worth. -/
noncomputable def Try.pinned : Pinned := { name := "qxb6604001a", sum := "85c25b76a7bb2b9563a745b3b0950c06fa0d2c1ea5156d125a1b43a2aef25af1", checked := Try.checked }
namespace Rows
def none {H : Type} : Left H := { results := [], args := [] }

/-- 'zzlaws_internal_exactjson_b1.FnSkipSeparatorsStopsAtFirstNonSeparator': WHATEVER THE INPUT: true; the input reads as it did. -/
def fnSkipSeparatorsStopsAtFirstNonSeparatorSpec : ChangeSpec := { name := "fnSkipSeparatorsStopsAtFirstNonSeparator", fn := fun _ => fun
  | [d1, d2] => { results := [.lit (.bool true)], args := [d1, d2] }
  | _ => none }
def fnSkipSeparatorsStopsAtFirstNonSeparatorRow : OpenClaim := { program := "qxb6604001a", sum := "85c25b76a7bb2b9563a745b3b0950c06fa0d2c1ea5156d125a1b43a2aef25af1", func := "example.com/bouncerd/bouncerd/zzlaws_internal_exactjson_b1.FnSkipSeparatorsStopsAtFirstNonSeparator", spec := "fnSkipSeparatorsStopsAtFirstNonSeparator", apart := false }
def FnSkipSeparatorsStopsAtFirstNonSeparatorSaid : Prop := fnSkipSeparatorsStopsAtFirstNonSeparatorRow.holds Try.pinned (OpenSpec.ofChange fnSkipSeparatorsStopsAtFirstNonSeparatorSpec)

/-- ITS FALSE NEIGHBOUR: 'it returns false'. Refute it at one input. -/
def fnSkipSeparatorsStopsAtFirstNonSeparatorWrong : ChangeSpec := { name := "fnSkipSeparatorsStopsAtFirstNonSeparator", fn := fun _ => fun
  | [d1, d2] => { results := [.lit (.bool false)], args := [d1, d2] }
  | _ => none }
def FnSkipSeparatorsStopsAtFirstNonSeparatorWrongFalsely : Prop := fnSkipSeparatorsStopsAtFirstNonSeparatorRow.holds Try.pinned (OpenSpec.ofChange fnSkipSeparatorsStopsAtFirstNonSeparatorWrong)

/-- 'zzlaws_internal_exactjson_b1.FnStringEndIsFirstQuoteAfterEvenBackslashes': WHATEVER THE INPUT: true; the input reads as it did. -/
def fnStringEndIsFirstQuoteAfterEvenBackslashesSpec : ChangeSpec := { name := "fnStringEndIsFirstQuoteAfterEvenBackslashes", fn := fun _ => fun
  | [d1, d2] => { results := [.lit (.bool true)], args := [d1, d2] }
  | _ => none }
def fnStringEndIsFirstQuoteAfterEvenBackslashesRow : OpenClaim := { program := "qxb6604001a", sum := "85c25b76a7bb2b9563a745b3b0950c06fa0d2c1ea5156d125a1b43a2aef25af1", func := "example.com/bouncerd/bouncerd/zzlaws_internal_exactjson_b1.FnStringEndIsFirstQuoteAfterEvenBackslashes", spec := "fnStringEndIsFirstQuoteAfterEvenBackslashes", apart := false }
def FnStringEndIsFirstQuoteAfterEvenBackslashesSaid : Prop := fnStringEndIsFirstQuoteAfterEvenBackslashesRow.holds Try.pinned (OpenSpec.ofChange fnStringEndIsFirstQuoteAfterEvenBackslashesSpec)

/-- ITS FALSE NEIGHBOUR: 'it returns false'. Refute it at one input. -/
def fnStringEndIsFirstQuoteAfterEvenBackslashesWrong : ChangeSpec := { name := "fnStringEndIsFirstQuoteAfterEvenBackslashes", fn := fun _ => fun
  | [d1, d2] => { results := [.lit (.bool false)], args := [d1, d2] }
  | _ => none }
def FnStringEndIsFirstQuoteAfterEvenBackslashesWrongFalsely : Prop := fnStringEndIsFirstQuoteAfterEvenBackslashesRow.holds Try.pinned (OpenSpec.ofChange fnStringEndIsFirstQuoteAfterEvenBackslashesWrong)

/-- 'zzlaws_internal_exactjson_b1.FnValueEndAgreesWithJSONGrammar': WHATEVER THE INPUT: true; the input reads as it did. -/
def fnValueEndAgreesWithJSONGrammarSpec : ChangeSpec := { name := "fnValueEndAgreesWithJSONGrammar", fn := fun _ => fun
  | [d1, d2] => { results := [.lit (.bool true)], args := [d1, d2] }
  | _ => none }
def fnValueEndAgreesWithJSONGrammarRow : OpenClaim := { program := "qxb6604001a", sum := "85c25b76a7bb2b9563a745b3b0950c06fa0d2c1ea5156d125a1b43a2aef25af1", func := "example.com/bouncerd/bouncerd/zzlaws_internal_exactjson_b1.FnValueEndAgreesWithJSONGrammar", spec := "fnValueEndAgreesWithJSONGrammar", recurses := true, apart := false }
def FnValueEndAgreesWithJSONGrammarSaid : Prop := fnValueEndAgreesWithJSONGrammarRow.holds Try.pinned (OpenSpec.ofChange fnValueEndAgreesWithJSONGrammarSpec)

/-- ITS FALSE NEIGHBOUR: 'it returns false'. Refute it at one input. -/
def fnValueEndAgreesWithJSONGrammarWrong : ChangeSpec := { name := "fnValueEndAgreesWithJSONGrammar", fn := fun _ => fun
  | [d1, d2] => { results := [.lit (.bool false)], args := [d1, d2] }
  | _ => none }
def FnValueEndAgreesWithJSONGrammarWrongFalsely : Prop := fnValueEndAgreesWithJSONGrammarRow.holds Try.pinned (OpenSpec.ofChange fnValueEndAgreesWithJSONGrammarWrong)

/-- 'zzlaws_internal_exactjson_b1.FnValueEndWalksContainerToItsClose': WHATEVER THE INPUT: true; the input reads as it did. -/
def fnValueEndWalksContainerToItsCloseSpec : ChangeSpec := { name := "fnValueEndWalksContainerToItsClose", fn := fun _ => fun
  | [d1, d2] => { results := [.lit (.bool true)], args := [d1, d2] }
  | _ => none }
def fnValueEndWalksContainerToItsCloseRow : OpenClaim := { program := "qxb6604001a", sum := "85c25b76a7bb2b9563a745b3b0950c06fa0d2c1ea5156d125a1b43a2aef25af1", func := "example.com/bouncerd/bouncerd/zzlaws_internal_exactjson_b1.FnValueEndWalksContainerToItsClose", spec := "fnValueEndWalksContainerToItsClose", recurses := true, apart := false }
def FnValueEndWalksContainerToItsCloseSaid : Prop := fnValueEndWalksContainerToItsCloseRow.holds Try.pinned (OpenSpec.ofChange fnValueEndWalksContainerToItsCloseSpec)

/-- ITS FALSE NEIGHBOUR: 'it returns false'. Refute it at one input. -/
def fnValueEndWalksContainerToItsCloseWrong : ChangeSpec := { name := "fnValueEndWalksContainerToItsClose", fn := fun _ => fun
  | [d1, d2] => { results := [.lit (.bool false)], args := [d1, d2] }
  | _ => none }
def FnValueEndWalksContainerToItsCloseWrongFalsely : Prop := fnValueEndWalksContainerToItsCloseRow.holds Try.pinned (OpenSpec.ofChange fnValueEndWalksContainerToItsCloseWrong)

end Rows
end Go.Proofs.Qxb6604001a
