/-
  No cell of these rows narrows 'for every input' (looked for: loops, veiled, ifaces, maps, wideKeys, modest, calm, conditions, laid).
  DERIVED. THE GIVEN ROWS OF THIS SEAT. 5 by the template 'for every input the law returns true; each argument reads behind the call as it read before'; 0 by the template 'total and deterministic' (their statements: Qxb6601654aTotals.lean).
  GIVEN WITH THE SEED: the statements are not yours to turn. If you find one false, say at which input.
  Laid BY PROGRAM, IN A SANDBOX (cutbox-rows.mjs): the forced cells as the released guide's own fill.sh prints them over the translation b0a49a305345a752… (all of the seat's roots in one cut). By AI agents, Wed Nov 11 2026. No macro, syntax, notation, axiom, sorry.
-/
import Derived.Test.Qxb6601654aChecked
import GoSem.Claim
import GoSem.ClaimJoined
import GoSem.ClaimMapViews
import Derived.JoinedTies
import Derived.KernelRfl
namespace Go.Proofs.Qxb6601654a
/- THE CELL 'sum', in the pinned program and in every row, IS THE sha256 OF THE DUMP (.gsa) THAT Qxb6601654aProg.lean LOADS. Nothing in Lean hashes anything: it is a label: what it is worth is what the hold of that sum in a sandbox is worth. -/
noncomputable def Try.pinned : Pinned := { name := "qxb6601654a", sum := "b0a49a305345a75222d798daf3b27b266742229bb743e1c52b2160a42b6430bf", checked := Try.checked }
namespace Rows
def none {H : Type} : Left H := { results := [], args := [] }

/-- 'zzlaws_internal_wire_b1.FnLayoutOfMatchesRFCFormats': WHATEVER THE INPUT: true; the input reads as it did. -/
def fnLayoutOfMatchesRFCFormatsSpec : ChangeSpec := { name := "fnLayoutOfMatchesRFCFormats", fn := fun _ => fun
  | [d] => { results := [.lit (.bool true)], args := [d] }
  | _ => none }
def fnLayoutOfMatchesRFCFormatsRow : OpenClaim := { program := "qxb6601654a", sum := "b0a49a305345a75222d798daf3b27b266742229bb743e1c52b2160a42b6430bf", func := "example.com/tacet/tacet/zzlaws_internal_wire_b1.FnLayoutOfMatchesRFCFormats", spec := "fnLayoutOfMatchesRFCFormats", apart := false }
def FnLayoutOfMatchesRFCFormatsSaid : Prop := fnLayoutOfMatchesRFCFormatsRow.holds Try.pinned (OpenSpec.ofChange fnLayoutOfMatchesRFCFormatsSpec)

/-- ITS FALSE NEIGHBOUR: 'it returns false'. Refute it at one input. -/
def fnLayoutOfMatchesRFCFormatsWrong : ChangeSpec := { name := "fnLayoutOfMatchesRFCFormats", fn := fun _ => fun
  | [d] => { results := [.lit (.bool false)], args := [d] }
  | _ => none }
def FnLayoutOfMatchesRFCFormatsWrongFalsely : Prop := fnLayoutOfMatchesRFCFormatsRow.holds Try.pinned (OpenSpec.ofChange fnLayoutOfMatchesRFCFormatsWrong)

/-- 'zzlaws_internal_wire_b1.FnSameQuestionMatchesModel': WHATEVER THE INPUT: true; the input reads as it did. -/
def fnSameQuestionMatchesModelSpec : ChangeSpec := { name := "fnSameQuestionMatchesModel", fn := fun _ => fun
  | [d1, d2] => { results := [.lit (.bool true)], args := [d1, d2] }
  | _ => none }
def fnSameQuestionMatchesModelRow : OpenClaim := { program := "qxb6601654a", sum := "b0a49a305345a75222d798daf3b27b266742229bb743e1c52b2160a42b6430bf", func := "example.com/tacet/tacet/zzlaws_internal_wire_b1.FnSameQuestionMatchesModel", spec := "fnSameQuestionMatchesModel", apart := false }
def FnSameQuestionMatchesModelSaid : Prop := fnSameQuestionMatchesModelRow.holds Try.pinned (OpenSpec.ofChange fnSameQuestionMatchesModelSpec)

/-- ITS FALSE NEIGHBOUR: 'it returns false'. Refute it at one input. -/
def fnSameQuestionMatchesModelWrong : ChangeSpec := { name := "fnSameQuestionMatchesModel", fn := fun _ => fun
  | [d1, d2] => { results := [.lit (.bool false)], args := [d1, d2] }
  | _ => none }
def FnSameQuestionMatchesModelWrongFalsely : Prop := fnSameQuestionMatchesModelRow.holds Try.pinned (OpenSpec.ofChange fnSameQuestionMatchesModelWrong)

/-- 'zzlaws_internal_wire_b1.FnSameQuestionIsEquivalence': WHATEVER THE INPUT: true; the input reads as it did. -/
def fnSameQuestionIsEquivalenceSpec : ChangeSpec := { name := "fnSameQuestionIsEquivalence", fn := fun _ => fun
  | [d1, d2, d3] => { results := [.lit (.bool true)], args := [d1, d2, d3] }
  | _ => none }
def fnSameQuestionIsEquivalenceRow : OpenClaim := { program := "qxb6601654a", sum := "b0a49a305345a75222d798daf3b27b266742229bb743e1c52b2160a42b6430bf", func := "example.com/tacet/tacet/zzlaws_internal_wire_b1.FnSameQuestionIsEquivalence", spec := "fnSameQuestionIsEquivalence", apart := false }
def FnSameQuestionIsEquivalenceSaid : Prop := fnSameQuestionIsEquivalenceRow.holds Try.pinned (OpenSpec.ofChange fnSameQuestionIsEquivalenceSpec)

/-- ITS FALSE NEIGHBOUR: 'it returns false'. Refute it at one input. -/
def fnSameQuestionIsEquivalenceWrong : ChangeSpec := { name := "fnSameQuestionIsEquivalence", fn := fun _ => fun
  | [d1, d2, d3] => { results := [.lit (.bool false)], args := [d1, d2, d3] }
  | _ => none }
def FnSameQuestionIsEquivalenceWrongFalsely : Prop := fnSameQuestionIsEquivalenceRow.holds Try.pinned (OpenSpec.ofChange fnSameQuestionIsEquivalenceWrong)

/-- 'zzlaws_internal_wire_b1.FnRcodeMatchesBitModel': WHATEVER THE INPUT: true; the input reads as it did. -/
def fnRcodeMatchesBitModelSpec : ChangeSpec := { name := "fnRcodeMatchesBitModel", fn := fun _ => fun
  | [d1, d2, d3, d4, d5] => { results := [.lit (.bool true)], args := [d1, d2, d3, d4, d5] }
  | _ => none }
def fnRcodeMatchesBitModelRow : OpenClaim := { program := "qxb6601654a", sum := "b0a49a305345a75222d798daf3b27b266742229bb743e1c52b2160a42b6430bf", func := "example.com/tacet/tacet/zzlaws_internal_wire_b1.FnRcodeMatchesBitModel", spec := "fnRcodeMatchesBitModel", apart := false }
def FnRcodeMatchesBitModelSaid : Prop := fnRcodeMatchesBitModelRow.holds Try.pinned (OpenSpec.ofChange fnRcodeMatchesBitModelSpec)

/-- ITS FALSE NEIGHBOUR: 'it returns false'. Refute it at one input. -/
def fnRcodeMatchesBitModelWrong : ChangeSpec := { name := "fnRcodeMatchesBitModel", fn := fun _ => fun
  | [d1, d2, d3, d4, d5] => { results := [.lit (.bool false)], args := [d1, d2, d3, d4, d5] }
  | _ => none }
def FnRcodeMatchesBitModelWrongFalsely : Prop := fnRcodeMatchesBitModelRow.holds Try.pinned (OpenSpec.ofChange fnRcodeMatchesBitModelWrong)

/-- 'zzlaws_internal_wire_b1.FnRcodeSeesOnlyAdditionalOPT': WHATEVER THE INPUT: true; the input reads as it did. -/
def fnRcodeSeesOnlyAdditionalOPTSpec : ChangeSpec := { name := "fnRcodeSeesOnlyAdditionalOPT", fn := fun _ => fun
  | [d1, d2, d3, d4, d5] => { results := [.lit (.bool true)], args := [d1, d2, d3, d4, d5] }
  | _ => none }
def fnRcodeSeesOnlyAdditionalOPTRow : OpenClaim := { program := "qxb6601654a", sum := "b0a49a305345a75222d798daf3b27b266742229bb743e1c52b2160a42b6430bf", func := "example.com/tacet/tacet/zzlaws_internal_wire_b1.FnRcodeSeesOnlyAdditionalOPT", spec := "fnRcodeSeesOnlyAdditionalOPT", apart := false }
def FnRcodeSeesOnlyAdditionalOPTSaid : Prop := fnRcodeSeesOnlyAdditionalOPTRow.holds Try.pinned (OpenSpec.ofChange fnRcodeSeesOnlyAdditionalOPTSpec)

/-- ITS FALSE NEIGHBOUR: 'it returns false'. Refute it at one input. -/
def fnRcodeSeesOnlyAdditionalOPTWrong : ChangeSpec := { name := "fnRcodeSeesOnlyAdditionalOPT", fn := fun _ => fun
  | [d1, d2, d3, d4, d5] => { results := [.lit (.bool false)], args := [d1, d2, d3, d4, d5] }
  | _ => none }
def FnRcodeSeesOnlyAdditionalOPTWrongFalsely : Prop := fnRcodeSeesOnlyAdditionalOPTRow.holds Try.pinned (OpenSpec.ofChange fnRcodeSeesOnlyAdditionalOPTWrong)

end Rows
end Go.Proofs.Qxb6601654a
