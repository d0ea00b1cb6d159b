/-
  No cell of these rows narrows 'for every input' (looked for: loops, veiled, ifaces, maps, wideKeys, modest, calm, conditions, laid).
  DERIVED. THE GIVEN ROWS OF THIS SEAT. 6 by the template 'for every input the law returns true; each argument reads behind the call as it read before'; 0 by the template 'total and deterministic' (their statements: Qxb6601348aTotals.lean).
  GIVEN WITH THE SEED: the statements are not yours to turn. If you find one false, say at which input.
  Laid BY PROGRAM, IN A SANDBOX (cutbox-rows.mjs): the forced cells as the released guide's own fill.sh prints them over the translation 84ffb3b06bfb2821… (all of the seat's roots in one cut). By AI agents, Wed Nov 11 2026. No macro, syntax, notation, axiom, sorry.
-/
import Derived.Test.Qxb6601348aChecked
import GoSem.Claim
import GoSem.ClaimJoined
import GoSem.ClaimMapViews
import Derived.JoinedTies
import Derived.KernelRfl
namespace Go.Proofs.Qxb6601348a
/- THE CELL 'sum', in the pinned program and in every row, IS THE sha256 OF THE DUMP (.gsa) THAT Qxb6601348aProg.lean LOADS. Nothing in Lean hashes anything: it is a label: what it is worth is what the hold of that sum in a sandbox is worth. -/
noncomputable def Try.pinned : Pinned := { name := "qxb6601348a", sum := "84ffb3b06bfb2821491911ef289a2ff5adc1b2b3ee3a0926da61f9eb6929bc59", checked := Try.checked }
namespace Rows
def none {H : Type} : Left H := { results := [], args := [] }

/-- 'zzlaws_engine_b1.FnInDatetimeFormPrefixes': WHATEVER THE INPUT: true; the input reads as it did. -/
def fnInDatetimeFormPrefixesSpec : ChangeSpec := { name := "fnInDatetimeFormPrefixes", fn := fun _ => fun
  | [d] => { results := [.lit (.bool true)], args := [d] }
  | _ => none }
def fnInDatetimeFormPrefixesRow : OpenClaim := { program := "qxb6601348a", sum := "84ffb3b06bfb2821491911ef289a2ff5adc1b2b3ee3a0926da61f9eb6929bc59", func := "example.com/gapwise/gapwise/zzlaws_engine_b1.FnInDatetimeFormPrefixes", spec := "fnInDatetimeFormPrefixes", apart := false }
def FnInDatetimeFormPrefixesSaid : Prop := fnInDatetimeFormPrefixesRow.holds Try.pinned (OpenSpec.ofChange fnInDatetimeFormPrefixesSpec)

/-- ITS FALSE NEIGHBOUR: 'it returns false'. Refute it at one input. -/
def fnInDatetimeFormPrefixesWrong : ChangeSpec := { name := "fnInDatetimeFormPrefixes", fn := fun _ => fun
  | [d] => { results := [.lit (.bool false)], args := [d] }
  | _ => none }
def FnInDatetimeFormPrefixesWrongFalsely : Prop := fnInDatetimeFormPrefixesRow.holds Try.pinned (OpenSpec.ofChange fnInDatetimeFormPrefixesWrong)

/-- 'zzlaws_engine_b1.FnFoldedMatchesLetterTable': WHATEVER THE INPUT: true; the input reads as it did. -/
def fnFoldedMatchesLetterTableSpec : ChangeSpec := { name := "fnFoldedMatchesLetterTable", fn := fun _ => fun
  | [d] => { results := [.lit (.bool true)], args := [d] }
  | _ => none }
def fnFoldedMatchesLetterTableRow : OpenClaim := { program := "qxb6601348a", sum := "84ffb3b06bfb2821491911ef289a2ff5adc1b2b3ee3a0926da61f9eb6929bc59", func := "example.com/gapwise/gapwise/zzlaws_engine_b1.FnFoldedMatchesLetterTable", spec := "fnFoldedMatchesLetterTable", apart := false }
def FnFoldedMatchesLetterTableSaid : Prop := fnFoldedMatchesLetterTableRow.holds Try.pinned (OpenSpec.ofChange fnFoldedMatchesLetterTableSpec)

/-- ITS FALSE NEIGHBOUR: 'it returns false'. Refute it at one input. -/
def fnFoldedMatchesLetterTableWrong : ChangeSpec := { name := "fnFoldedMatchesLetterTable", fn := fun _ => fun
  | [d] => { results := [.lit (.bool false)], args := [d] }
  | _ => none }
def FnFoldedMatchesLetterTableWrongFalsely : Prop := fnFoldedMatchesLetterTableRow.holds Try.pinned (OpenSpec.ofChange fnFoldedMatchesLetterTableWrong)

/-- 'zzlaws_engine_b1.FnFoldedIdempotent': WHATEVER THE INPUT: true; the input reads as it did. -/
def fnFoldedIdempotentSpec : ChangeSpec := { name := "fnFoldedIdempotent", fn := fun _ => fun
  | [d] => { results := [.lit (.bool true)], args := [d] }
  | _ => none }
def fnFoldedIdempotentRow : OpenClaim := { program := "qxb6601348a", sum := "84ffb3b06bfb2821491911ef289a2ff5adc1b2b3ee3a0926da61f9eb6929bc59", func := "example.com/gapwise/gapwise/zzlaws_engine_b1.FnFoldedIdempotent", spec := "fnFoldedIdempotent", apart := false }
def FnFoldedIdempotentSaid : Prop := fnFoldedIdempotentRow.holds Try.pinned (OpenSpec.ofChange fnFoldedIdempotentSpec)

/-- ITS FALSE NEIGHBOUR: 'it returns false'. Refute it at one input. -/
def fnFoldedIdempotentWrong : ChangeSpec := { name := "fnFoldedIdempotent", fn := fun _ => fun
  | [d] => { results := [.lit (.bool false)], args := [d] }
  | _ => none }
def FnFoldedIdempotentWrongFalsely : Prop := fnFoldedIdempotentRow.holds Try.pinned (OpenSpec.ofChange fnFoldedIdempotentWrong)

/-- 'zzlaws_engine_b1.FnFoldedEqualExactlyWhenCaselessEqual': WHATEVER THE INPUT: true; the input reads as it did. -/
def fnFoldedEqualExactlyWhenCaselessEqualSpec : ChangeSpec := { name := "fnFoldedEqualExactlyWhenCaselessEqual", fn := fun _ => fun
  | [d1, d2] => { results := [.lit (.bool true)], args := [d1, d2] }
  | _ => none }
def fnFoldedEqualExactlyWhenCaselessEqualRow : OpenClaim := { program := "qxb6601348a", sum := "84ffb3b06bfb2821491911ef289a2ff5adc1b2b3ee3a0926da61f9eb6929bc59", func := "example.com/gapwise/gapwise/zzlaws_engine_b1.FnFoldedEqualExactlyWhenCaselessEqual", spec := "fnFoldedEqualExactlyWhenCaselessEqual", apart := false }
def FnFoldedEqualExactlyWhenCaselessEqualSaid : Prop := fnFoldedEqualExactlyWhenCaselessEqualRow.holds Try.pinned (OpenSpec.ofChange fnFoldedEqualExactlyWhenCaselessEqualSpec)

/-- ITS FALSE NEIGHBOUR: 'it returns false'. Refute it at one input. -/
def fnFoldedEqualExactlyWhenCaselessEqualWrong : ChangeSpec := { name := "fnFoldedEqualExactlyWhenCaselessEqual", fn := fun _ => fun
  | [d1, d2] => { results := [.lit (.bool false)], args := [d1, d2] }
  | _ => none }
def FnFoldedEqualExactlyWhenCaselessEqualWrongFalsely : Prop := fnFoldedEqualExactlyWhenCaselessEqualRow.holds Try.pinned (OpenSpec.ofChange fnFoldedEqualExactlyWhenCaselessEqualWrong)

/-- 'zzlaws_engine_b1.FnSlotIsNearestFreeOrMatchingSlot': WHATEVER THE INPUT: true; the input reads as it did. -/
def fnSlotIsNearestFreeOrMatchingSlotSpec : ChangeSpec := { name := "fnSlotIsNearestFreeOrMatchingSlot", fn := fun _ => fun
  | [d1, d2, d3, d4] => { results := [.lit (.bool true)], args := [d1, d2, d3, d4] }
  | _ => none }
def fnSlotIsNearestFreeOrMatchingSlotRow : OpenClaim := { program := "qxb6601348a", sum := "84ffb3b06bfb2821491911ef289a2ff5adc1b2b3ee3a0926da61f9eb6929bc59", func := "example.com/gapwise/gapwise/zzlaws_engine_b1.FnSlotIsNearestFreeOrMatchingSlot", spec := "fnSlotIsNearestFreeOrMatchingSlot", apart := false }
def FnSlotIsNearestFreeOrMatchingSlotSaid : Prop := fnSlotIsNearestFreeOrMatchingSlotRow.holds Try.pinned (OpenSpec.ofChange fnSlotIsNearestFreeOrMatchingSlotSpec)

/-- ITS FALSE NEIGHBOUR: 'it returns false'. Refute it at one input. -/
def fnSlotIsNearestFreeOrMatchingSlotWrong : ChangeSpec := { name := "fnSlotIsNearestFreeOrMatchingSlot", fn := fun _ => fun
  | [d1, d2, d3, d4] => { results := [.lit (.bool false)], args := [d1, d2, d3, d4] }
  | _ => none }
def FnSlotIsNearestFreeOrMatchingSlotWrongFalsely : Prop := fnSlotIsNearestFreeOrMatchingSlotRow.holds Try.pinned (OpenSpec.ofChange fnSlotIsNearestFreeOrMatchingSlotWrong)

/-- 'zzlaws_engine_b1.FnSlotScriptFindsEveryInsertedKey': WHATEVER THE INPUT: true; the input reads as it did. -/
def fnSlotScriptFindsEveryInsertedKeySpec : ChangeSpec := { name := "fnSlotScriptFindsEveryInsertedKey", fn := fun _ => fun
  | [d1, d2] => { results := [.lit (.bool true)], args := [d1, d2] }
  | _ => none }
def fnSlotScriptFindsEveryInsertedKeyRow : OpenClaim := { program := "qxb6601348a", sum := "84ffb3b06bfb2821491911ef289a2ff5adc1b2b3ee3a0926da61f9eb6929bc59", func := "example.com/gapwise/gapwise/zzlaws_engine_b1.FnSlotScriptFindsEveryInsertedKey", spec := "fnSlotScriptFindsEveryInsertedKey", apart := false }
def FnSlotScriptFindsEveryInsertedKeySaid : Prop := fnSlotScriptFindsEveryInsertedKeyRow.holds Try.pinned (OpenSpec.ofChange fnSlotScriptFindsEveryInsertedKeySpec)

/-- ITS FALSE NEIGHBOUR: 'it returns false'. Refute it at one input. -/
def fnSlotScriptFindsEveryInsertedKeyWrong : ChangeSpec := { name := "fnSlotScriptFindsEveryInsertedKey", fn := fun _ => fun
  | [d1, d2] => { results := [.lit (.bool false)], args := [d1, d2] }
  | _ => none }
def FnSlotScriptFindsEveryInsertedKeyWrongFalsely : Prop := fnSlotScriptFindsEveryInsertedKeyRow.holds Try.pinned (OpenSpec.ofChange fnSlotScriptFindsEveryInsertedKeyWrong)

end Rows
end Go.Proofs.Qxb6601348a
