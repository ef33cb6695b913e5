/-
  No cell of these rows narrows 'for every input' (looked for: loops, veiled, ifaces, maps, wideKeys, modest, calm, conditions, laid).
  DERIVED. THE GIVEN ROWS OF THIS SEAT. 6 by the template 'for every input the law returns true; each argument reads behind the call as it read before'; 0 by the template 'total and deterministic' (their statements: Qxb6603727aTotals.lean).
  GIVEN WITH THE SEED: the statements are not yours to turn. If you find one false, say at which input.
  Laid BY PROGRAM, IN A SANDBOX (cutbox-rows.mjs): the forced cells as the released guide's own fill.sh prints them over the translation 0e02985493371492… (all of the seat's roots in one cut). By AI agents, Wed Nov 11 2026. No macro, syntax, notation, axiom, sorry.
-/
import Derived.Test.Qxb6603727aChecked
import GoSem.Claim
import GoSem.ClaimJoined
import GoSem.ClaimMapViews
import Derived.JoinedTies
import Derived.KernelRfl
namespace Go.Proofs.Qxb6603727a
/- THE CELL 'sum', in the pinned program and in every row, IS THE sha256 OF THE DUMP (.gsa) THAT Qxb6603727aProg.lean LOADS. Nothing in Lean hashes anything: it is a label: what it is worth is what the hold of that sum in a sandbox is worth. -/
noncomputable def Try.pinned : Pinned := { name := "qxb6603727a", sum := "0e02985493371492a707960a8101eb36acdd86e09a8f096eb5180aa707363955", checked := Try.checked }
namespace Rows
def none {H : Type} : Left H := { results := [], args := [] }

/-- 'zzlaws_rawjson_b1.FnStringEndMatchesForwardScanner': WHATEVER THE INPUT: true; the input reads as it did. -/
def fnStringEndMatchesForwardScannerSpec : ChangeSpec := { name := "fnStringEndMatchesForwardScanner", fn := fun _ => fun
  | [d1, d2] => { results := [.lit (.bool true)], args := [d1, d2] }
  | _ => none }
def fnStringEndMatchesForwardScannerRow : OpenClaim := { program := "qxb6603727a", sum := "0e02985493371492a707960a8101eb36acdd86e09a8f096eb5180aa707363955", func := "example.com/tallygate/tallygate/zzlaws_rawjson_b1.FnStringEndMatchesForwardScanner", spec := "fnStringEndMatchesForwardScanner", inPlace := ["internal/bytealg.IndexByte"], apart := false }
def FnStringEndMatchesForwardScannerSaid : Prop := fnStringEndMatchesForwardScannerRow.holds Try.pinned (OpenSpec.ofChange fnStringEndMatchesForwardScannerSpec)

/-- ITS FALSE NEIGHBOUR: 'it returns false'. Refute it at one input. -/
def fnStringEndMatchesForwardScannerWrong : ChangeSpec := { name := "fnStringEndMatchesForwardScanner", fn := fun _ => fun
  | [d1, d2] => { results := [.lit (.bool false)], args := [d1, d2] }
  | _ => none }
def FnStringEndMatchesForwardScannerWrongFalsely : Prop := fnStringEndMatchesForwardScannerRow.holds Try.pinned (OpenSpec.ofChange fnStringEndMatchesForwardScannerWrong)

/-- 'zzlaws_rawjson_b1.FnStringEndIgnoresBytesPastItsEnd': WHATEVER THE INPUT: true; the input reads as it did. -/
def fnStringEndIgnoresBytesPastItsEndSpec : ChangeSpec := { name := "fnStringEndIgnoresBytesPastItsEnd", fn := fun _ => fun
  | [d1, d2, d3] => { results := [.lit (.bool true)], args := [d1, d2, d3] }
  | _ => none }
def fnStringEndIgnoresBytesPastItsEndRow : OpenClaim := { program := "qxb6603727a", sum := "0e02985493371492a707960a8101eb36acdd86e09a8f096eb5180aa707363955", func := "example.com/tallygate/tallygate/zzlaws_rawjson_b1.FnStringEndIgnoresBytesPastItsEnd", spec := "fnStringEndIgnoresBytesPastItsEnd", inPlace := ["internal/bytealg.IndexByte"], apart := false }
def FnStringEndIgnoresBytesPastItsEndSaid : Prop := fnStringEndIgnoresBytesPastItsEndRow.holds Try.pinned (OpenSpec.ofChange fnStringEndIgnoresBytesPastItsEndSpec)

/-- ITS FALSE NEIGHBOUR: 'it returns false'. Refute it at one input. -/
def fnStringEndIgnoresBytesPastItsEndWrong : ChangeSpec := { name := "fnStringEndIgnoresBytesPastItsEnd", fn := fun _ => fun
  | [d1, d2, d3] => { results := [.lit (.bool false)], args := [d1, d2, d3] }
  | _ => none }
def FnStringEndIgnoresBytesPastItsEndWrongFalsely : Prop := fnStringEndIgnoresBytesPastItsEndRow.holds Try.pinned (OpenSpec.ofChange fnStringEndIgnoresBytesPastItsEndWrong)

/-- 'zzlaws_rawjson_b1.FnValueEndFindsTheEndOfEveryWellFormedValue': WHATEVER THE INPUT: true; the input reads as it did. -/
def fnValueEndFindsTheEndOfEveryWellFormedValueSpec : ChangeSpec := { name := "fnValueEndFindsTheEndOfEveryWellFormedValue", fn := fun _ => fun
  | [d1, d2] => { results := [.lit (.bool true)], args := [d1, d2] }
  | _ => none }
def fnValueEndFindsTheEndOfEveryWellFormedValueRow : OpenClaim := { program := "qxb6603727a", sum := "0e02985493371492a707960a8101eb36acdd86e09a8f096eb5180aa707363955", func := "example.com/tallygate/tallygate/zzlaws_rawjson_b1.FnValueEndFindsTheEndOfEveryWellFormedValue", spec := "fnValueEndFindsTheEndOfEveryWellFormedValue", inPlace := ["internal/bytealg.IndexByte", "internal/bytealg.IndexByteString"], recurses := true, apart := false }
def FnValueEndFindsTheEndOfEveryWellFormedValueSaid : Prop := fnValueEndFindsTheEndOfEveryWellFormedValueRow.holds Try.pinned (OpenSpec.ofChange fnValueEndFindsTheEndOfEveryWellFormedValueSpec)

/-- ITS FALSE NEIGHBOUR: 'it returns false'. Refute it at one input. -/
def fnValueEndFindsTheEndOfEveryWellFormedValueWrong : ChangeSpec := { name := "fnValueEndFindsTheEndOfEveryWellFormedValue", fn := fun _ => fun
  | [d1, d2] => { results := [.lit (.bool false)], args := [d1, d2] }
  | _ => none }
def FnValueEndFindsTheEndOfEveryWellFormedValueWrongFalsely : Prop := fnValueEndFindsTheEndOfEveryWellFormedValueRow.holds Try.pinned (OpenSpec.ofChange fnValueEndFindsTheEndOfEveryWellFormedValueWrong)

/-- 'zzlaws_rawjson_b1.FnValueEndSeesNothingPastTheValue': WHATEVER THE INPUT: true; the input reads as it did. -/
def fnValueEndSeesNothingPastTheValueSpec : ChangeSpec := { name := "fnValueEndSeesNothingPastTheValue", fn := fun _ => fun
  | [d1, d2] => { results := [.lit (.bool true)], args := [d1, d2] }
  | _ => none }
def fnValueEndSeesNothingPastTheValueRow : OpenClaim := { program := "qxb6603727a", sum := "0e02985493371492a707960a8101eb36acdd86e09a8f096eb5180aa707363955", func := "example.com/tallygate/tallygate/zzlaws_rawjson_b1.FnValueEndSeesNothingPastTheValue", spec := "fnValueEndSeesNothingPastTheValue", inPlace := ["internal/bytealg.IndexByte", "internal/bytealg.IndexByteString"], apart := false }
def FnValueEndSeesNothingPastTheValueSaid : Prop := fnValueEndSeesNothingPastTheValueRow.holds Try.pinned (OpenSpec.ofChange fnValueEndSeesNothingPastTheValueSpec)

/-- ITS FALSE NEIGHBOUR: 'it returns false'. Refute it at one input. -/
def fnValueEndSeesNothingPastTheValueWrong : ChangeSpec := { name := "fnValueEndSeesNothingPastTheValue", fn := fun _ => fun
  | [d1, d2] => { results := [.lit (.bool false)], args := [d1, d2] }
  | _ => none }
def FnValueEndSeesNothingPastTheValueWrongFalsely : Prop := fnValueEndSeesNothingPastTheValueRow.holds Try.pinned (OpenSpec.ofChange fnValueEndSeesNothingPastTheValueWrong)

/-- 'zzlaws_rawjson_b1.FnValidNumberMatchesStateMachine': WHATEVER THE INPUT: true; the input reads as it did. -/
def fnValidNumberMatchesStateMachineSpec : ChangeSpec := { name := "fnValidNumberMatchesStateMachine", fn := fun _ => fun
  | [d1, d2] => { results := [.lit (.bool true)], args := [d1, d2] }
  | _ => none }
def fnValidNumberMatchesStateMachineRow : OpenClaim := { program := "qxb6603727a", sum := "0e02985493371492a707960a8101eb36acdd86e09a8f096eb5180aa707363955", func := "example.com/tallygate/tallygate/zzlaws_rawjson_b1.FnValidNumberMatchesStateMachine", spec := "fnValidNumberMatchesStateMachine", apart := false }
def FnValidNumberMatchesStateMachineSaid : Prop := fnValidNumberMatchesStateMachineRow.holds Try.pinned (OpenSpec.ofChange fnValidNumberMatchesStateMachineSpec)

/-- ITS FALSE NEIGHBOUR: 'it returns false'. Refute it at one input. -/
def fnValidNumberMatchesStateMachineWrong : ChangeSpec := { name := "fnValidNumberMatchesStateMachine", fn := fun _ => fun
  | [d1, d2] => { results := [.lit (.bool false)], args := [d1, d2] }
  | _ => none }
def FnValidNumberMatchesStateMachineWrongFalsely : Prop := fnValidNumberMatchesStateMachineRow.holds Try.pinned (OpenSpec.ofChange fnValidNumberMatchesStateMachineWrong)

/-- 'zzlaws_rawjson_b1.FnValueEndAgreesWithValidNumber': WHATEVER THE INPUT: true; the input reads as it did. -/
def fnValueEndAgreesWithValidNumberSpec : ChangeSpec := { name := "fnValueEndAgreesWithValidNumber", fn := fun _ => fun
  | [d1, d2] => { results := [.lit (.bool true)], args := [d1, d2] }
  | _ => none }
def fnValueEndAgreesWithValidNumberRow : OpenClaim := { program := "qxb6603727a", sum := "0e02985493371492a707960a8101eb36acdd86e09a8f096eb5180aa707363955", func := "example.com/tallygate/tallygate/zzlaws_rawjson_b1.FnValueEndAgreesWithValidNumber", spec := "fnValueEndAgreesWithValidNumber", inPlace := ["internal/bytealg.IndexByte", "internal/bytealg.IndexByteString"], apart := false }
def FnValueEndAgreesWithValidNumberSaid : Prop := fnValueEndAgreesWithValidNumberRow.holds Try.pinned (OpenSpec.ofChange fnValueEndAgreesWithValidNumberSpec)

/-- ITS FALSE NEIGHBOUR: 'it returns false'. Refute it at one input. -/
def fnValueEndAgreesWithValidNumberWrong : ChangeSpec := { name := "fnValueEndAgreesWithValidNumber", fn := fun _ => fun
  | [d1, d2] => { results := [.lit (.bool false)], args := [d1, d2] }
  | _ => none }
def FnValueEndAgreesWithValidNumberWrongFalsely : Prop := fnValueEndAgreesWithValidNumberRow.holds Try.pinned (OpenSpec.ofChange fnValueEndAgreesWithValidNumberWrong)

end Rows
end Go.Proofs.Qxb6603727a
