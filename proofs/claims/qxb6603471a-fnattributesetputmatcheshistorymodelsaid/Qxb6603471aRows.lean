/-
  No cell of these rows narrows 'for every input' (looked for: loops, veiled, ifaces, maps, wideKeys, modest, calm, conditions, laid).
  DERIVED. THE GIVEN ROWS OF THIS SEAT. 7 by the template 'for every input the law returns true; each argument reads behind the call as it read before'; 0 by the template 'total and deterministic' (their statements: Qxb6603471aTotals.lean).
  GIVEN WITH THE SEED: the statements are not yours to turn. If you find one false, say at which input.
  Laid BY PROGRAM, IN A SANDBOX (cutbox-rows.mjs): the forced cells as the released guide's own fill.sh prints them over the translation 4d91a94d1d1106ac… (all of the seat's roots in one cut). By AI agents, Wed Nov 11 2026. No macro, syntax, notation, axiom, sorry.
-/
import Derived.Test.Qxb6603471aChecked
import GoSem.Claim
import GoSem.ClaimJoined
import GoSem.ClaimMapViews
import Derived.JoinedTies
import Derived.KernelRfl
namespace Go.Proofs.Qxb6603471a
/- THE CELL 'sum', in the pinned program and in every row, IS THE sha256 OF THE DUMP (.gsa) THAT Qxb6603471aProg.lean LOADS. Nothing in Lean hashes anything: it is a label: what it is worth is what the hold of that sum in a sandbox is worth. -/
noncomputable def Try.pinned : Pinned := { name := "qxb6603471a", sum := "4d91a94d1d1106ace0174d8cb5d7366262c1741aa5aa3058a7617ff468d90d74", checked := Try.checked }
namespace Rows
def none {H : Type} : Left H := { results := [], args := [] }

/-- 'zzlaws_root_b1.FnParseJSONNumberMatchesAutomaton': WHATEVER THE INPUT: true; the input reads as it did. -/
def fnParseJSONNumberMatchesAutomatonSpec : ChangeSpec := { name := "fnParseJSONNumberMatchesAutomaton", fn := fun _ => fun
  | [d] => { results := [.lit (.bool true)], args := [d] }
  | _ => none }
def fnParseJSONNumberMatchesAutomatonRow : OpenClaim := { program := "qxb6603471a", sum := "4d91a94d1d1106ace0174d8cb5d7366262c1741aa5aa3058a7617ff468d90d74", func := "example.com/uni-span/uni-span/zzlaws_root_b1.FnParseJSONNumberMatchesAutomaton", spec := "fnParseJSONNumberMatchesAutomaton", apart := false }
def FnParseJSONNumberMatchesAutomatonSaid : Prop := fnParseJSONNumberMatchesAutomatonRow.holds Try.pinned (OpenSpec.ofChange fnParseJSONNumberMatchesAutomatonSpec)

/-- ITS FALSE NEIGHBOUR: 'it returns false'. Refute it at one input. -/
def fnParseJSONNumberMatchesAutomatonWrong : ChangeSpec := { name := "fnParseJSONNumberMatchesAutomaton", fn := fun _ => fun
  | [d] => { results := [.lit (.bool false)], args := [d] }
  | _ => none }
def FnParseJSONNumberMatchesAutomatonWrongFalsely : Prop := fnParseJSONNumberMatchesAutomatonRow.holds Try.pinned (OpenSpec.ofChange fnParseJSONNumberMatchesAutomatonWrong)

/-- 'zzlaws_root_b1.FnParseJSONNumberReassembles': WHATEVER THE INPUT: true; the input reads as it did. -/
def fnParseJSONNumberReassemblesSpec : ChangeSpec := { name := "fnParseJSONNumberReassembles", fn := fun _ => fun
  | [d] => { results := [.lit (.bool true)], args := [d] }
  | _ => none }
def fnParseJSONNumberReassemblesRow : OpenClaim := { program := "qxb6603471a", sum := "4d91a94d1d1106ace0174d8cb5d7366262c1741aa5aa3058a7617ff468d90d74", func := "example.com/uni-span/uni-span/zzlaws_root_b1.FnParseJSONNumberReassembles", spec := "fnParseJSONNumberReassembles", apart := false }
def FnParseJSONNumberReassemblesSaid : Prop := fnParseJSONNumberReassemblesRow.holds Try.pinned (OpenSpec.ofChange fnParseJSONNumberReassemblesSpec)

/-- ITS FALSE NEIGHBOUR: 'it returns false'. Refute it at one input. -/
def fnParseJSONNumberReassemblesWrong : ChangeSpec := { name := "fnParseJSONNumberReassembles", fn := fun _ => fun
  | [d] => { results := [.lit (.bool false)], args := [d] }
  | _ => none }
def FnParseJSONNumberReassemblesWrongFalsely : Prop := fnParseJSONNumberReassemblesRow.holds Try.pinned (OpenSpec.ofChange fnParseJSONNumberReassemblesWrong)

/-- 'zzlaws_root_b1.FnParseJSONNumberAcceptsEveryWellFormedNumber': WHATEVER THE INPUT: true; the input reads as it did. -/
def fnParseJSONNumberAcceptsEveryWellFormedNumberSpec : ChangeSpec := { name := "fnParseJSONNumberAcceptsEveryWellFormedNumber", fn := fun _ => fun
  | [d1, d2, d3, d4, d5] => { results := [.lit (.bool true)], args := [d1, d2, d3, d4, d5] }
  | _ => none }
def fnParseJSONNumberAcceptsEveryWellFormedNumberRow : OpenClaim := { program := "qxb6603471a", sum := "4d91a94d1d1106ace0174d8cb5d7366262c1741aa5aa3058a7617ff468d90d74", func := "example.com/uni-span/uni-span/zzlaws_root_b1.FnParseJSONNumberAcceptsEveryWellFormedNumber", spec := "fnParseJSONNumberAcceptsEveryWellFormedNumber", apart := false }
def FnParseJSONNumberAcceptsEveryWellFormedNumberSaid : Prop := fnParseJSONNumberAcceptsEveryWellFormedNumberRow.holds Try.pinned (OpenSpec.ofChange fnParseJSONNumberAcceptsEveryWellFormedNumberSpec)

/-- ITS FALSE NEIGHBOUR: 'it returns false'. Refute it at one input. -/
def fnParseJSONNumberAcceptsEveryWellFormedNumberWrong : ChangeSpec := { name := "fnParseJSONNumberAcceptsEveryWellFormedNumber", fn := fun _ => fun
  | [d1, d2, d3, d4, d5] => { results := [.lit (.bool false)], args := [d1, d2, d3, d4, d5] }
  | _ => none }
def FnParseJSONNumberAcceptsEveryWellFormedNumberWrongFalsely : Prop := fnParseJSONNumberAcceptsEveryWellFormedNumberRow.holds Try.pinned (OpenSpec.ofChange fnParseJSONNumberAcceptsEveryWellFormedNumberWrong)

/-- 'zzlaws_root_b1.FnNameBytesMatchesStreamingModel': WHATEVER THE INPUT: true; the input reads as it did. -/
def fnNameBytesMatchesStreamingModelSpec : ChangeSpec := { name := "fnNameBytesMatchesStreamingModel", fn := fun _ => fun
  | [d1, d2, d3, d4, d5] => { results := [.lit (.bool true)], args := [d1, d2, d3, d4, d5] }
  | _ => none }
def fnNameBytesMatchesStreamingModelRow : OpenClaim := { program := "qxb6603471a", sum := "4d91a94d1d1106ace0174d8cb5d7366262c1741aa5aa3058a7617ff468d90d74", func := "example.com/uni-span/uni-span/zzlaws_root_b1.FnNameBytesMatchesStreamingModel", spec := "fnNameBytesMatchesStreamingModel", apart := false }
def FnNameBytesMatchesStreamingModelSaid : Prop := fnNameBytesMatchesStreamingModelRow.holds Try.pinned (OpenSpec.ofChange fnNameBytesMatchesStreamingModelSpec)

/-- ITS FALSE NEIGHBOUR: 'it returns false'. Refute it at one input. -/
def fnNameBytesMatchesStreamingModelWrong : ChangeSpec := { name := "fnNameBytesMatchesStreamingModel", fn := fun _ => fun
  | [d1, d2, d3, d4, d5] => { results := [.lit (.bool false)], args := [d1, d2, d3, d4, d5] }
  | _ => none }
def FnNameBytesMatchesStreamingModelWrongFalsely : Prop := fnNameBytesMatchesStreamingModelRow.holds Try.pinned (OpenSpec.ofChange fnNameBytesMatchesStreamingModelWrong)

/-- 'zzlaws_root_b1.FnNameBytesUndoesEscaper': WHATEVER THE INPUT: true; the input reads as it did. -/
def fnNameBytesUndoesEscaperSpec : ChangeSpec := { name := "fnNameBytesUndoesEscaper", fn := fun _ => fun
  | [d1, d2, d3, d4, d5, d6] => { results := [.lit (.bool true)], args := [d1, d2, d3, d4, d5, d6] }
  | _ => none }
def fnNameBytesUndoesEscaperRow : OpenClaim := { program := "qxb6603471a", sum := "4d91a94d1d1106ace0174d8cb5d7366262c1741aa5aa3058a7617ff468d90d74", func := "example.com/uni-span/uni-span/zzlaws_root_b1.FnNameBytesUndoesEscaper", spec := "fnNameBytesUndoesEscaper", apart := false }
def FnNameBytesUndoesEscaperSaid : Prop := fnNameBytesUndoesEscaperRow.holds Try.pinned (OpenSpec.ofChange fnNameBytesUndoesEscaperSpec)

/-- ITS FALSE NEIGHBOUR: 'it returns false'. Refute it at one input. -/
def fnNameBytesUndoesEscaperWrong : ChangeSpec := { name := "fnNameBytesUndoesEscaper", fn := fun _ => fun
  | [d1, d2, d3, d4, d5, d6] => { results := [.lit (.bool false)], args := [d1, d2, d3, d4, d5, d6] }
  | _ => none }
def FnNameBytesUndoesEscaperWrongFalsely : Prop := fnNameBytesUndoesEscaperRow.holds Try.pinned (OpenSpec.ofChange fnNameBytesUndoesEscaperWrong)

/-- 'zzlaws_root_b1.FnAttributeSetPutMatchesHistoryModel': WHATEVER THE INPUT: true; the input reads as it did. -/
def fnAttributeSetPutMatchesHistoryModelSpec : ChangeSpec := { name := "fnAttributeSetPutMatchesHistoryModel", fn := fun _ => fun
  | [d] => { results := [.lit (.bool true)], args := [d] }
  | _ => none }
def fnAttributeSetPutMatchesHistoryModelRow : OpenClaim := { program := "qxb6603471a", sum := "4d91a94d1d1106ace0174d8cb5d7366262c1741aa5aa3058a7617ff468d90d74", func := "example.com/uni-span/uni-span/zzlaws_root_b1.FnAttributeSetPutMatchesHistoryModel", spec := "fnAttributeSetPutMatchesHistoryModel", apart := false }
def FnAttributeSetPutMatchesHistoryModelSaid : Prop := fnAttributeSetPutMatchesHistoryModelRow.holds Try.pinned (OpenSpec.ofChange fnAttributeSetPutMatchesHistoryModelSpec)

/-- ITS FALSE NEIGHBOUR: 'it returns false'. Refute it at one input. -/
def fnAttributeSetPutMatchesHistoryModelWrong : ChangeSpec := { name := "fnAttributeSetPutMatchesHistoryModel", fn := fun _ => fun
  | [d] => { results := [.lit (.bool false)], args := [d] }
  | _ => none }
def FnAttributeSetPutMatchesHistoryModelWrongFalsely : Prop := fnAttributeSetPutMatchesHistoryModelRow.holds Try.pinned (OpenSpec.ofChange fnAttributeSetPutMatchesHistoryModelWrong)

/-- 'zzlaws_root_b1.FnAttributeSetPutRankClassesCommute': WHATEVER THE INPUT: true; the input reads as it did. -/
def fnAttributeSetPutRankClassesCommuteSpec : ChangeSpec := { name := "fnAttributeSetPutRankClassesCommute", fn := fun _ => fun
  | [d1, d2] => { results := [.lit (.bool true)], args := [d1, d2] }
  | _ => none }
def fnAttributeSetPutRankClassesCommuteRow : OpenClaim := { program := "qxb6603471a", sum := "4d91a94d1d1106ace0174d8cb5d7366262c1741aa5aa3058a7617ff468d90d74", func := "example.com/uni-span/uni-span/zzlaws_root_b1.FnAttributeSetPutRankClassesCommute", spec := "fnAttributeSetPutRankClassesCommute", apart := false }
def FnAttributeSetPutRankClassesCommuteSaid : Prop := fnAttributeSetPutRankClassesCommuteRow.holds Try.pinned (OpenSpec.ofChange fnAttributeSetPutRankClassesCommuteSpec)

/-- ITS FALSE NEIGHBOUR: 'it returns false'. Refute it at one input. -/
def fnAttributeSetPutRankClassesCommuteWrong : ChangeSpec := { name := "fnAttributeSetPutRankClassesCommute", fn := fun _ => fun
  | [d1, d2] => { results := [.lit (.bool false)], args := [d1, d2] }
  | _ => none }
def FnAttributeSetPutRankClassesCommuteWrongFalsely : Prop := fnAttributeSetPutRankClassesCommuteRow.holds Try.pinned (OpenSpec.ofChange fnAttributeSetPutRankClassesCommuteWrong)

end Rows
end Go.Proofs.Qxb6603471a
