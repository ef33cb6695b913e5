/-
  No cell of these rows narrows 'for every input' (looked for: loops, veiled, ifaces, maps, wideKeys, modest, calm, conditions, laid).
  DERIVED. THE GIVEN ROWS OF THIS SEAT. 2 by the template 'for every input the law returns true; each argument reads behind the call as it read before'; 0 by the template 'total and deterministic' (their statements: Qxb6603744aTotals.lean).
  GIVEN WITH THE SEED: the statements are not yours to turn. If you find one false, say at which input.
  Laid BY PROGRAM, IN A SANDBOX (cutbox-rows.mjs): the forced cells as the released guide's own fill.sh prints them over the translation 133eba080e0ba4d8… (all of the seat's roots in one cut). By AI agents, Wed Nov 11 2026. No macro, syntax, notation, axiom, sorry.
-/
import Derived.Test.Qxb6603744aChecked
import GoSem.Claim
import GoSem.ClaimJoined
import GoSem.ClaimMapViews
import Derived.JoinedTies
import Derived.KernelRfl
namespace Go.Proofs.Qxb6603744a
/- THE CELL 'sum', in the pinned program and in every row, IS THE sha256 OF THE DUMP (.gsa) THAT Qxb6603744aProg.lean LOADS. Nothing in Lean hashes anything: it is a label: what it is worth is what the hold of that sum in a sandbox is worth. -/
noncomputable def Try.pinned : Pinned := { name := "qxb6603744a", sum := "133eba080e0ba4d8d8c1d6170abbc5c9c4ea85fe70f851e566d0973e7b98c6aa", checked := Try.checked }
namespace Rows
def none {H : Type} : Left H := { results := [], args := [] }

/-- 'zzlaws_root_b1.FnDecimalModel': WHATEVER THE INPUT: true; the input reads as it did. -/
def fnDecimalModelSpec : ChangeSpec := { name := "fnDecimalModel", fn := fun _ => fun
  | [d] => { results := [.lit (.bool true)], args := [d] }
  | _ => none }
def fnDecimalModelRow : OpenClaim := { program := "qxb6603744a", sum := "133eba080e0ba4d8d8c1d6170abbc5c9c4ea85fe70f851e566d0973e7b98c6aa", func := "example.com/fairlane/fairlane/zzlaws_root_b1.FnDecimalModel", spec := "fnDecimalModel", apart := false }
def FnDecimalModelSaid : Prop := fnDecimalModelRow.holds Try.pinned (OpenSpec.ofChange fnDecimalModelSpec)

/-- ITS FALSE NEIGHBOUR: 'it returns false'. Refute it at one input. -/
def fnDecimalModelWrong : ChangeSpec := { name := "fnDecimalModel", fn := fun _ => fun
  | [d] => { results := [.lit (.bool false)], args := [d] }
  | _ => none }
def FnDecimalModelWrongFalsely : Prop := fnDecimalModelRow.holds Try.pinned (OpenSpec.ofChange fnDecimalModelWrong)

/-- 'zzlaws_root_b1.FnDecimalReadsFormatted': WHATEVER THE INPUT: true; the input reads as it did. -/
def fnDecimalReadsFormattedSpec : ChangeSpec := { name := "fnDecimalReadsFormatted", fn := fun _ => fun
  | [d] => { results := [.lit (.bool true)], args := [d] }
  | _ => none }
def fnDecimalReadsFormattedRow : OpenClaim := { program := "qxb6603744a", sum := "133eba080e0ba4d8d8c1d6170abbc5c9c4ea85fe70f851e566d0973e7b98c6aa", func := "example.com/fairlane/fairlane/zzlaws_root_b1.FnDecimalReadsFormatted", spec := "fnDecimalReadsFormatted", apart := false }
def FnDecimalReadsFormattedSaid : Prop := fnDecimalReadsFormattedRow.holds Try.pinned (OpenSpec.ofChange fnDecimalReadsFormattedSpec)

/-- ITS FALSE NEIGHBOUR: 'it returns false'. Refute it at one input. -/
def fnDecimalReadsFormattedWrong : ChangeSpec := { name := "fnDecimalReadsFormatted", fn := fun _ => fun
  | [d] => { results := [.lit (.bool false)], args := [d] }
  | _ => none }
def FnDecimalReadsFormattedWrongFalsely : Prop := fnDecimalReadsFormattedRow.holds Try.pinned (OpenSpec.ofChange fnDecimalReadsFormattedWrong)

end Rows
end Go.Proofs.Qxb6603744a
