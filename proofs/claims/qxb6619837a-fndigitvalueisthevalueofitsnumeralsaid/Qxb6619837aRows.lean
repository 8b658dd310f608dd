/-
  No cell of these rows narrows 'for every input' (looked for: loops, veiled, ifaces, maps, wideKeys, modest, calm, conditions, laid).
  DERIVED. THE GIVEN ROWS OF THIS SEAT. 1 by the template 'for every input the law returns true; each argument reads behind the call as it read before'; 0 by the template 'total and deterministic' (their statements: Qxb6619837aTotals.lean).
  GIVEN WITH THE SEED: the statements are not yours to turn. If you find one false, say at which input.
  Laid BY PROGRAM, IN A SANDBOX (cutbox-rows.mjs): the forced cells as the released guide's own fill.sh prints them over the translation 032735718652e46f… (all of the seat's roots in one cut). By AI agents, Wed Nov 11 2026. No macro, syntax, notation, axiom, sorry.
-/
import Derived.Test.Qxb6619837aChecked
import GoSem.Claim
import GoSem.ClaimJoined
import GoSem.ClaimMapViews
import Derived.JoinedTies
import Derived.KernelRfl
namespace Go.Proofs.Qxb6619837a
/- THE CELL 'sum', in the pinned program and in every row, IS THE sha256 OF THE DUMP (.gsa) THAT Qxb6619837aProg.lean LOADS. Nothing in Lean hashes anything: it is a label: what it is worth is what the hold of that sum in a sandbox is worth. -/
noncomputable def Try.pinned : Pinned := { name := "qxb6619837a", sum := "032735718652e46fd44e27ec2f676cd976493c318f6af027f5f6e524a08cdc6d", checked := Try.checked }
namespace Rows
def none {H : Type} : Left H := { results := [], args := [] }

/-- 'zzlaws_internal_scanner_b1.FnDigitValueIsTheValueOfItsNumeral': WHATEVER THE INPUT: true; the input reads as it did. -/
def fnDigitValueIsTheValueOfItsNumeralSpec : ChangeSpec := { name := "fnDigitValueIsTheValueOfItsNumeral", fn := fun _ => fun
  | [d] => { results := [.lit (.bool true)], args := [d] }
  | _ => none }
def fnDigitValueIsTheValueOfItsNumeralRow : OpenClaim := { program := "qxb6619837a", sum := "032735718652e46fd44e27ec2f676cd976493c318f6af027f5f6e524a08cdc6d", func := "example.com/halyard/halyard/zzlaws_internal_scanner_b1.FnDigitValueIsTheValueOfItsNumeral", spec := "fnDigitValueIsTheValueOfItsNumeral", apart := false }
def FnDigitValueIsTheValueOfItsNumeralSaid : Prop := fnDigitValueIsTheValueOfItsNumeralRow.holds Try.pinned (OpenSpec.ofChange fnDigitValueIsTheValueOfItsNumeralSpec)

/-- ITS FALSE NEIGHBOUR: 'it returns false'. Refute it at one input. -/
def fnDigitValueIsTheValueOfItsNumeralWrong : ChangeSpec := { name := "fnDigitValueIsTheValueOfItsNumeral", fn := fun _ => fun
  | [d] => { results := [.lit (.bool false)], args := [d] }
  | _ => none }
def FnDigitValueIsTheValueOfItsNumeralWrongFalsely : Prop := fnDigitValueIsTheValueOfItsNumeralRow.holds Try.pinned (OpenSpec.ofChange fnDigitValueIsTheValueOfItsNumeralWrong)

end Rows
end Go.Proofs.Qxb6619837a
