/-
  No cell of these rows narrows 'for every input' (looked for: loops, veiled, ifaces, maps, wideKeys, modest, calm, conditions, laid).
  DERIVED. THE GIVEN ROWS OF THIS SEAT. 2 by the template 'for every input the law returns true; each argument reads behind the call as it read before'; 0 by the template 'total and deterministic' (their statements: Qxb6618412aTotals.lean).
  GIVEN WITH THE SEED: the statements are not yours to turn. If you find one false, say at which input.
  Laid BY PROGRAM, IN A SANDBOX (cutbox-rows.mjs): the forced cells as the released guide's own fill.sh prints them over the translation 648735b5656499c1… (all of the seat's roots in one cut). By AI agents, Wed Nov 11 2026. No macro, syntax, notation, axiom, sorry.
-/
import Derived.Test.Qxb6618412aChecked
import GoSem.Claim
import GoSem.ClaimJoined
import GoSem.ClaimMapViews
import Derived.JoinedTies
import Derived.KernelRfl
namespace Go.Proofs.Qxb6618412a
/- THE CELL 'sum', in the pinned program and in every row, IS THE sha256 OF THE DUMP (.gsa) THAT Qxb6618412aProg.lean LOADS. Nothing in Lean hashes anything: it is a label: what it is worth is what the hold of that sum in a sandbox is worth. -/
noncomputable def Try.pinned : Pinned := { name := "qxb6618412a", sum := "648735b5656499c11bd9a5a7d7fe25162ff8f864a7cf58cbb76ce073ca3cb363", checked := Try.checked }
namespace Rows
def none {H : Type} : Left H := { results := [], args := [] }

/-- 'zzlaws_plan_b1.FnOnlyInCutAndCover': WHATEVER THE INPUT: true; the input reads as it did. -/
def fnOnlyInCutAndCoverSpec : ChangeSpec := { name := "fnOnlyInCutAndCover", fn := fun _ => fun
  | [d1, d2, d3] => { results := [.lit (.bool true)], args := [d1, d2, d3] }
  | _ => none }
def fnOnlyInCutAndCoverRow : OpenClaim := { program := "qxb6618412a", sum := "648735b5656499c11bd9a5a7d7fe25162ff8f864a7cf58cbb76ce073ca3cb363", func := "example.com/osi7/osi7/zzlaws_plan_b1.FnOnlyInCutAndCover", spec := "fnOnlyInCutAndCover", apart := false }
def FnOnlyInCutAndCoverSaid : Prop := fnOnlyInCutAndCoverRow.holds Try.pinned (OpenSpec.ofChange fnOnlyInCutAndCoverSpec)

/-- ITS FALSE NEIGHBOUR: 'it returns false'. Refute it at one input. -/
def fnOnlyInCutAndCoverWrong : ChangeSpec := { name := "fnOnlyInCutAndCover", fn := fun _ => fun
  | [d1, d2, d3] => { results := [.lit (.bool false)], args := [d1, d2, d3] }
  | _ => none }
def FnOnlyInCutAndCoverWrongFalsely : Prop := fnOnlyInCutAndCoverRow.holds Try.pinned (OpenSpec.ofChange fnOnlyInCutAndCoverWrong)

/-- 'zzlaws_plan_b1.FnOnlyInSetLatticeAndRefusal': WHATEVER THE INPUT: true; the input reads as it did. -/
def fnOnlyInSetLatticeAndRefusalSpec : ChangeSpec := { name := "fnOnlyInSetLatticeAndRefusal", fn := fun _ => fun
  | [d1, d2, d3, d4] => { results := [.lit (.bool true)], args := [d1, d2, d3, d4] }
  | _ => none }
def fnOnlyInSetLatticeAndRefusalRow : OpenClaim := { program := "qxb6618412a", sum := "648735b5656499c11bd9a5a7d7fe25162ff8f864a7cf58cbb76ce073ca3cb363", func := "example.com/osi7/osi7/zzlaws_plan_b1.FnOnlyInSetLatticeAndRefusal", spec := "fnOnlyInSetLatticeAndRefusal", apart := false }
def FnOnlyInSetLatticeAndRefusalSaid : Prop := fnOnlyInSetLatticeAndRefusalRow.holds Try.pinned (OpenSpec.ofChange fnOnlyInSetLatticeAndRefusalSpec)

/-- ITS FALSE NEIGHBOUR: 'it returns false'. Refute it at one input. -/
def fnOnlyInSetLatticeAndRefusalWrong : ChangeSpec := { name := "fnOnlyInSetLatticeAndRefusal", fn := fun _ => fun
  | [d1, d2, d3, d4] => { results := [.lit (.bool false)], args := [d1, d2, d3, d4] }
  | _ => none }
def FnOnlyInSetLatticeAndRefusalWrongFalsely : Prop := fnOnlyInSetLatticeAndRefusalRow.holds Try.pinned (OpenSpec.ofChange fnOnlyInSetLatticeAndRefusalWrong)

end Rows
end Go.Proofs.Qxb6618412a
