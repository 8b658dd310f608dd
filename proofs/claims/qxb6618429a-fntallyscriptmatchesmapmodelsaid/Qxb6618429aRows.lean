/-
  No cell of these rows narrows 'for every input' (looked for: loops, veiled, ifaces, maps, wideKeys, modest, calm, conditions, laid).
  DERIVED. THE GIVEN ROWS OF THIS SEAT. 1 by the template 'for every input the law returns true; each argument reads behind the call as it read before'; 0 by the template 'total and deterministic' (their statements: Qxb6618429aTotals.lean).
  GIVEN WITH THE SEED: the statements are not yours to turn. If you find one false, say at which input.
  Laid BY PROGRAM, IN A SANDBOX (cutbox-rows.mjs): the forced cells as the released guide's own fill.sh prints them over the translation 06757d4f6424460b… (all of the seat's roots in one cut). By AI agents, Wed Nov 11 2026. No macro, syntax, notation, axiom, sorry.
-/
import Derived.Test.Qxb6618429aChecked
import GoSem.Claim
import GoSem.ClaimJoined
import GoSem.ClaimMapViews
import Derived.JoinedTies
import Derived.KernelRfl
namespace Go.Proofs.Qxb6618429a
/- THE CELL 'sum', in the pinned program and in every row, IS THE sha256 OF THE DUMP (.gsa) THAT Qxb6618429aProg.lean LOADS. Nothing in Lean hashes anything: it is a label: what it is worth is what the hold of that sum in a sandbox is worth. -/
noncomputable def Try.pinned : Pinned := { name := "qxb6618429a", sum := "06757d4f6424460b486d16b8bfa94db377efa11e2ded81ff28fb8455cd77c886", checked := Try.checked }
namespace Rows
def none {H : Type} : Left H := { results := [], args := [] }

/-- 'zzlaws_root_b1.FnTallyScriptMatchesMapModel': WHATEVER THE INPUT: true; the input reads as it did. -/
def fnTallyScriptMatchesMapModelSpec : ChangeSpec := { name := "fnTallyScriptMatchesMapModel", fn := fun _ => fun
  | [d] => { results := [.lit (.bool true)], args := [d] }
  | _ => none }
def fnTallyScriptMatchesMapModelRow : OpenClaim := { program := "qxb6618429a", sum := "06757d4f6424460b486d16b8bfa94db377efa11e2ded81ff28fb8455cd77c886", func := "example.com/viewsync/viewsync/zzlaws_root_b1.FnTallyScriptMatchesMapModel", spec := "fnTallyScriptMatchesMapModel", apart := false }
def FnTallyScriptMatchesMapModelSaid : Prop := fnTallyScriptMatchesMapModelRow.holds Try.pinned (OpenSpec.ofChange fnTallyScriptMatchesMapModelSpec)

/-- ITS FALSE NEIGHBOUR: 'it returns false'. Refute it at one input. -/
def fnTallyScriptMatchesMapModelWrong : ChangeSpec := { name := "fnTallyScriptMatchesMapModel", fn := fun _ => fun
  | [d] => { results := [.lit (.bool false)], args := [d] }
  | _ => none }
def FnTallyScriptMatchesMapModelWrongFalsely : Prop := fnTallyScriptMatchesMapModelRow.holds Try.pinned (OpenSpec.ofChange fnTallyScriptMatchesMapModelWrong)

end Rows
end Go.Proofs.Qxb6618429a
