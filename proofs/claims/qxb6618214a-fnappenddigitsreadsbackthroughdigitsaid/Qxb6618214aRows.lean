/-
  No cell of these rows narrows 'for every input' (looked for: loops, veiled, ifaces, maps, wideKeys, modest, calm, conditions, laid).
  DERIVED. THE GIVEN ROWS OF THIS SEAT. 4 by the template 'for every input the law returns true; each argument reads behind the call as it read before'; 0 by the template 'total and deterministic' (their statements: Qxb6618214aTotals.lean).
  GIVEN WITH THE SEED: the statements are not yours to turn. If you find one false, say at which input.
  Laid BY PROGRAM, IN A SANDBOX (cutbox-rows.mjs): the forced cells as the released guide's own fill.sh prints them over the translation 87196381310aba8e… (all of the seat's roots in one cut). By AI agents, Wed Nov 11 2026. No macro, syntax, notation, axiom, sorry.
-/
import Derived.Test.Qxb6618214aChecked
import GoSem.Claim
import GoSem.ClaimJoined
import GoSem.ClaimMapViews
import Derived.JoinedTies
import Derived.KernelRfl
namespace Go.Proofs.Qxb6618214a
/- THE CELL 'sum', in the pinned program and in every row, IS THE sha256 OF THE DUMP (.gsa) THAT Qxb6618214aProg.lean LOADS. Nothing in Lean hashes anything: it is a label: what it is worth is what the hold of that sum in a sandbox is worth. -/
noncomputable def Try.pinned : Pinned := { name := "qxb6618214a", sum := "87196381310aba8ebbf5102bf396799d0d7915598096e0745246c8392f820f8c", checked := Try.checked }
namespace Rows
def none {H : Type} : Left H := { results := [], args := [] }

/-- 'zzlaws_por_b1.FnDigitAgreesWithAppendDigits': WHATEVER THE INPUT: true; the input reads as it did. -/
def fnDigitAgreesWithAppendDigitsSpec : ChangeSpec := { name := "fnDigitAgreesWithAppendDigits", fn := fun _ => fun
  | [d] => { results := [.lit (.bool true)], args := [d] }
  | _ => none }
def fnDigitAgreesWithAppendDigitsRow : OpenClaim := { program := "qxb6618214a", sum := "87196381310aba8ebbf5102bf396799d0d7915598096e0745246c8392f820f8c", func := "example.com/tupleport/tupleport/zzlaws_por_b1.FnDigitAgreesWithAppendDigits", spec := "fnDigitAgreesWithAppendDigits", apart := false }
def FnDigitAgreesWithAppendDigitsSaid : Prop := fnDigitAgreesWithAppendDigitsRow.holds Try.pinned (OpenSpec.ofChange fnDigitAgreesWithAppendDigitsSpec)

/-- ITS FALSE NEIGHBOUR: 'it returns false'. Refute it at one input. -/
def fnDigitAgreesWithAppendDigitsWrong : ChangeSpec := { name := "fnDigitAgreesWithAppendDigits", fn := fun _ => fun
  | [d] => { results := [.lit (.bool false)], args := [d] }
  | _ => none }
def FnDigitAgreesWithAppendDigitsWrongFalsely : Prop := fnDigitAgreesWithAppendDigitsRow.holds Try.pinned (OpenSpec.ofChange fnDigitAgreesWithAppendDigitsWrong)

/-- 'zzlaws_por_b1.FnAppendDigitsReadsBackThroughDigit': WHATEVER THE INPUT: true; the input reads as it did. -/
def fnAppendDigitsReadsBackThroughDigitSpec : ChangeSpec := { name := "fnAppendDigitsReadsBackThroughDigit", fn := fun _ => fun
  | [d1, d2] => { results := [.lit (.bool true)], args := [d1, d2] }
  | _ => none }
def fnAppendDigitsReadsBackThroughDigitRow : OpenClaim := { program := "qxb6618214a", sum := "87196381310aba8ebbf5102bf396799d0d7915598096e0745246c8392f820f8c", func := "example.com/tupleport/tupleport/zzlaws_por_b1.FnAppendDigitsReadsBackThroughDigit", spec := "fnAppendDigitsReadsBackThroughDigit", apart := false }
def FnAppendDigitsReadsBackThroughDigitSaid : Prop := fnAppendDigitsReadsBackThroughDigitRow.holds Try.pinned (OpenSpec.ofChange fnAppendDigitsReadsBackThroughDigitSpec)

/-- ITS FALSE NEIGHBOUR: 'it returns false'. Refute it at one input. -/
def fnAppendDigitsReadsBackThroughDigitWrong : ChangeSpec := { name := "fnAppendDigitsReadsBackThroughDigit", fn := fun _ => fun
  | [d1, d2] => { results := [.lit (.bool false)], args := [d1, d2] }
  | _ => none }
def FnAppendDigitsReadsBackThroughDigitWrongFalsely : Prop := fnAppendDigitsReadsBackThroughDigitRow.holds Try.pinned (OpenSpec.ofChange fnAppendDigitsReadsBackThroughDigitWrong)

/-- 'zzlaws_por_b1.FnAddFractionDigitIsOneThirtieth': WHATEVER THE INPUT: true; the input reads as it did. -/
def fnAddFractionDigitIsOneThirtiethSpec : ChangeSpec := { name := "fnAddFractionDigitIsOneThirtieth", fn := fun _ => fun
  | [d1, d2, d3, d4] => { results := [.lit (.bool true)], args := [d1, d2, d3, d4] }
  | _ => none }
def fnAddFractionDigitIsOneThirtiethRow : OpenClaim := { program := "qxb6618214a", sum := "87196381310aba8ebbf5102bf396799d0d7915598096e0745246c8392f820f8c", func := "example.com/tupleport/tupleport/zzlaws_por_b1.FnAddFractionDigitIsOneThirtieth", spec := "fnAddFractionDigitIsOneThirtieth", apart := false }
def FnAddFractionDigitIsOneThirtiethSaid : Prop := fnAddFractionDigitIsOneThirtiethRow.holds Try.pinned (OpenSpec.ofChange fnAddFractionDigitIsOneThirtiethSpec)

/-- ITS FALSE NEIGHBOUR: 'it returns false'. Refute it at one input. -/
def fnAddFractionDigitIsOneThirtiethWrong : ChangeSpec := { name := "fnAddFractionDigitIsOneThirtieth", fn := fun _ => fun
  | [d1, d2, d3, d4] => { results := [.lit (.bool false)], args := [d1, d2, d3, d4] }
  | _ => none }
def FnAddFractionDigitIsOneThirtiethWrongFalsely : Prop := fnAddFractionDigitIsOneThirtiethRow.holds Try.pinned (OpenSpec.ofChange fnAddFractionDigitIsOneThirtiethWrong)

/-- 'zzlaws_por_b1.FnAppendDigitsOrderIsShortlex': WHATEVER THE INPUT: true; the input reads as it did. -/
def fnAppendDigitsOrderIsShortlexSpec : ChangeSpec := { name := "fnAppendDigitsOrderIsShortlex", fn := fun _ => fun
  | [d1, d2] => { results := [.lit (.bool true)], args := [d1, d2] }
  | _ => none }
def fnAppendDigitsOrderIsShortlexRow : OpenClaim := { program := "qxb6618214a", sum := "87196381310aba8ebbf5102bf396799d0d7915598096e0745246c8392f820f8c", func := "example.com/tupleport/tupleport/zzlaws_por_b1.FnAppendDigitsOrderIsShortlex", spec := "fnAppendDigitsOrderIsShortlex", apart := false }
def FnAppendDigitsOrderIsShortlexSaid : Prop := fnAppendDigitsOrderIsShortlexRow.holds Try.pinned (OpenSpec.ofChange fnAppendDigitsOrderIsShortlexSpec)

/-- ITS FALSE NEIGHBOUR: 'it returns false'. Refute it at one input. -/
def fnAppendDigitsOrderIsShortlexWrong : ChangeSpec := { name := "fnAppendDigitsOrderIsShortlex", fn := fun _ => fun
  | [d1, d2] => { results := [.lit (.bool false)], args := [d1, d2] }
  | _ => none }
def FnAppendDigitsOrderIsShortlexWrongFalsely : Prop := fnAppendDigitsOrderIsShortlexRow.holds Try.pinned (OpenSpec.ofChange fnAppendDigitsOrderIsShortlexWrong)

end Rows
end Go.Proofs.Qxb6618214a
