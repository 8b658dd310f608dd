/-
  A byte set that came in by value, opened.
-/
import Derived.Test.Qxb6618412aSets
import Derived.WalkKit
import Derived.ProofKit
import Derived.OpenShut
namespace Go.Proofs.Qxb6618412a
open Go.ChangeShapes Go.WideShapes Go.ChangeAt Go.RowKit

theorem Try.cells22 : Try.prog.cellsOf 22 = 256 := by kernel_rfl
theorem Try.cells4 : Try.prog.cellsOf 4 = 1 := by kernel_rfl

theorem open_set {H : Type} {enc : TypeId × Value → H} {W : World} {r : Reach} {b0 base : Nat} {sp : Nat → Bool} {held : Bool} {v : Value} {d : DataW H} {p : List MemPlace}
    (hv : Value.okWide Try.prog W r b0 22 v) (h : DataW.Trod enc Try.prog W base sp held 22 v d p) : ∃ cs f, v = .agg cs ∧ IsSet cs f := by
  have hv' := hv
  simp only [Value.okWide, Try.underlying22] at hv'
  obtain ⟨cs, rfl, hsz, _⟩ := hv'
  rw [Try.cells22] at hsz
  obtain ⟨fuel, hf⟩ := h
  obtain ⟨xs, m, _, _, _, hlen, hx⟩ := DataW.trod_array Try.underlying22 hf
  refine ⟨cs, fun i => match cs[i]? with | some (.bool b) => b | _ => false, rfl, hsz, fun i hi => ?_⟩
  have h1 := hx i hi
  rw [Try.cells4, Nat.mul_one, List.getElem?_eq_getElem (by omega)] at h1
  obtain ⟨b, hb, _⟩ := DataW.trod_bool Try.underlying4 h1
  have h2 : cs[i]? = some (.bool b) := by
    have h3 : ((Value.agg cs).cells.toList.drop i).take 1 = [.bool b] := hb
    have h4 : (Value.agg cs).cells = cs := rfl
    rw [h4] at h3
    have h5 : (cs.toList.drop i)[0]? = some (.bool b) := by
      have := congrArg (fun l => l[0]?) h3
      simpa [List.getElem?_take] using this
    simpa [List.getElem?_drop] using h5
  simp [h2]
end Go.Proofs.Qxb6618412a
