import Derived.Test.Qxb6618214aRows
import Derived.Test.Qxb6618214aShort
import Derived.WalkKit
import Derived.ProofKit
import Derived.OpenShut
import Derived.ShutString
namespace Go.Proofs.Qxb6618214a.fnAppendDigitsOrderIsShortlex
open Go.ChangeShapes Go.WideShapes Go.ChangeAt Go.RowKit
open Go.ChangeMaps (open_string shut_string)
set_option linter.unusedVariables false      -- a walk need not use every 'w<i>' (that an integer argument fits its kind)

theorem own : ownKnob Try.prog.godebug = none := by kernel_rfl

set_option maxHeartbeats 1000000 in
theorem short_walk (a b : Nat) (w : World) (ha : a < 18446744073709551616) (hb : b < 18446744073709551616) :
    Calls Try.prog 6 #[.int .u64 a, .int .u64 b] w fun e w' => e = .returned (.bool true) ∧ Below w.heap.size w w' := by
  go_enter Try.func6, Try.ntmps6
  go_wp2_with fail
  refine (zzad_nil a w ha).mono ?_
  rintro e w1 ⟨g1, m1, c1, rfl, hl1, hge1, hlt1, _, _, hc1, hb1⟩
  have HL1 : Hid (isLen a m1) := hl1
  have HB1 : Hid (Below w.heap.size w w1) := hb1
  have HC1 : Hid (∀ j, j < m1 → w1.cell? ⟨g1, j, none⟩ = some (.int .u8 (chr (dg a m1 j)))) := hc1
  clear hl1 hb1 hc1
  go_wp2_with fail
  refine (zzad_nil b w1 hb).mono ?_
  rintro e w2 ⟨g2, m2, c2, rfl, hl2, hge2, hlt2, _, _, hc2, hb2⟩
  have HL2 : Hid (isLen b m2) := hl2
  have HB2 : Hid (Below w1.heap.size w1 w2) := hb2
  have HC2 : Hid (∀ j, j < m2 → w2.cell? ⟨g2, j, none⟩ = some (.int .u8 (chr (dg b m2 j)))) := hc2
  clear hl2 hb2 hc2
  go_wp2_with fail
  refine (numlen_any a m1 w2 ha HL1.out).mono ?_
  rintro e w3 ⟨rfl, rfl⟩
  go_wp2_with fail
  refine (numlen_any b m2 w3 hb HL2.out).mono ?_
  rintro e w4 ⟨rfl, rfl⟩
  go_wp2_with fail
  refine (short_any a b m1 m2 g1 g2 c1 c2 w4 HL1.out HL2.out (Nat.lt_of_lt_of_le hlt1 HB2.out.size) hlt2 (fun j hj => (HB2.out.cell hlt1).trans (HC1.out j hj)) HC2.out).mono ?_
  rintro e w5 ⟨rfl, hb5⟩
  have HB5 : Hid (Below w4.heap.size w4 w5) := hb5
  clear hb5
  go_wp2_with fail
  refine (cmp_any a b w5 ha hb).mono ?_
  rintro e w6 ⟨rfl, rfl⟩
  go_wp2
  go_ret
  have t1 := HB1.out
  have t2 := t1.trans (HB2.out.mono t1.size)
  exact ⟨rfl, t2.trans (HB5.out.mono t2.size)⟩

theorem walk (a0 : Int) (a1 : Int) (w0 : (Lit.int .u64 a0).wf = true) (w1 : (Lit.int .u64 a1).wf = true) (w : World) :
    Calls Try.prog 6 #[.int .u64 a0, .int .u64 a1] w fun e w' => e = .returned (.bool true) ∧ Below w.heap.size w w' := by
  have ⟨b0, b1⟩ := bounds_u64 w0
  have ⟨b2, b3⟩ := bounds_u64 w1
  obtain ⟨a, rfl⟩ := Int.eq_ofNat_of_zero_le b0
  obtain ⟨b, rfl⟩ := Int.eq_ofNat_of_zero_le b2
  exact short_walk a b w (by omega) (by omega)

/-! ### THE ROW's STEP: WRITTEN OUT: LEAVE IT -/
set_option maxRecDepth 100000 in
theorem lifted (os : Os) (started : os.Started) (H : Type) (enc : TypeId × Value → H) :
    ReturnsInHanded {} Try.checked os 6 .any (Rows.fnAppendDigitsOrderIsShortlexSpec.pre6 enc Try.prog Try.f6 Rows.fnAppendDigitsOrderIsShortlexRow.domain false) (Rows.fnAppendDigitsOrderIsShortlexSpec.post enc Try.prog Try.f6 false true false false) := by
  refine returnsInHanded_of_change (C := Try.checked) own started (by kernel_rfl) Try.func6
    (ChangeSpec.witness6 (enc := enc) (C := Try.checked) false ⟨#[], #[.int .u64 0, .int .u64 0], []⟩ 8 (by kernel_rfl) (by kernel_rfl) (by kernel_rfl) (by kernel_rfl)) ?_
  intro W base args ds gs before hval0 hW hcnd _
  have hval : ∀ (j : Nat) t v, Try.f6.params[j]? = some t → args[j]? = some v → Value.okWide Try.prog W .any base t v := hval0
  have hW' := hW
  obtain ⟨p, q, hA0, hV, rfl, hfz, hnd⟩ := hW
  have hA : DataW.TrodAll enc Try.prog W 0 (fun _ => true) true Try.f6.params.toList args.toList ds p := hA0
  rw [Try.params6] at hA hval
  obtain ⟨v0, vs0, d0, ds0, p0, q0, hargs, rfl, rfl, h0, r0⟩ := trodAll_cons hA
  obtain ⟨v1, vs1, d1, ds1, p1, q1, rfl, rfl, rfl, h1, r1⟩ := trodAll_cons r0
  obtain ⟨rfl, rfl, rfl⟩ := trodAll_nil r1
  obtain rfl : args = #[v0, v1] := by cases args; simp_all
  obtain ⟨rfl, rfl⟩ := trodVars_none hV
  obtain ⟨a0, rfl, rfl, rfl, w0⟩ := open_int Try.underlying24 (hval 0 24 v0 rfl rfl) h0
  obtain ⟨a1, rfl, rfl, rfl, w1⟩ := open_int Try.underlying24 (hval 1 24 v1 rfl rfl) h1
  clear hA0 hval0
  refine (walk a0 a1 w0 w1 W).mono fun e W' ⟨he, bel⟩ => ?_
  subst he
  exact ⟨_, rfl, _, _, _, [], _, [], hW', trodAll_mk1 (shut_bool Try.underlying4 _), (trodAll_cons_mk (shut_int Try.underlying24 w0) (trodAll_cons_mk (shut_int Try.underlying24 w1) trodAll_mk0)), rfl, bel.frame _, fun h => by cases h⟩

theorem over : Rows.fnAppendDigitsOrderIsShortlexRow.holds Try.pinned (OpenSpec.ofChange Rows.fnAppendDigitsOrderIsShortlexSpec) :=
  OpenClaim.holds_of_wide 6 Try.f6 rfl rfl rfl rfl rfl rfl rfl ⟨rfl, rfl, rfl, rfl, rfl⟩ rfl rfl rfl rfl rfl (by kernel_rfl) Try.func6 (by kernel_rfl)
    (of_decide_eq_true (by kernel_rfl)) (by unfold Func.isWrapper; first | (rw [if_pos (by decide +kernel)]; kernel_rfl) | (rw [if_neg (by decide +kernel)]; exact ⟨rfl, rfl⟩))
    (fun os started H enc _ => lifted os started H enc)

end Go.Proofs.Qxb6618214a.fnAppendDigitsOrderIsShortlex
namespace Go.Proofs.Qxb6618214a
theorem fnAppendDigitsOrderIsShortlex_proved : Rows.FnAppendDigitsOrderIsShortlexSaid := fnAppendDigitsOrderIsShortlex.over
end Go.Proofs.Qxb6618214a
