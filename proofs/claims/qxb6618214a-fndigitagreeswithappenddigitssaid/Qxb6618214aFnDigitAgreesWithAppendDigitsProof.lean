import Derived.Test.Qxb6618214aRows
import Derived.Test.Qxb6618214aDig
import Derived.WalkKit
import Derived.ProofKit
import Derived.OpenShut
import Derived.ShutString
namespace Go.Proofs.Qxb6618214a.fnDigitAgreesWithAppendDigits
open Go.ChangeShapes Go.WideShapes Go.ChangeAt Go.RowKit
open Go.ChangeMaps (open_string shut_string)
set_option linter.unusedVariables false

theorem own : ownKnob Try.prog.godebug = none := by kernel_rfl

theorem chr_lt (x : Nat) (h : x < 30) : chr x < 256 := by unfold chr; split <;> omega

theorem zzdigit_chr (x : Nat) (w : World) (h : x < 30) :
    Calls Try.prog 8 #[.int .i32 (chr x)] w fun e w' => e = .returned (.tuple #[.int .i64 x, .bool true]) ∧ w' = w := by
  have hc := chr_lt x h
  refine (zzdigit_any (chr x) w (by omega) (by omega)).mono ?_
  rintro e w' ⟨rfl, rfl⟩
  rw [(dgv_chr x h).1, (dgv_chr x h).2]
  exact ⟨rfl, rfl⟩

theorem chr_dgv (c : Int) (h : dgok c = true) : ∃ x : Nat, x < 30 ∧ dgv c = x ∧ (chr x : Int) = c := by
  unfold dgok at h
  simp at h
  unfold dgv chr
  rcases h with h | h
  · refine ⟨(c - 48).toNat, by omega, ?_, ?_⟩
    · rw [if_pos h]; omega
    · rw [if_pos (by omega)]; omega
  · refine ⟨(c - 55).toNat, by omega, ?_, ?_⟩
    · rw [if_neg (by omega), if_pos h]; omega
    · rw [if_neg (by omega)]; omega

theorem chr_no (c : Int) (h : dgok c = false) : dgv c = 0 ∧ ∀ x : Nat, x < 30 → ((chr x : Int) == c) = false := by
  unfold dgok at h
  simp at h
  refine ⟨?_, fun x hx => ?_⟩
  · unfold dgv
    rw [if_neg (by omega), if_neg (by omega)]
  · rw [beq_eq_false_iff_ne]
    unfold chr
    split <;> omega

set_option maxHeartbeats 1000000 in
theorem walk (a0 : Int) (w0 : (Lit.int .i32 a0).wf = true) (w : World) :
    Calls Try.prog 3 #[.int .i32 a0] w fun e w' => e = .returned (.bool true) ∧ Below w.heap.size w w' := by
  have ⟨b0, b1⟩ := bounds_i32 w0
  go_enter Try.func3, Try.ntmps3
  go_wp2
  go_loopw [3] (fun x wr => ∃ k : Nat, k ≤ 30 ∧ x = .int .i64 k ∧ Below w.heap.size w wr) (fun x _ => 30 - (intOf x).toNat)
  case atStart => exact ⟨0, by omega, rfl, Below.refl _ _⟩
  case round =>
    obtain ⟨k, hk, rfl, hbel⟩ := hrel
    by_cases hlt : k < 30
    · have hck := chr_lt k hlt
      go_wp2_with fail
      refine (zzad_one k wr hlt).mono ?_
      rintro e w1 ⟨g, cap, rfl, hc, hb1⟩
      go_wp2_with fail
      refine (zzdigit_chr k w1 hlt).mono ?_
      rintro e w2 ⟨rfl, rfl⟩
      have hb2 := hbel.trans (hb1.mono hbel.size)
      clear hc hb1 hbel
      go_wp2
      go_roundw
      case rel => exact ⟨k + 1, by omega, by go_num, hb2⟩
      case measure => simp [intOf]; omega
    · obtain rfl : k = 30 := by omega
      go_wp2_with fail
      refine (zzdigit_any a0 wr b0 b1).mono ?_
      rintro e w2 ⟨rfl, rfl⟩
      cases hok : dgok a0
      · obtain ⟨e0, hno⟩ := chr_no a0 hok
        rw [e0]
        clear e0 hok
        go_wp2
        go_loopw [10] (fun x wr => ∃ k : Nat, k ≤ 30 ∧ x = .int .i64 k ∧ Below w.heap.size w wr) (fun x _ => 30 - (intOf x).toNat)
        case atStart => exact ⟨0, by omega, rfl, hbel⟩
        case round =>
          obtain ⟨k, hk, rfl, hbel2⟩ := hrel
          by_cases hlt : k < 30
          · have hck := chr_lt k hlt
            have hnk := hno k hlt
            clear hno
            go_wp2_with fail
            refine (zzad_one k wr hlt).mono ?_
            rintro e w1 ⟨g, cap, rfl, hc, hb1⟩
            have hb2 := hbel2.trans (hb1.mono hbel2.size)
            go_wp2
            go_roundw
            case rel => exact ⟨k + 1, by omega, by go_num, hb2⟩
            case measure => simp [intOf]; omega
          · obtain rfl : k = 30 := by omega
            go_wp2
            go_ret
            exact ⟨rfl, hbel2⟩
      · obtain ⟨x, hx, ev, ec⟩ := chr_dgv a0 hok
        rw [ev]
        have E := show Hid ((chr x : Int) = a0) from ec
        clear ev ec hok
        have hck := chr_lt x hx
        go_wp2_with fail
        refine (zzad_one x _ hx).mono ?_
        rintro e w1 ⟨g, cap, rfl, hc, hb1⟩
        have hb2 := hbel.trans (hb1.mono hbel.size)
        have hcc : ((chr x : Int) == a0) = true := by simp [E.out]
        go_wp2
        go_ret
        exact ⟨rfl, hb2⟩

set_option maxRecDepth 100000 in
theorem lifted (os : Os) (started : os.Started) (H : Type) (enc : TypeId × Value → H) :
    ReturnsInHanded {} Try.checked os 3 .any (Rows.fnDigitAgreesWithAppendDigitsSpec.pre6 enc Try.prog Try.f3 Rows.fnDigitAgreesWithAppendDigitsRow.domain false) (Rows.fnDigitAgreesWithAppendDigitsSpec.post enc Try.prog Try.f3 false true false false) := by
  refine returnsInHanded_of_change (C := Try.checked) own started (by kernel_rfl) Try.func3
    (ChangeSpec.witness6 (enc := enc) (C := Try.checked) false ⟨#[], #[.int .i32 0], []⟩ 8 (by kernel_rfl) (by kernel_rfl) (by kernel_rfl) (by kernel_rfl)) ?_
  intro W base args ds gs before hval0 hW hcnd _
  have hval : ∀ (j : Nat) t v, Try.f3.params[j]? = some t → args[j]? = some v → Value.okWide Try.prog W .any base t v := hval0
  have hW' := hW
  obtain ⟨p, q, hA0, hV, rfl, hfz, hnd⟩ := hW
  have hA : DataW.TrodAll enc Try.prog W 0 (fun _ => true) true Try.f3.params.toList args.toList ds p := hA0
  rw [Try.params3] at hA hval
  obtain ⟨v0, vs0, d0, ds0, p0, q0, hargs, rfl, rfl, h0, r0⟩ := trodAll_cons hA
  obtain ⟨rfl, rfl, rfl⟩ := trodAll_nil r0
  obtain rfl : args = #[v0] := by cases args; simp_all
  obtain ⟨rfl, rfl⟩ := trodVars_none hV
  obtain ⟨a0, rfl, rfl, rfl, w0⟩ := open_int Try.underlying21 (hval 0 21 v0 rfl rfl) h0
  clear hA0 hval0
  refine (walk a0 w0 W).mono fun e W' ⟨he, bel⟩ => ?_
  subst he
  exact ⟨_, rfl, _, _, _, [], _, [], hW', trodAll_mk1 (shut_bool Try.underlying4 _), (trodAll_cons_mk (shut_int Try.underlying21 w0) trodAll_mk0), rfl, bel.frame _, fun h => by cases h⟩

theorem over : Rows.fnDigitAgreesWithAppendDigitsRow.holds Try.pinned (OpenSpec.ofChange Rows.fnDigitAgreesWithAppendDigitsSpec) :=
  OpenClaim.holds_of_wide 3 Try.f3 rfl rfl rfl rfl rfl rfl rfl ⟨rfl, rfl, rfl, rfl, rfl⟩ rfl rfl rfl rfl rfl (by kernel_rfl) Try.func3 (by kernel_rfl)
    (of_decide_eq_true (by kernel_rfl)) (by unfold Func.isWrapper; first | (rw [if_pos (by decide +kernel)]; kernel_rfl) | (rw [if_neg (by decide +kernel)]; exact ⟨rfl, rfl⟩))
    (fun os started H enc _ => lifted os started H enc)

end Go.Proofs.Qxb6618214a.fnDigitAgreesWithAppendDigits
namespace Go.Proofs.Qxb6618214a
theorem fnDigitAgreesWithAppendDigits_proved : Rows.FnDigitAgreesWithAppendDigitsSaid := fnDigitAgreesWithAppendDigits.over
end Go.Proofs.Qxb6618214a
