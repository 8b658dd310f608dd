/-
  The law's walk.
-/
import Derived.Test.Qxb6619837aDig
namespace Go.Proofs.Qxb6619837a
open Go.RowKit

set_option maxRecDepth 20000 in
set_option maxHeartbeats 1000000 in
theorem law_dec (c : Int) (w : World) (h : dec c) : Calls Try.prog 3 #[.int .i32 c] w fun e w' => e = .returned (.bool true) ∧ w' = w := by
  have H : Hid (dec c) := h
  obtain ⟨h1, h2⟩ := h
  have hb : (c != 48 + (c - 48)) = false := by rw [bne_eq_false_iff_eq]; omega
  have hb2 : decide (c - 48 < 10) = true := decide_eq_true (by omega)
  have hb3 : decide (c - 48 < 16) = true := decide_eq_true (by omega)
  go_enter Try.func3, Try.ntmps3
  go_wp2_with fail
  refine (zzdv c _ w (dval_dec c w H.out)).mono ?_
  rintro e w ⟨rfl, rfl⟩
  go_wp2_with fail
  refine (num_dec (c - 48) false w (by omega) (by omega)).mono ?_
  rintro e w ⟨rfl, rfl⟩
  go_wp2_with fail
  refine (zzid c _ w (isdec_yes c w H.out)).mono ?_
  rintro e w ⟨rfl, rfl⟩
  go_wp2_with fail
  refine (zzih c _ w (ishex_dec c w H.out)).mono ?_
  rintro e w ⟨rfl, rfl⟩
  go_wp2_with fail
  refine (zzdec_yes c w H.out).mono ?_
  rintro e w ⟨rfl, rfl⟩
  go_wp2
  go_ret
  exact ⟨rfl, rfl⟩

set_option maxRecDepth 20000 in
set_option maxHeartbeats 1000000 in
theorem law_low (c : Int) (w : World) (h : low c) : Calls Try.prog 3 #[.int .i32 c] w fun e w' => e = .returned (.bool true) ∧ w' = w := by
  have H : Hid (low c) := h
  have hx := xor_low h
  obtain ⟨h1, h2⟩ := h
  have hb : (c != 87 + (c - 87)) = false := by rw [bne_eq_false_iff_eq]; omega
  have HD : Hid (¬ dec c) := by show ¬ dec c; unfold dec; omega
  have HD2 : Hid (¬ dec (c - 32)) := by show ¬ dec (c - 32); unfold dec; omega
  go_enter Try.func3, Try.ntmps3
  go_wp2_with fail
  refine (zzdv c _ w (dval_low c w H.out)).mono ?_
  rintro e w ⟨rfl, rfl⟩
  go_wp2_with fail
  refine (num_low (c - 87) w (by omega) (by omega)).mono ?_
  rintro e w ⟨rfl, rfl⟩
  go_wp2_with fail
  refine (zzid c _ w (isdec_no c w HD.out)).mono ?_
  rintro e w ⟨rfl, rfl⟩
  go_wp2_with fail
  refine (zzih c _ w (ishex_let c c w HD.out (or_low H.out) h1 h2)).mono ?_
  rintro e w ⟨rfl, rfl⟩
  go_wp2_with fail
  refine (zzdec_no c w HD.out).mono ?_
  rintro e w ⟨rfl, rfl⟩
  go_wp2_with fail
  refine (zzdec_no (c - 32) w HD2.out).mono ?_
  rintro e w ⟨rfl, rfl⟩
  go_wp2_with fail
  refine (zzdv (c - 32) _ w (dval_upp (c - 32) w (by unfold upp; omega))).mono ?_
  rintro e w ⟨rfl, rfl⟩
  go_wp2
  go_ret
  exact ⟨rfl, rfl⟩

set_option maxRecDepth 20000 in
set_option maxHeartbeats 1000000 in
theorem law_upp (c : Int) (w : World) (h : upp c) : Calls Try.prog 3 #[.int .i32 c] w fun e w' => e = .returned (.bool true) ∧ w' = w := by
  have H : Hid (upp c) := h
  have hx := xor_upp h
  obtain ⟨h1, h2⟩ := h
  have hb1 : (c != 87 + (c - 55)) = true := by rw [bne_iff_ne]; omega
  have hb2 : (c != 55 + (c - 55)) = false := by rw [bne_eq_false_iff_eq]; omega
  have HD : Hid (¬ dec c) := by show ¬ dec c; unfold dec; omega
  have HD2 : Hid (¬ dec (c + 32)) := by show ¬ dec (c + 32); unfold dec; omega
  go_enter Try.func3, Try.ntmps3
  go_wp2_with fail
  refine (zzdv c _ w (dval_upp c w H.out)).mono ?_
  rintro e w ⟨rfl, rfl⟩
  go_wp2_with fail
  refine (num_low (c - 55) w (by omega) (by omega)).mono ?_
  rintro e w ⟨rfl, rfl⟩
  go_wp2_with fail
  refine (num_upp (c - 55) w (by omega) (by omega)).mono ?_
  rintro e w ⟨rfl, rfl⟩
  go_wp2_with fail
  refine (zzid c _ w (isdec_no c w HD.out)).mono ?_
  rintro e w ⟨rfl, rfl⟩
  go_wp2_with fail
  refine (zzih c _ w (ishex_let c (c + 32) w HD.out (or_upp H.out) (by omega) (by omega))).mono ?_
  rintro e w ⟨rfl, rfl⟩
  go_wp2_with fail
  refine (zzdec_no c w HD.out).mono ?_
  rintro e w ⟨rfl, rfl⟩
  go_wp2_with fail
  refine (zzdec_no (c + 32) w HD2.out).mono ?_
  rintro e w ⟨rfl, rfl⟩
  go_wp2_with fail
  refine (zzdv (c + 32) _ w (dval_low (c + 32) w (by unfold low; omega))).mono ?_
  rintro e w ⟨rfl, rfl⟩
  go_wp2
  go_ret
  exact ⟨rfl, rfl⟩

set_option maxRecDepth 20000 in
set_option maxHeartbeats 1000000 in
theorem law_non (c : Int) (w : World) (h0 : -2147483648 ≤ c) (h1 : c ≤ 2147483647) (h : non c) : Calls Try.prog 3 #[.int .i32 c] w fun e w' => e = .returned (.bool true) ∧ w' = w := by
  obtain ⟨o, hx, o0, o1, ol, ou⟩ := xor_non h0 h1 h
  have HN : Hid (non c) := h
  have HOL : Hid (¬ low o) := ol
  have HOU : Hid (¬ upp o) := ou
  clear h ol ou
  go_enter Try.func3, Try.ntmps3
  go_wp2_with fail
  refine (zzdv c _ w (dval_non c w h0 h1 HN.out.1 HN.out.2.1 HN.out.2.2)).mono ?_
  rintro e w ⟨rfl, rfl⟩
  go_wp2
  go_loop [5] (fun i => ∃ k : Nat, k ≤ 16 ∧ i = .int .i32 k) (fun i => 16 - (intOf i).toNat)
  case atStart => exact ⟨0, by omega, rfl⟩
  case round =>
    obtain ⟨k, hk, rfl⟩ := hrel
    by_cases hlt : k < 16
    · by_cases h10 : k < 10
      · have hne : (c == 48 + (k : Int)) = false := beq_eq_false_iff_ne.2 (fun e => HN.out.1 (by unfold dec; omega))
        go_wp2_with fail
        refine (num_dec k false w (by omega) (by omega)).mono ?_
        rintro e w ⟨rfl, rfl⟩
        go_wp2_with fail
        refine (num_dec k true w (by omega) (by omega)).mono ?_
        rintro e w ⟨rfl, rfl⟩
        go_wp2
        go_round
        case rel => exact ⟨k + 1, by omega, by go_num⟩
        case measure => simp [intOf]; omega
      · have hne : (c == 87 + (k : Int)) = false := beq_eq_false_iff_ne.2 (fun e => HN.out.2.1 (by unfold low; omega))
        have hne2 : (c == 55 + (k : Int)) = false := beq_eq_false_iff_ne.2 (fun e => HN.out.2.2 (by unfold upp; omega))
        go_wp2_with fail
        refine (num_low k w (by omega) (by omega)).mono ?_
        rintro e w ⟨rfl, rfl⟩
        go_wp2_with fail
        refine (num_upp k w (by omega) (by omega)).mono ?_
        rintro e w ⟨rfl, rfl⟩
        go_wp2
        go_round
        case rel => exact ⟨k + 1, by omega, by go_num⟩
        case measure => simp [intOf]; omega
    · go_wp2_with fail
      refine (zzid c _ w (isdec_no c w HN.out.1)).mono ?_
      rintro e w ⟨rfl, rfl⟩
      go_wp2_with fail
      refine (zzih c _ w (ishex_non c w h0 h1 HN.out.1 HN.out.2.1 HN.out.2.2)).mono ?_
      rintro e w ⟨rfl, rfl⟩
      go_wp2_with fail
      refine (zzdec_no c w HN.out.1).mono ?_
      rintro e w ⟨rfl, rfl⟩
      go_wp2_with fail
      by_cases hod : dec o
      · refine (zzdec_yes o w hod).mono ?_
        rintro e w ⟨rfl, rfl⟩
        go_wp2
        go_ret
        exact ⟨rfl, rfl⟩
      · refine (zzdec_no o w hod).mono ?_
        rintro e w ⟨rfl, rfl⟩
        have HOD : Hid (¬ dec o) := hod
        clear hod
        go_wp2_with fail
        refine (zzdv o _ w (dval_non o w o0 o1 HOD.out HOL.out HOU.out)).mono ?_
        rintro e w ⟨rfl, rfl⟩
        go_wp2
        go_ret
        exact ⟨rfl, rfl⟩

theorem law_all (c : Int) (w : World) (h0 : -2147483648 ≤ c) (h1 : c ≤ 2147483647) : Calls Try.prog 3 #[.int .i32 c] w fun e w' => e = .returned (.bool true) ∧ w' = w := by
  by_cases hd : dec c
  · exact law_dec c w hd
  · by_cases hl : low c
    · exact law_low c w hl
    · by_cases hu : upp c
      · exact law_upp c w hu
      · exact law_non c w h0 h1 ⟨hd, hl, hu⟩
end Go.Proofs.Qxb6619837a
