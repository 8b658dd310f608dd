/-
  digitValue, isDecimal, isHex, the numerals, case by case; the law's walk.
-/
import Derived.Test.Qxb6619837aBits
namespace Go.Proofs.Qxb6619837a
open Go.RowKit

theorem ret_int {k : IntKind} {a b : Int} (h : a = b) : Ending.returned (.int k a) = .returned (.int k b) := by rw [h]
theorem ret_bool {a b : Bool} (h : a = b) : Ending.returned (.bool a) = .returned (.bool b) := by rw [h]

/-- The three kinds of a digit, and none. -/
def dec (c : Int) : Prop := 48 ≤ c ∧ c ≤ 57
def low (c : Int) : Prop := 97 ≤ c ∧ c ≤ 102
def upp (c : Int) : Prop := 65 ≤ c ∧ c ≤ 70
def non (c : Int) : Prop := ¬ dec c ∧ ¬ low c ∧ ¬ upp c

theorem or_low {c : Int} (h : low c) : bits .or .i32 c 32 = c := by
  obtain ⟨h1, h2⟩ := h; rw [i32_or c (by omega) (by omega)]; omega
theorem or_upp {c : Int} (h : upp c) : bits .or .i32 c 32 = c + 32 := by
  obtain ⟨h1, h2⟩ := h; rw [i32_or c (by omega) (by omega)]; omega
theorem or_non {c : Int} (h0 : -2147483648 ≤ c) (h1 : c ≤ 2147483647) (h2 : ¬ low c) (h3 : ¬ upp c) : ∃ o, bits .or .i32 c 32 = o ∧ (o < 97 ∨ 102 < o) := by
  refine ⟨_, rfl, ?_⟩
  rw [i32_or c h0 h1]
  unfold low at h2; unfold upp at h3
  omega
theorem xor_low {c : Int} (h : low c) : bits .xor .i32 c 32 = c - 32 := by
  obtain ⟨h1, h2⟩ := h; rw [i32_xor c (by omega) (by omega)]; omega
theorem xor_upp {c : Int} (h : upp c) : bits .xor .i32 c 32 = c + 32 := by
  obtain ⟨h1, h2⟩ := h; rw [i32_xor c (by omega) (by omega)]; omega
theorem xor_non {c : Int} (h0 : -2147483648 ≤ c) (h1 : c ≤ 2147483647) (h : non c) : ∃ o, bits .xor .i32 c 32 = o ∧ -2147483648 ≤ o ∧ o ≤ 2147483647 ∧ ¬ low o ∧ ¬ upp o := by
  refine ⟨_, rfl, ?_⟩
  rw [i32_xor c h0 h1]
  unfold non dec low upp at h
  unfold low upp
  omega

theorem isdec_yes (c : Int) (w : World) (h : dec c) : Calls Try.prog 10 #[.int .i32 c] w fun e w' => e = .returned (.bool true) ∧ w' = w := by
  obtain ⟨h1, h2⟩ := h
  go_enter Try.func10, Try.ntmps10
  go_wp2
  go_ret
  exact ⟨rfl, rfl⟩
theorem isdec_no (c : Int) (w : World) (h : ¬ dec c) : Calls Try.prog 10 #[.int .i32 c] w fun e w' => e = .returned (.bool false) ∧ w' = w := by
  have h' : c < 48 ∨ (48 ≤ c ∧ 57 < c) := by unfold dec at h; omega
  clear h
  rcases h' with h | ⟨h, h'⟩
  · go_enter Try.func10, Try.ntmps10
    go_wp2
    go_ret
    exact ⟨rfl, rfl⟩
  · go_enter Try.func10, Try.ntmps10
    go_wp2
    go_ret
    exact ⟨ret_bool (decide_eq_false (by omega)), rfl⟩

theorem dval_dec (c : Int) (w : World) (h : dec c) : Calls Try.prog 9 #[.int .i32 c] w fun e w' => e = .returned (.int .i64 (c - 48)) ∧ w' = w := by
  have H : Hid (dec c) := h
  obtain ⟨h1, h2⟩ := h
  go_enter Try.func9, Try.ntmps9
  go_wp2_with fail
  refine (isdec_yes c w H.out).mono ?_
  rintro e w' ⟨rfl, rfl⟩
  go_wp2
  go_ret
  exact ⟨rfl, rfl⟩
theorem dval_low (c : Int) (w : World) (h : low c) : Calls Try.prog 9 #[.int .i32 c] w fun e w' => e = .returned (.int .i64 (c - 87)) ∧ w' = w := by
  have ho := or_low h
  obtain ⟨h1, h2⟩ := h
  go_enter Try.func9, Try.ntmps9
  go_wp2_with fail
  refine (isdec_no c w (by unfold dec; omega)).mono ?_
  rintro e w' ⟨rfl, rfl⟩
  go_wp2
  go_ret
  exact ⟨ret_int (by omega), rfl⟩
theorem dval_upp (c : Int) (w : World) (h : upp c) : Calls Try.prog 9 #[.int .i32 c] w fun e w' => e = .returned (.int .i64 (c - 55)) ∧ w' = w := by
  have ho := or_upp h
  obtain ⟨h1, h2⟩ := h
  go_enter Try.func9, Try.ntmps9
  go_wp2_with fail
  refine (isdec_no c w (by unfold dec; omega)).mono ?_
  rintro e w' ⟨rfl, rfl⟩
  go_wp2
  go_ret
  exact ⟨ret_int (by omega), rfl⟩
theorem dval_non (c : Int) (w : World) (h0 : -2147483648 ≤ c) (h1 : c ≤ 2147483647) (h2 : ¬ dec c) (h3 : ¬ low c) (h4 : ¬ upp c) : Calls Try.prog 9 #[.int .i32 c] w fun e w' => e = .returned (.int .i64 16) ∧ w' = w := by
  obtain ⟨o, ho, hc⟩ := or_non h0 h1 h3 h4
  have H : Hid (¬ dec c) := h2
  clear h2 h3 h4
  rcases hc with hc | hc
  all_goals
    go_enter Try.func9, Try.ntmps9
    go_wp2_with fail
    refine (isdec_no c w H.out).mono ?_
    rintro e w' ⟨rfl, rfl⟩
    go_wp2
    go_ret
    exact ⟨rfl, rfl⟩

/-! isHex -/
theorem ishex_dec (c : Int) (w : World) (h : dec c) : Calls Try.prog 11 #[.int .i32 c] w fun e w' => e = .returned (.bool true) ∧ w' = w := by
  go_enter Try.func11, Try.ntmps11
  go_wp2_with fail
  refine (isdec_yes c w h).mono ?_
  rintro e w' ⟨rfl, rfl⟩
  go_wp2
  go_ret
  exact ⟨rfl, rfl⟩
theorem ishex_let (c o : Int) (w : World) (hd : ¬ dec c) (ho : bits .or .i32 c 32 = o) (h1 : 97 ≤ o) (h2 : o ≤ 102) : Calls Try.prog 11 #[.int .i32 c] w fun e w' => e = .returned (.bool true) ∧ w' = w := by
  have H : Hid (¬ dec c) := hd
  clear hd
  go_enter Try.func11, Try.ntmps11
  go_wp2_with fail
  refine (isdec_no c w H.out).mono ?_
  rintro e w' ⟨rfl, rfl⟩
  go_wp2
  go_ret
  exact ⟨rfl, rfl⟩
theorem ishex_non (c : Int) (w : World) (h0 : -2147483648 ≤ c) (h1 : c ≤ 2147483647) (h2 : ¬ dec c) (h3 : ¬ low c) (h4 : ¬ upp c) : Calls Try.prog 11 #[.int .i32 c] w fun e w' => e = .returned (.bool false) ∧ w' = w := by
  obtain ⟨o, ho, hc⟩ := or_non h0 h1 h3 h4
  have H : Hid (¬ dec c) := h2
  clear h2 h3 h4
  rcases (show o < 97 ∨ (97 ≤ o ∧ 102 < o) by omega) with hc | ⟨hc, hc'⟩
  · go_enter Try.func11, Try.ntmps11
    go_wp2_with fail
    refine (isdec_no c w H.out).mono ?_
    rintro e w' ⟨rfl, rfl⟩
    go_wp2
    go_ret
    exact ⟨rfl, rfl⟩
  · go_enter Try.func11, Try.ntmps11
    go_wp2_with fail
    refine (isdec_no c w H.out).mono ?_
    rintro e w' ⟨rfl, rfl⟩
    go_wp2
    go_ret
    exact ⟨ret_bool (decide_eq_false (by omega)), rfl⟩

/-! The law's own digit test -/
theorem zzdec_yes (c : Int) (w : World) (h : dec c) : Calls Try.prog 8 #[.int .i32 c] w fun e w' => e = .returned (.bool true) ∧ w' = w := by
  obtain ⟨h1, h2⟩ := h
  go_enter Try.func8, Try.ntmps8
  go_wp2
  go_ret
  exact ⟨rfl, rfl⟩
theorem zzdec_no (c : Int) (w : World) (h : ¬ dec c) : Calls Try.prog 8 #[.int .i32 c] w fun e w' => e = .returned (.bool false) ∧ w' = w := by
  have h' : c < 48 ∨ (48 ≤ c ∧ 57 < c) := by unfold dec at h; omega
  clear h
  rcases h' with h | ⟨h, h'⟩
  · go_enter Try.func8, Try.ntmps8
    go_wp2
    go_ret
    exact ⟨rfl, rfl⟩
  · go_enter Try.func8, Try.ntmps8
    go_wp2
    go_ret
    exact ⟨ret_bool (decide_eq_false (by omega)), rfl⟩

/-! The numerals -/
theorem num_dec (v : Int) (up : Bool) (w : World) (h0 : 0 ≤ v) (h1 : v < 10) : Calls Try.prog 5 #[.int .i32 v, .bool up] w fun e w' => e = .returned (.int .i32 (48 + v)) ∧ w' = w := by
  go_enter Try.func5, Try.ntmps5
  go_wp2
  go_ret
  exact ⟨rfl, rfl⟩
theorem num_low (v : Int) (w : World) (h0 : 10 ≤ v) (h1 : v < 16) : Calls Try.prog 5 #[.int .i32 v, .bool false] w fun e w' => e = .returned (.int .i32 (87 + v)) ∧ w' = w := by
  go_enter Try.func5, Try.ntmps5
  go_wp2
  go_ret
  exact ⟨ret_int (by omega), rfl⟩
theorem num_upp (v : Int) (w : World) (h0 : 10 ≤ v) (h1 : v < 16) : Calls Try.prog 5 #[.int .i32 v, .bool true] w fun e w' => e = .returned (.int .i32 (55 + v)) ∧ w' = w := by
  go_enter Try.func5, Try.ntmps5
  go_wp2
  go_ret
  exact ⟨ret_int (by omega), rfl⟩

/-! The three thin shims -/
theorem zzdv (c v : Int) (w : World) (h : Calls Try.prog 9 #[.int .i32 c] w fun e w' => e = .returned (.int .i64 v) ∧ w' = w) : Calls Try.prog 4 #[.int .i32 c] w fun e w' => e = .returned (.int .i64 v) ∧ w' = w := by
  have H : Hid (Calls Try.prog 9 #[.int .i32 c] w fun e w' => e = .returned (.int .i64 v) ∧ w' = w) := h
  clear h
  go_enter Try.func4, Try.ntmps4
  go_wp2_with fail
  refine H.out.mono ?_
  rintro e w' ⟨rfl, rfl⟩
  go_wp2
  go_ret
  exact ⟨rfl, rfl⟩
theorem zzid (c : Int) (b : Bool) (w : World) (h : Calls Try.prog 10 #[.int .i32 c] w fun e w' => e = .returned (.bool b) ∧ w' = w) : Calls Try.prog 6 #[.int .i32 c] w fun e w' => e = .returned (.bool b) ∧ w' = w := by
  have H : Hid (Calls Try.prog 10 #[.int .i32 c] w fun e w' => e = .returned (.bool b) ∧ w' = w) := h
  clear h
  go_enter Try.func6, Try.ntmps6
  go_wp2_with fail
  refine H.out.mono ?_
  rintro e w' ⟨rfl, rfl⟩
  go_wp2
  go_ret
  exact ⟨rfl, rfl⟩
theorem zzih (c : Int) (b : Bool) (w : World) (h : Calls Try.prog 11 #[.int .i32 c] w fun e w' => e = .returned (.bool b) ∧ w' = w) : Calls Try.prog 7 #[.int .i32 c] w fun e w' => e = .returned (.bool b) ∧ w' = w := by
  have H : Hid (Calls Try.prog 11 #[.int .i32 c] w fun e w' => e = .returned (.bool b) ∧ w' = w) := h
  clear h
  go_enter Try.func7, Try.ntmps7
  go_wp2_with fail
  refine H.out.mono ?_
  rintro e w' ⟨rfl, rfl⟩
  go_wp2
  go_ret
  exact ⟨rfl, rfl⟩
end Go.Proofs.Qxb6619837a
