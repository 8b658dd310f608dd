/-
  numeralLen, shortlexCmp, cmpU64, and the order of numerals.
-/
import Derived.Test.Qxb6618214aProg
import Derived.Test.Qxb6618214aDig
import Derived.WalkKit
import Derived.ProofKit
import Derived.Deep.QuietTactic
import Derived.BigQuiet
import Derived.WalkSmall
namespace Go.Proofs.Qxb6618214a
open Go.RowKit

theorem len_lt {d m : Nat} (h : isLen d m) : d < 30 ^ m := by
  have h1 := h.2.2.1
  rcases Nat.lt_or_ge d (30 ^ m) with h2 | h2
  · exact h2
  · have := Nat.div_pos h2 (Nat.pow_pos (by omega)); omega

theorem len_ge {d m : Nat} (h : isLen d m) : m = 1 ∨ 30 ^ (m - 1) ≤ d := by
  rcases h.2.2.2 with h1 | h1
  · exact Or.inl h1
  · refine Or.inr (Nat.le_of_not_lt fun h2 => h1 (Nat.div_eq_of_lt h2))

theorem len_more {d m k : Nat} (h : isLen d m) (hk : 30 ^ k ≤ d) : k < m := by
  refine Nat.lt_of_not_le fun h1 => ?_
  have h2 := len_lt h
  have := Nat.pow_le_pow_right (n := 30) (by omega) h1
  omega

theorem len_this {d m k : Nat} (h : isLen d m) (h1 : 1 ≤ k) (hkm : k ≤ m) (hk : d < 30 ^ k) : m = k := by
  rcases len_ge h with h2 | h2
  · omega
  · refine Nat.le_antisymm (Nat.le_of_not_lt fun h3 => ?_) hkm
    have := Nat.pow_le_pow_right (n := 30) (by omega) (show k ≤ m - 1 by omega)
    omega

theorem pow13 : (30 : Nat) ^ 13 = 15943230000000000000 := by decide
theorem pow_lo {k : Nat} (h : k ≤ 12) : (30 : Nat) ^ k ≤ 531441000000000000 := by
  have := Nat.pow_le_pow_right (n := 30) (by omega) h
  have e : (30 : Nat) ^ 12 = 531441000000000000 := by decide
  omega

theorem ret_int {k : IntKind} {a b : Int} (h : a = b) : Ending.returned (.int k a) = .returned (.int k b) := by rw [h]

set_option maxHeartbeats 1000000 in
theorem numlen_any (a m : Nat) (w : World) (_ha : a < 18446744073709551616) (hl : isLen a m) :
    Calls Try.prog 14 #[.int .u64 a] w fun e w' => e = .returned (.int .i64 m) ∧ w' = w := by
  have HL : Hid (isLen a m) := hl
  have hm14 : m ≤ 14 := hl.2.1
  have hm1 : 1 ≤ m := hl.1
  clear hl
  go_enter Try.func14, Try.ntmps14
  go_wp2
  go_loop [3, 4] (fun kv pv => ∃ k p : Nat, 1 ≤ k ∧ k ≤ 13 ∧ k ≤ m ∧ kv = .int .i64 k ∧ pv = .int .u64 p ∧ Hid (p = 30 ^ k)) (fun kv _ => 14 - (intOf kv).toNat)
  case atStart => exact ⟨1, 30, by omega, by omega, hm1, rfl, rfl, by show 30 = 30 ^ 1; rfl⟩
  case round =>
    obtain ⟨k, p, hk1, hk2, hkm, rfl, rfl, HP⟩ := hrel
    have hk14 : (k : Int) < 14 := by omega
    by_cases hle : p ≤ a
    · have hlt : k < m := len_more HL.out (by rw [← HP.out]; exact hle)
      by_cases h12 : k ≤ 12
      · have hp : p ≤ 531441000000000000 := by rw [HP.out]; exact pow_lo h12
        go_wp2
        go_round
        case rel => exact ⟨k + 1, p * 30, by omega, by omega, by omega, by go_num, by go_num, by rw [HP.out, Nat.pow_succ]; exact rfl⟩
        case measure => simp [intOf]; omega
      · obtain rfl : k = 13 := by omega
        have hp : p = 15943230000000000000 := by rw [HP.out, pow13]
        have hp1 : 15943230000000000000 ≤ p := by omega
        have hp2 : p ≤ 15943230000000000000 := by omega
        clear hp HP
        go_wp2
        go_ret
        exact ⟨ret_int (by omega), rfl⟩
    · have := len_this HL.out hk1 hkm (by rw [← HP.out]; omega)
      have HE : Hid (m = k) := this
      clear this
      have hgt : (a : Int) < (p : Int) := by omega
      go_wp2
      go_ret
      exact ⟨ret_int (by rw [HE.out]), rfl⟩

def cmpN (a b : Nat) : Int := if a < b then -1 else if b < a then 1 else 0

theorem cmp_any (a b : Nat) (w : World) (_ha : a < 18446744073709551616) (_hb : b < 18446744073709551616) :
    Calls Try.prog 16 #[.int .u64 a, .int .u64 b] w fun e w' => e = .returned (.int .i64 (cmpN a b)) ∧ w' = w := by
  rcases Nat.lt_trichotomy a b with h | h | h
  · go_enter Try.func16, Try.ntmps16
    go_wp2
    go_ret
    exact ⟨ret_int (by rw [cmpN, if_pos h]), rfl⟩
  · subst h
    go_enter Try.func16, Try.ntmps16
    go_wp2
    go_ret
    exact ⟨ret_int (by rw [cmpN, if_neg (by omega), if_neg (by omega)]), rfl⟩
  · go_enter Try.func16, Try.ntmps16
    go_wp2
    go_ret
    exact ⟨ret_int (by rw [cmpN, if_neg (by omega), if_pos h]), rfl⟩

/-! The plain law -/
theorem chr_lt_iff {x y : Nat} (hx : x < 30) (hy : y < 30) : chr x < chr y ↔ x < y := by unfold chr; split <;> split <;> omega
theorem chr_inj {x y : Nat} (hx : x < 30) (hy : y < 30) (h : chr x = chr y) : x = y := by revert h; unfold chr; split <;> split <;> omega
theorem dg_lt (d m j : Nat) : dg d m j < 30 := Nat.mod_lt _ (by omega)

theorem pre_step (d m i : Nat) (hi : i < m) : d / 30 ^ (m - (i + 1)) = 30 * (d / 30 ^ (m - i)) + dg d m i := by
  unfold dg
  have e : m - i = (m - (i + 1)) + 1 := by omega
  rw [e, Nat.pow_succ, ← Nat.div_div_eq_div_mul, show m - 1 - i = m - (i + 1) by omega]
  omega

theorem pre_eq (a b m : Nat) (ha : a / 30 ^ m = 0) (hb : b / 30 ^ m = 0) : ∀ i, i ≤ m → (∀ j, j < i → dg a m j = dg b m j) → a / 30 ^ (m - i) = b / 30 ^ (m - i)
  | 0, _, _ => by rw [Nat.sub_zero, ha, hb]
  | i + 1, hi, h => by
    rw [pre_step a m i (by omega), pre_step b m i (by omega), pre_eq a b m ha hb i (by omega) (fun j hj => h j (by omega)), h i (by omega)]

theorem lt_of_div {a b c : Nat} (h : a / c < b / c) : a < b := Nat.lt_of_not_le fun h1 => by have := Nat.div_le_div_right (c := c) h1; omega

theorem first_lt (a b m i : Nat) (ha : a / 30 ^ m = 0) (hb : b / 30 ^ m = 0) (hi : i < m) (h : ∀ j, j < i → dg a m j = dg b m j) (hlt : dg a m i < dg b m i) : a < b := by
  have h1 := pre_eq a b m ha hb i (by omega) h
  have h2 := pre_step a m i hi
  have h3 := pre_step b m i hi
  exact lt_of_div (c := 30 ^ (m - (i + 1))) (by omega)

theorem all_eq (a b m : Nat) (ha : a / 30 ^ m = 0) (hb : b / 30 ^ m = 0) (h : ∀ j, j < m → dg a m j = dg b m j) : a = b := by
  have h1 := pre_eq a b m ha hb m (by omega) h
  simpa using h1

theorem len_order {a b ma mb : Nat} (ha : isLen a ma) (hb : isLen b mb) (h : ma < mb) : a < b := by
  have h1 := len_lt ha
  rcases len_ge hb with h2 | h2
  · have := ha.1; omega
  · have := Nat.pow_le_pow_right (n := 30) (by omega) (show ma ≤ mb - 1 by omega)
    omega

theorem cmpN_lt {a b : Nat} (h : a < b) : cmpN a b = -1 := by rw [cmpN, if_pos h]
theorem cmpN_gt {a b : Nat} (h : b < a) : cmpN a b = 1 := by rw [cmpN, if_neg (by omega), if_pos h]
theorem cmpN_eq {a b : Nat} (h : a = b) : cmpN a b = 0 := by rw [cmpN, if_neg (by omega), if_neg (by omega)]

set_option maxHeartbeats 1000000 in
theorem short_any (a b ma mb g1 g2 c1 c2 : Nat) (w : World) (ha : isLen a ma) (hb : isLen b mb) (hg1 : g1 < w.heap.size) (hg2 : g2 < w.heap.size)
    (hc1 : ∀ j, j < ma → w.cell? ⟨g1, j, none⟩ = some (.int .u8 (chr (dg a ma j)))) (hc2 : ∀ j, j < mb → w.cell? ⟨g2, j, none⟩ = some (.int .u8 (chr (dg b mb j)))) :
    Calls Try.prog 15 #[.slice (some ⟨g1, 0, none⟩) ma c1, .slice (some ⟨g2, 0, none⟩) mb c2] w fun e w' => e = .returned (.int .i64 (cmpN a b)) ∧ Below w.heap.size w w' := by
  have HA : Hid (isLen a ma) := ha
  have HB : Hid (isLen b mb) := hb
  have h1 := ha.2.1
  have h2 := hb.2.1
  clear ha hb
  rcases Nat.lt_trichotomy ma mb with h | h | h
  · have HE : Hid (cmpN a b = -1) := cmpN_lt (len_order HA.out HB.out h)
    clear hc1 hc2
    go_enter Try.func15, Try.ntmps15
    go_wp2
    go_ret
    exact ⟨ret_int HE.out.symm, Below.refl _ _⟩
  · subst h
    go_enter Try.func15, Try.ntmps15
    go_wp2
    go_loopw [5] (fun i wr => ∃ k : Nat, k ≤ ma ∧ i = .int .i64 k ∧ Below w.heap.size w wr ∧ Hid (∀ j, j < k → dg a ma j = dg b ma j)) (fun i _ => ma - (intOf i).toNat)
    case atStart => exact ⟨0, by omega, rfl, Below.refl _ _, fun j hj => by omega⟩
    case round =>
      obtain ⟨k, hk, rfl, hbel, HQ⟩ := hrel
      have HBel : Hid (Below w.heap.size w wr) := hbel
      clear hbel
      by_cases hlt : k < ma
      · obtain ⟨x, hx⟩ : ∃ x, x = chr (dg a ma k) := ⟨_, rfl⟩
        obtain ⟨y, hy⟩ : ∃ y, y = chr (dg b ma k) := ⟨_, rfl⟩
        have q1 : wr.cell? ⟨g1, k, none⟩ = some (.int .u8 x) := by rw [hx]; exact (HBel.out.cell hg1).trans (hc1 k hlt)
        have q2 : wr.cell? ⟨g2, k, none⟩ = some (.int .u8 y) := by rw [hy]; exact (HBel.out.cell hg2).trans (hc2 k hlt)
        have HX : Hid (x = chr (dg a ma k)) := hx
        have HY : Hid (y = chr (dg b ma k)) := hy
        have hlt' : (k : Int) < (ma : Int) := by omega
        clear hx hy hc1 hc2
        rcases Nat.lt_trichotomy x y with h | h | h
        · have HE : Hid (cmpN a b = -1) := cmpN_lt (first_lt a b ma k HA.out.2.2.1 HB.out.2.2.1 hlt HQ.out ((chr_lt_iff (dg_lt _ _ _) (dg_lt _ _ _)).1 (by rw [← HX.out, ← HY.out]; exact h)))
          have h' : (x : Int) < (y : Int) := by omega
          go_wp2
          go_quiet (fail)
          go_wp2
          go_ret
          exact ⟨ret_int HE.out.symm, below_drewN HBel.out _⟩
        · have HE : Hid (dg a ma k = dg b ma k) := chr_inj (dg_lt _ _ _) (dg_lt _ _ _) (by rw [← HX.out, ← HY.out]; exact h)
          subst h
          go_wp2
          go_quiet (fail)
          go_wp2
          go_quiet (fail)
          go_wp2
          go_roundw
          case rel =>
            refine ⟨k + 1, by omega, by go_num, ?_, fun j hj => ?_⟩
            · exact below_drewN HBel.out _
            · by_cases e : j = k
              · rw [e]; exact HE.out
              · exact HQ.out j (by omega)
          case measure => simp [intOf]; omega
        · have HE : Hid (cmpN a b = 1) := cmpN_gt (first_lt b a ma k HB.out.2.2.1 HA.out.2.2.1 hlt (fun j hj => (HQ.out j hj).symm) ((chr_lt_iff (dg_lt _ _ _) (dg_lt _ _ _)).1 (by rw [← HX.out, ← HY.out]; exact h)))
          have h' : (y : Int) < (x : Int) := by omega
          go_wp2
          go_quiet (fail)
          go_wp2
          go_quiet (fail)
          go_wp2
          go_ret
          exact ⟨ret_int HE.out.symm, below_drewN (below_drewN HBel.out _) _⟩
      · obtain rfl : k = ma := by omega
        have HE : Hid (cmpN a b = 0) := cmpN_eq (all_eq a b k HA.out.2.2.1 HB.out.2.2.1 HQ.out)
        go_wp2
        go_ret
        exact ⟨ret_int HE.out.symm, HBel.out⟩
  · have HE : Hid (cmpN a b = 1) := cmpN_gt (len_order HB.out HA.out h)
    clear hc1 hc2
    go_enter Try.func15, Try.ntmps15
    go_wp2
    go_ret
    exact ⟨ret_int HE.out.symm, Below.refl _ _⟩

end Go.Proofs.Qxb6618214a
