/-
  ZZTally, ZZTallyLens, zzIndexOf; what the law's loop knows of the world.
-/
import Derived.Test.Qxb6618429aMap
namespace Go.Proofs.Qxb6618429a
open Go.RowKit Go.Maps

theorem zz_old (V : Nat) (ks gs : List Nat) (w : World) (h : Near w V ks gs) (j k g : Nat) (hk : k < 18446744073709551616) (hj : ks[j]? = some k) (hg : gs[j]? = some g) :
    Calls Try.prog 7 #[.pointer (some ⟨V, 0, none⟩), .int .u64 k] w fun e w' => e = .returned (.pointer (some ⟨g, 0, none⟩)) ∧ w' = w := by
  have HJ : Hid (ks[j]? = some k) := hj
  have HG : Hid (gs[j]? = some g) := hg
  clear hj hg
  go_enter Try.func7, Try.ntmps7
  go_wp2_with fail
  refine (tally_old V ks gs w h j k g hk HJ.out HG.out).mono ?_
  rintro e w' ⟨rfl, rfl⟩
  go_wp2
  go_ret
  exact ⟨rfl, rfl⟩

theorem zz_new (V : Nat) (ks gs : List Nat) (w : World) (h : Near w V ks gs) (k : Nat) (hk : k < 18446744073709551616) (hks : k ∉ ks) (hl : ks.length ≤ 4096) :
    Calls Try.prog 7 #[.pointer (some ⟨V, 0, none⟩), .int .u64 k] w fun e w' => ∃ g, e = .returned (.pointer (some ⟨g, 0, none⟩)) ∧ Made V w w' ks gs k g := by
  have HK : Hid (k ∉ ks) := hks
  clear hks
  go_enter Try.func7, Try.ntmps7
  go_wp2_with fail
  refine (tally_new V ks gs w h k hk HK.out hl).mono ?_
  rintro e w' ⟨g, rfl, hm⟩
  have HM : Hid (Made V w w' ks gs k g) := hm
  clear hm
  go_wp2
  go_ret
  exact ⟨_, rfl, HM.out⟩

theorem lens_any (g : Nat) (w : World) (h : w.heap[g]? = some (.cells #[.slice none 0 0, .slice none 0 0] 43 (0, 0))) :
    Calls Try.prog 9 #[.pointer (some ⟨g, 0, none⟩)] w fun e w' => e = .returned (.tuple #[.int .i64 0, .int .i64 0]) ∧ ∃ q, w' = w.drewN q := by
  have h1 : w.cell? ⟨g, 0, none⟩ = some (.slice none 0 0) := (cell_of_row _ _ _ _ _ _ h).trans rfl
  have h2 : w.cell? ⟨g, 1, none⟩ = some (.slice none 0 0) := (cell_of_row _ _ _ _ _ _ h).trans rfl
  clear h
  go_enter Try.func9, Try.ntmps9
  go_wp2
  go_quiet (fail)
  go_wp2
  go_ret2
  exact ⟨rfl, _, rfl⟩

theorem ret_int {k : IntKind} {a b : Int} (h : a = b) : Ending.returned (.int k a) = .returned (.int k b) := by rw [h]

set_option maxHeartbeats 400000 in
theorem index_yes (S cap j k : Nat) (ks : List Nat) (w : World) (hl : ks.length ≤ 4096) (hc : ∀ i, i < ks.length → w.cell? ⟨S, i, none⟩ = some (.int .u64 (ks.getD i 0))) (hj : j < ks.length) (hk : ks.getD j 0 = k) (hne : ∀ i, i < j → ks.getD i 0 ≠ k) :
    Calls Try.prog 8 #[.slice (some ⟨S, 0, none⟩) ks.length cap, .int .u64 k] w fun e w' => e = .returned (.int .i64 j) ∧ w' = w := by
  have HC : Hid (∀ i, i < ks.length → w.cell? ⟨S, i, none⟩ = some (.int .u64 (ks.getD i 0))) := hc
  have HK : Hid (ks.getD j 0 = k) := hk
  have HN : Hid (∀ i, i < j → ks.getD i 0 ≠ k) := hne
  obtain ⟨n, hn⟩ : ∃ n, n = ks.length := ⟨_, rfl⟩
  rw [← hn] at hl hj ⊢
  have HL : Hid (n = ks.length) := hn
  clear hc hk hne hn
  go_enter Try.func8, Try.ntmps8
  go_wp2
  go_loop [5] (fun i => ∃ m : Nat, m ≤ j ∧ i = .int .i64 m) (fun i => n - (intOf i).toNat)
  case atStart => exact ⟨0, by omega, rfl⟩
  case round =>
    obtain ⟨m, hm, rfl⟩ := hrel
    have hmn : (m : Int) < (n : Int) := by omega
    obtain ⟨x, hx⟩ : ∃ x, x = ks.getD m 0 := ⟨_, rfl⟩
    have q : w.cell? ⟨S, m, none⟩ = some (.int .u64 x) := by rw [hx]; exact HC.out m (by have := HL.out; omega)
    by_cases e : m = j
    · have HE : Hid (m = j) := e
      have hxk : ((x : Int) == k) = true := by rw [hx, e, HK.out]; simp
      clear hx e
      go_wp2
      go_ret
      exact ⟨ret_int (by rw [HE.out]), rfl⟩
    · have hxk : ((x : Int) == k) = false := beq_eq_false_iff_ne.2 (fun h => HN.out m (by omega) (by rw [← hx]; omega))
      have hmj : m < j := by omega
      clear hx e
      go_wp2
      go_round
      case rel => exact ⟨m + 1, by omega, by go_num⟩
      case measure => simp [intOf]; omega

set_option maxHeartbeats 400000 in
theorem index_no (S cap k : Nat) (ks : List Nat) (w : World) (hl : ks.length ≤ 4096) (hc : ∀ i, i < ks.length → w.cell? ⟨S, i, none⟩ = some (.int .u64 (ks.getD i 0))) (hne : ∀ i, i < ks.length → ks.getD i 0 ≠ k) :
    Calls Try.prog 8 #[.slice (some ⟨S, 0, none⟩) ks.length cap, .int .u64 k] w fun e w' => e = .returned (.int .i64 (-1)) ∧ w' = w := by
  have HC : Hid (∀ i, i < ks.length → w.cell? ⟨S, i, none⟩ = some (.int .u64 (ks.getD i 0))) := hc
  have HN : Hid (∀ i, i < ks.length → ks.getD i 0 ≠ k) := hne
  obtain ⟨n, hn⟩ : ∃ n, n = ks.length := ⟨_, rfl⟩
  rw [← hn] at hl ⊢
  have HL : Hid (n = ks.length) := hn
  clear hc hne hn
  go_enter Try.func8, Try.ntmps8
  go_wp2
  go_loop [5] (fun i => ∃ m : Nat, m ≤ n ∧ i = .int .i64 m) (fun i => n - (intOf i).toNat)
  case atStart => exact ⟨0, by omega, rfl⟩
  case round =>
    obtain ⟨m, hm, rfl⟩ := hrel
    by_cases hlt : m < n
    · have hmn : (m : Int) < (n : Int) := by omega
      obtain ⟨x, hx⟩ : ∃ x, x = ks.getD m 0 := ⟨_, rfl⟩
      have q : w.cell? ⟨S, m, none⟩ = some (.int .u64 x) := by rw [hx]; exact HC.out m (by have := HL.out; omega)
      have hxk : ((x : Int) == k) = false := beq_eq_false_iff_ne.2 (fun h => HN.out m (by have := HL.out; omega) (by rw [← hx]; omega))
      clear hx
      go_wp2
      go_round
      case rel => exact ⟨m + 1, by omega, by go_num⟩
      case measure => simp [intOf]; omega
    · have hmn : (n : Int) ≤ (m : Int) := by omega
      go_wp2
      go_ret
      exact ⟨rfl, rfl⟩
end Go.Proofs.Qxb6618429a
