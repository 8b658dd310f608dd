/-
  The digits of a number in base 30, and what appendDigits, ZZAppendDigits, digit, ZZDigit do: contracts for all four laws of the seat.
-/
import Derived.Test.Qxb6618214aProg
import Derived.WalkKit
import Derived.ProofKit
namespace Go.Proofs.Qxb6618214a
open Go.RowKit

/-- The character of the digit x. -/
def chr (x : Nat) : Nat := if x < 10 then 48 + x else 55 + x
/-- The j-th digit (from the left) of the numeral of d in m digits. -/
def dg (d m j : Nat) : Nat := d / 30 ^ (m - 1 - j) % 30
/-- The numeral of d in m digits, as cells. -/
def numv (d m : Nat) : List Value := (List.range m).map fun j => .int .u8 (chr (dg d m j))
/-- m is the length of the numeral of d. -/
def isLen (d m : Nat) : Prop := 1 ≤ m ∧ m ≤ 14 ∧ d / 30 ^ m = 0 ∧ (m = 1 ∨ d / 30 ^ (m - 1) ≠ 0)

def Suf (d : Nat) (m : Nat) (arr : Array Value) : Prop := arr.size = 14 ∧ ∀ j, m ≤ j → j < 14 → arr[j]? = some (.int .u8 (chr (d / 30 ^ (13 - j) % 30)))

def tab : ByteArray := { data := #[48, 49, 50, 51, 52, 53, 54, 55, 56, 57, 65, 66, 67, 68, 69, 70, 71, 72, 73, 74, 75, 76, 77, 78, 79, 80, 81, 82, 83, 84] }
theorem tab_at (r : Nat) (h : r < tab.size) : ((tab[r]'h).toNat : Int) = (chr r : Int) := by
  have h30 : r < 30 := h
  have : ∀ r : Fin 30, ((tab[r.val]'(r.isLt)).toNat : Int) = (chr r.val : Int) := by decide
  exact this ⟨r, h30⟩

theorem suf_step {d m q : Nat} {arr : Array Value} {x : Int} (h : Suf d m arr) (hm : 1 ≤ m) (hm2 : m ≤ 14) (hq : q = d / 30 ^ (14 - m)) (hx : x = (chr (q % 30) : Int)) : Suf d (m - 1) (arr.setIfInBounds (m - 1) (.int .u8 x)) := by
  obtain ⟨hs, hc⟩ := h
  refine ⟨by simpa using hs, fun j h1 h2 => ?_⟩
  by_cases e : j = m - 1
  · subst e
    rw [Array.getElem?_setIfInBounds_self_of_lt (by omega), hx, hq, show 14 - m = 13 - (m - 1) by omega]
  · rw [Array.getElem?_setIfInBounds_ne (by omega)]
    exact hc j (by omega) h2

theorem numv_len (d m : Nat) : (numv d m).length = m := by simp [numv]

theorem numv_get (d m j : Nat) (h : j < m) : (numv d m)[j]? = some (.int .u8 (chr (dg d m j))) := by simp [numv, h]

/-- The cells behind the loop: the row's end holds the numeral. -/
theorem suf_num {d m : Nat} {arr : Array Value} (h : Suf d (m - 1) arr) (hm : 1 ≤ m) (hm2 : m ≤ 14) (W : World) :
    ∀ j u, (numv d (15 - m))[j]? = some u → (W.alloc (.cells arr 42)).cell? ((⟨W.heap.size, m - 1, none⟩ : Addr).add j) = some u := by
  intro j u hu
  have hj : j < 15 - m := by have := (List.getElem?_eq_some_iff.1 hu).1; simpa [numv_len] using this
  rw [numv_get d _ j hj] at hu
  rw [← hu, Addr.add_lit, cell_of_row _ W.heap.size (m - 1 + j) arr 42 (0, 0) (heap_alloc_new W _), h.2 (m - 1 + j) (by omega) (by omega)]
  simp only [dg]
  rw [show 13 - (m - 1 + j) = 15 - m - 1 - j by omega]

theorem grown_alloc {w w' : World} {o : Obj} {row : Option Nat} (h : (w.alloc o).grownBy w' row) : w.grownBy w' row :=
  ⟨h.os, h.tape, h.output, by have := h.size; simp at this; omega, fun k hk hne => (h.block k (by simp; omega) hne).trans (Below.heap_alloc w o k hk)⟩

theorem Try.info5 : (Try.prog.info? 5).map (fun i => (i.zero, i.size, i.bytes)) = some (some (.int .u8 0), 1, 1) := by kernel_rfl

theorem slice_buf (g m : Nat) (hm : 1 ≤ m) (hm2 : m ≤ 14) (W : World) :
    (Instr.sliceAt 42 (.pointer (some ⟨g, 0, none⟩)) (some (.int .i64 ((m : Int) - 1))) none none).run Try.prog W = .ok (.slice (some ⟨g, m - 1, none⟩) (15 - m) (15 - m)) W := by
  have e1 : Try.prog.arrayLen 42 = 14 := by kernel_rfl
  have e2 : (sizeOf (Try.prog.elem 42)).run Try.prog W = .ok 1 W := by kernel_rfl
  rw [run_sliceAt_array_l W 42 ⟨g, 0, none⟩ (by kernel_rfl) .i64 _ (by omega) (by rw [e1]; omega), e1, e2]
  simp only [Result.andThen_ok, slicedAt]
  rw [if_neg (by omega), Addr.add_lit, show ((m : Int) - 1).toNat = m - 1 by omega, show 14 - (m - 1) = 15 - m by omega]
  simp

set_option maxHeartbeats 400000 in
theorem ad_any (base : Nat) (v : Value) (n : Nat) (xs : List Value) (d : Nat) (w : World) (h1 : d < 18446744073709551616) (hown : w.ownsRow base 5 1 v n xs) (hn : n ≤ 1048576) (hb : base ≤ w.heap.size) :
    Calls Try.prog 17 #[v, .int .u64 d] w fun e w' => ∃ v' m, e = .returned v' ∧ isLen d m ∧ w'.ownsRow base 5 1 v' (n + m) (xs ++ numv d m) ∧ w.grownBy w' v.ownBlock := by
  obtain ⟨i0, hi, hz0, hz1, hz2⟩ := info_parts Try.info5
  go_enter Try.func17, Try.ntmps17
  go_wp2
  go_loopw [1, 6] (fun dv i wr => ∃ (m q : Nat) (arr : Array Value), 1 ≤ m ∧ m ≤ 14 ∧ Hid (m = 14 ∨ d / 30 ^ (14 - m) ≠ 0) ∧ Hid (q = d / 30 ^ (14 - m)) ∧ q < 18446744073709551616 ∧ dv = .int .u64 q ∧ i = .int .i64 m ∧ wr = w.alloc (.cells arr 42) ∧ Hid (Suf d m arr)) (fun _ i _ => (intOf i).toNat)
  case atStart => exact ⟨14, d, _, by omega, by omega, Or.inl rfl, by simp [Hid], h1, rfl, rfl, rfl, ⟨rfl, fun j h2 h3 => by omega⟩⟩
  case round =>
    obtain ⟨m, q, arr, hm1, hm2, H1, H2, hq, rfl, rfl, rfl, HS⟩ := hrel
    obtain ⟨x, hx⟩ : ∃ x, arr[m - 1]? = some x := ⟨_, Array.getElem?_eq_getElem (by have := HS.out.1; omega)⟩
    have hsl := slice_buf w.heap.size m hm1 hm2
    have hq30 : q / 30 < 18446744073709551616 := by omega
    go_wp2_with (at_builtin; refine wpList_append_own _ rfl (.tmp 18) (.tmp 20) 22 rfl base 5 i0 (.int .u8 0) 1 1 Try.underlying22 hi hz0 hz1 hz2 rfl (by decide) v n xs rfl (hown.alloc _) ⟨w.heap.size, m - 1, none⟩ (15 - m) (15 - m) (numv d (15 - m)) rfl ?c0 ?c1 ?c2 ?c3 ?c4 ?c5 ?_)
    case c0 => simp [numv_len]
    case c1 => exact suf_num (suf_step HS.out hm1 hm2 H2.out (tab_at (q % 30) _)) hm1 hm2 w
    case c2 =>
      intro u hu
      obtain ⟨_, _, rfl⟩ := List.mem_map.1 hu
      rfl
    case c3 => unfold maxLen; omega
    case c4 => omega
    case c5 => simp; omega
    · intro v' w1 hown' hgrow _
      have hq0 : (↑q / 30 == (0 : Int)) = true := by assumption
      have hlen : isLen d (15 - m) := by
        refine ⟨by omega, by omega, ?_, ?_⟩
        · rw [show 15 - m = (14 - m) + 1 by omega, Nat.pow_succ, ← Nat.div_div_eq_div_mul, ← H2.out]
          simp at hq0; omega
        · rcases H1.out with h | h
          · exact Or.inl (by omega)
          · exact Or.inr (by rw [show 15 - m - 1 = 14 - m by omega]; exact h)
      have hg := grown_alloc hgrow
      clear hgrow hown
      go_wp2
      go_ret
      exact ⟨v', 15 - m, rfl, hlen, hown', hg⟩
    · have hq0 : (↑q / 30 == (0 : Int)) = false := by assumption
      have hne : q / 30 ≠ 0 := by simp at hq0; omega
      have e1 : q / 30 = d / 30 ^ (14 - (m - 1)) := by
        rw [H2.out, show 14 - (m - 1) = (14 - m) + 1 by omega, Nat.pow_succ, ← Nat.div_div_eq_div_mul]
      have hm3 : 2 ≤ m := by
        refine Nat.lt_of_not_le fun h => hne ?_
        rw [e1, show 14 - (m - 1) = 14 by omega]
        exact Nat.div_eq_of_lt (by omega)
      go_roundw
      case rel => exact ⟨m - 1, q / 30, _, by omega, by omega, Or.inr (by rw [← e1]; exact hne), e1, hq30, by go_num, by go_num, rfl, suf_step HS.out hm1 hm2 H2.out (tab_at (q % 30) _)⟩
      case measure => simp [intOf]; omega

set_option maxHeartbeats 400000 in
theorem zzad_any (base : Nat) (v : Value) (n : Nat) (xs : List Value) (d : Nat) (w : World) (h1 : d < 18446744073709551616) (hown : w.ownsRow base 5 1 v n xs) (hn : n ≤ 1048576) (hb : base ≤ w.heap.size) :
    Calls Try.prog 7 #[v, .int .u64 d] w fun e w' => ∃ v' m, e = .returned v' ∧ isLen d m ∧ w'.ownsRow base 5 1 v' (n + m) (xs ++ numv d m) ∧ w.grownBy w' v.ownBlock := by
  go_enter Try.func7, Try.ntmps7
  go_wp2_with fail
  refine (ad_any base v n xs d w h1 hown hn hb).mono ?_
  rintro e w' ⟨v', m, rfl, hl, ho, hg⟩
  go_wp2
  go_ret
  exact ⟨v', m, rfl, hl, ho, hg⟩

/-- The value that digit reads, and whether the rune is a digit. -/
def dgv (c : Int) : Int := if 48 ≤ c ∧ c ≤ 57 then c - 48 else if 65 ≤ c ∧ c ≤ 84 then c - 55 else 0
def dgok (c : Int) : Bool := decide ((48 ≤ c ∧ c ≤ 57) ∨ (65 ≤ c ∧ c ≤ 84))

theorem dgv_chr (x : Nat) (h : x < 30) : dgv (chr x) = x ∧ dgok (chr x) = true := by
  unfold dgv dgok chr
  by_cases h1 : x < 10
  · simp only [h1, if_true]
    constructor
    · rw [if_pos (by omega)]; omega
    · simp; omega
  · simp only [h1, if_false]
    constructor
    · rw [if_neg (by omega), if_pos (by omega)]; omega
    · simp; omega

theorem ret2_eq {a b : Int} {p q : Bool} (h : a = b) (h2 : p = q) : Ending.returned (.tuple #[.int .i64 a, .bool p]) = .returned (.tuple #[.int .i64 b, .bool q]) := by rw [h, h2]

set_option maxHeartbeats 400000 in
theorem digit_any (c : Int) (w : World) (h0 : -2147483648 ≤ c) (h1 : c ≤ 2147483647) :
    Calls Try.prog 18 #[.int .i32 c] w fun e w' => e = .returned (.tuple #[.int .i64 (dgv c), .bool (dgok c)]) ∧ w' = w := by
  rcases (show c < 48 ∨ (48 ≤ c ∧ c ≤ 57) ∨ (57 < c ∧ c < 65) ∨ (65 ≤ c ∧ c ≤ 84) ∨ 84 < c by omega) with h | ⟨h, h'⟩ | ⟨h, h'⟩ | ⟨h, h'⟩ | h
  all_goals
    go_enter Try.func18, Try.ntmps18
    go_wp2
    go_ret2
    exact ⟨ret2_eq (by unfold dgv; split <;> (try split) <;> omega) (by unfold dgok; first | (rw [eq_comm, decide_eq_true_iff]; omega) | (rw [eq_comm, decide_eq_false_iff_not]; omega)), rfl⟩

set_option maxHeartbeats 400000 in
theorem zzdigit_any (c : Int) (w : World) (h0 : -2147483648 ≤ c) (h1 : c ≤ 2147483647) :
    Calls Try.prog 8 #[.int .i32 c] w fun e w' => e = .returned (.tuple #[.int .i64 (dgv c), .bool (dgok c)]) ∧ w' = w := by
  go_enter Try.func8, Try.ntmps8
  go_wp2_with fail
  refine (digit_any c w h0 h1).mono ?_
  rintro e w' ⟨rfl, rfl⟩
  go_wp2
  go_ret2
  exact ⟨rfl, rfl⟩

/-- What is owned and not empty: the value's shape, and its cells. -/
theorem own_open {w : World} {base : Nat} {v : Value} {n : Nat} {xs : List Value} (h : w.ownsRow base 5 1 v n xs) (hn : 0 < n) :
    ∃ g cap, v = .slice (some ⟨g, 0, none⟩) n cap ∧ base ≤ g ∧ g < w.heap.size ∧ n ≤ cap ∧ cap ≤ maxLen ∧ ∀ j u, xs[j]? = some u → w.cell? ⟨g, j, none⟩ = some u := by
  have hc := fun g hg => h.cells (g := g) hg
  rcases h.2 with ⟨_, h0⟩ | ⟨g, cap, cur, rfl, hb, hg, hnc, hcm, hcs, htake⟩
  · omega
  · refine ⟨g, cap, rfl, hb, (Array.getElem?_eq_some_iff.1 hg).1, hnc, hcm, fun j u hu => ?_⟩
    have := hc g rfl j u hu
    rw [Addr.add_lit] at this
    simpa using this

/-- ZZAppendDigits(nil, d): a slice of its own that holds the numeral. -/
theorem zzad_nil (d : Nat) (w : World) (h1 : d < 18446744073709551616) :
    Calls Try.prog 7 #[.slice none 0 0, .int .u64 d] w fun e w' => ∃ g m cap, e = .returned (.slice (some ⟨g, 0, none⟩) m cap) ∧ isLen d m ∧ w.heap.size ≤ g ∧ g < w'.heap.size ∧ m ≤ cap ∧ cap ≤ maxLen ∧ (∀ j, j < m → w'.cell? ⟨g, j, none⟩ = some (.int .u8 (chr (dg d m j)))) ∧ Below w.heap.size w w' := by
  refine (zzad_any w.heap.size (.slice none 0 0) 0 [] d w h1 (World.ownsRow_nil _ _ _ _) (by omega) (Nat.le_refl _)).mono ?_
  rintro e w' ⟨v', m, rfl, hl, ho, hg⟩
  simp only [Nat.zero_add, List.nil_append] at ho
  obtain ⟨g, cap, rfl, hb, hgl, hmc, hcm, hc⟩ := own_open ho (by have := hl.1; omega)
  exact ⟨g, m, cap, rfl, hl, hb, hgl, hmc, hcm, fun j hj => hc j _ (numv_get d m j hj), (Below.refl _ _).grown hg (Nat.le_refl _) (fun k hk => by simp [Value.ownBlock] at hk)⟩

theorem isLen_small {d m : Nat} (h : isLen d m) (hd : d < 30) : m = 1 := by
  obtain ⟨h1, _, _, h2⟩ := h
  rcases h2 with h2 | h2
  · exact h2
  · refine Nat.le_antisymm (Nat.le_of_not_lt fun h3 => h2 (Nat.div_eq_of_lt (Nat.lt_of_lt_of_le hd ?_))) h1
    have := Nat.pow_le_pow_right (n := 30) (by omega) (show 1 ≤ m - 1 by omega)
    omega

/-- ZZAppendDigits(nil, d), d one digit. -/
theorem zzad_one (d : Nat) (w : World) (h1 : d < 30) :
    Calls Try.prog 7 #[.slice none 0 0, .int .u64 d] w fun e w' => ∃ g cap, e = .returned (.slice (some ⟨g, 0, none⟩) 1 cap) ∧ w'.cell? ⟨g, 0, none⟩ = some (.int .u8 (chr d)) ∧ Below w.heap.size w w' := by
  refine (zzad_nil d w (by omega)).mono ?_
  rintro e w' ⟨g, m, cap, rfl, hl, _, _, _, _, hc, hbel⟩
  obtain rfl := isLen_small hl h1
  refine ⟨g, cap, rfl, ?_, hbel⟩
  rw [hc 0 (by omega)]
  simp [dg, Nat.mod_eq_of_lt h1]
end Go.Proofs.Qxb6618214a
