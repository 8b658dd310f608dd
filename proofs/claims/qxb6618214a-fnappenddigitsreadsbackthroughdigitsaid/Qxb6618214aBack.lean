/-
  appendDigits at a full slice that is only read; the walk of the law 'reads back'.
-/
import Derived.Test.Qxb6618214aAdd2
import Derived.Test.Qxb6618214aShort
namespace Go.Proofs.Qxb6618214a
open Go.RowKit

theorem back_chr_lt (x : Nat) (h : x < 30) : chr x < 256 := by unfold chr; split <;> omega

theorem back_digit (x : Nat) (w : World) (h : x < 30) :
    Calls Try.prog 8 #[.int .i32 (chr x)] w fun e w' => e = .returned (.tuple #[.int .i64 x, .bool true]) ∧ w' = w := by
  have hc := back_chr_lt x h
  refine (zzdigit_any (chr x) w (by omega) (by omega)).mono ?_
  rintro e w' ⟨rfl, rfl⟩
  rw [(dgv_chr x h).1, (dgv_chr x h).2]
  exact ⟨rfl, rfl⟩

theorem below_one (w : World) (o : Obj) : Below w.heap.size w (w.alloc o) := (Below.refl _ _).alloc (Nat.le_refl _) _

/-- What appendDigits leaves. -/
def Left2 (w w' : World) (n d : Nat) (zs : List Int) (g m cap : Nat) : Prop :=
  isLen d m ∧ n + m ≤ cap ∧ g < w'.heap.size ∧ (∀ i, i < n → w'.cell? ⟨g, i, none⟩ = some (.int .u8 (zs.getD i 0))) ∧ (∀ j, j < m → w'.cell? ⟨g, n + j, none⟩ = some (.int .u8 (chr (dg d m j)))) ∧ Below w.heap.size w w'

theorem left2_of {w w1 : World} {o : Obj} {n m d base : Nat} {zs : List Int} {v : Value} (hz : zs.length = n) (hl : isLen d m) (ho : w1.ownsRow base 5 1 v (n + m) (zs.map (Value.int .u8) ++ numv d m)) (hg : (w.alloc o).grownBy w1 none) :
    ∃ g cap, v = .slice (some ⟨g, 0, none⟩) (n + m) cap ∧ Left2 w w1 n d zs g m cap := by
  obtain ⟨g, cap, rfl, hb, hlt, hnc, hcm, hc⟩ := own_open ho (by have := hl.1; omega)
  refine ⟨g, cap, rfl, hl, hnc, hlt, fun i hi => hc i _ ?_, fun j hj => hc _ _ ?_, (below_one w o).trans ((below_of_grown hg).mono (by simp))⟩
  · rw [List.getElem?_append_left (by simp; omega), List.getElem?_map, List.getD_eq_getElem?_getD, List.getElem?_eq_getElem (by omega)]; rfl
  · rw [List.getElem?_append_right (by simp; omega), List.length_map, hz, Nat.add_sub_cancel_left]; exact numv_get d m j hj

set_option maxHeartbeats 400000 in
theorem ad2 (ao : Option Addr) (n : Nat) (zs : List Int) (d : Nat) (w : World) (h1 : d < 18446744073709551616) (hr : Rd w ao n zs) (hao : ao = none → n = 0) (hn : n ≤ 1048576) :
    Calls Try.prog 17 #[.slice ao n n, .int .u64 d] w fun e w' => ∃ g m cap, e = .returned (.slice (some ⟨g, 0, none⟩) (n + m) cap) ∧ Left2 w w' n d zs g m cap := by
  obtain ⟨i0, hi, hz0, hz1, hz2⟩ := info_parts Try.info5
  have HR : Hid (Rd w ao n zs) := hr
  have HA : Hid (ao = none → n = 0) := hao
  clear hr hao
  go_enter Try.func17, Try.ntmps17
  go_wp2
  go_loopw [1, 6] (fun dv i wr => ∃ (m q : Nat) (arr : Array Value), 1 ≤ m ∧ m ≤ 14 ∧ Hid (m = 14 ∨ d / 30 ^ (14 - m) ≠ 0) ∧ Hid (q = d / 30 ^ (14 - m)) ∧ q < 18446744073709551616 ∧ dv = .int .u64 q ∧ i = .int .i64 m ∧ wr = w.alloc (.cells arr 42) ∧ Hid (Suf d m arr)) (fun _ i _ => (intOf i).toNat)
  case atStart => exact ⟨14, d, _, by omega, by omega, Or.inl rfl, by simp [Hid], h1, rfl, rfl, rfl, ⟨rfl, fun j h2 h3 => by omega⟩⟩
  case round =>
    obtain ⟨m, q, arr, hm1, hm2, H1, H2, hq, rfl, rfl, rfl, HS⟩ := hrel
    obtain ⟨x, hx⟩ : ∃ x, arr[m - 1]? = some x := ⟨_, Array.getElem?_eq_getElem (by have := HS.out.1; omega)⟩
    have hsl := slice_buf w.heap.size m hm1 hm2
    have hq30 : q / 30 < 18446744073709551616 := by omega
    go_wp2_with (at_builtin; go_must (refine wpList_append_grows _ rfl (.tmp 18) (.tmp 20) 22 rfl 5 i0 (.int .u8 0) 1 1 Try.underlying22 hi hz0 hz1 hz2 rfl (by decide) ao n n (zs.map (Value.int .u8)) rfl (fun h => ⟨HA.out h, HA.out h⟩) (by simpa using HR.out.1) (rd_olds (HR.out.keep (below_one w _))) ⟨w.heap.size, m - 1, none⟩ (15 - m) (15 - m) (numv d (15 - m)) rfl ?c0 ?c1 ?c2 ?c3 ?c4 ?c5 ?_))
    case c0 => simp [numv_len]
    case c1 => exact suf_num (suf_step HS.out hm1 hm2 H2.out (tab_at (q % 30) _)) hm1 hm2 w
    case c2 =>
      intro u hu
      obtain ⟨_, _, rfl⟩ := List.mem_map.1 hu
      rfl
    case c3 => omega
    case c4 => unfold maxLen; omega
    case c5 => omega
    · intro v' w1 hown' hgrow
      have hq0 : (↑q / 30 == (0 : Int)) = true := by assumption
      have hlen : isLen d (15 - m) := by
        refine ⟨by omega, by omega, ?_, ?_⟩
        · rw [show 15 - m = (14 - m) + 1 by omega, Nat.pow_succ, ← Nat.div_div_eq_div_mul, ← H2.out]
          simp at hq0; omega
        · rcases H1.out with h | h
          · exact Or.inl (by omega)
          · exact Or.inr (by rw [show 15 - m - 1 = 14 - m by omega]; exact h)
      obtain ⟨g, cap, rfl, hleft⟩ := left2_of HR.out.1 hlen hown' hgrow
      have HLf : Hid (Left2 w w1 n d zs g (15 - m) cap) := hleft
      clear hgrow hown' hlen hleft
      go_wp2
      go_ret
      exact ⟨g, 15 - m, cap, rfl, HLf.out⟩
    · have hq0 : (↑q / 30 == (0 : Int)) = false := by assumption
      have hne : q / 30 ≠ 0 := by simp at hq0; omega
      have e1 : q / 30 = d / 30 ^ (14 - (m - 1)) := by
        rw [H2.out, show 14 - (m - 1) = (14 - m) + 1 by omega, Nat.pow_succ, ← Nat.div_div_eq_div_mul]
      have hm3 : 2 ≤ m := by
        refine Nat.lt_of_not_le fun h => hne ?_
        rw [e1, show 14 - (m - 1) = 14 by omega]
        exact Nat.div_eq_of_lt (by omega)
      go_roundw
      case rel => exact ⟨m - 1, q / 30, _, by omega, by omega, Or.inr (by rw [← e1]; exact hne), e1, hq30, by go_num, by go_num, rfl, suf_step HS.out hm1 hm2 H2.out (tab_at (q % 30) _)⟩
      case measure => simp [intOf]; omega

theorem zzad2 (ao : Option Addr) (n : Nat) (zs : List Int) (d : Nat) (w : World) (h1 : d < 18446744073709551616) (hr : Rd w ao n zs) (hao : ao = none → n = 0) (hn : n ≤ 1048576) :
    Calls Try.prog 7 #[.slice ao n n, .int .u64 d] w fun e w' => ∃ g m cap, e = .returned (.slice (some ⟨g, 0, none⟩) (n + m) cap) ∧ Left2 w w' n d zs g m cap := by
  go_enter Try.func7, Try.ntmps7
  go_wp2_with fail
  refine (ad2 ao n zs d w h1 hr hao hn).mono ?_
  rintro e w' ⟨g, m, cap, rfl, hl⟩
  go_wp2
  go_ret
  exact ⟨g, m, cap, rfl, hl⟩

/-- No leading nought. -/
theorem dg_first {d m : Nat} (h : isLen d m) (hm : 1 < m) : dg d m 0 ≠ 0 := by
  unfold dg
  have h1 := h.2.2.1
  have h2 : d / 30 ^ (m - 1) ≠ 0 := by
    rcases h.2.2.2 with h3 | h3
    · omega
    · exact h3
  have e : (30 : Nat) ^ m = 30 ^ (m - 1) * 30 := by rw [← Nat.pow_succ, show (m - 1).succ = m by omega]
  rw [e, ← Nat.div_div_eq_div_mul] at h1
  rw [Nat.sub_zero]
  omega

set_option maxHeartbeats 1000000 in
theorem back_walk (a : Option Addr) (n cap : Nat) (zs : List Int) (d : Nat) (w : World) (hr : Rd w a n zs) (hn : n ≤ maxLen) (hd : d < 18446744073709551616) :
    Calls Try.prog 4 #[.slice a n cap, .int .u64 d] w fun e w' => e = .returned (.bool true) ∧ Below w.heap.size w w' := by
  unfold maxLen at hn
  have HR : Hid (Rd w a n zs) := hr
  clear hr
  rcases (show 1048576 < n ∨ (65536 < n ∧ n ≤ 1048576) ∨ n ≤ 65536 by omega) with h | ⟨h, h'⟩ | h
  · go_enter Try.func4, Try.ntmps4
    go_wp2
    go_ret
    exact ⟨rfl, Below.refl _ _⟩
  · go_enter Try.func4, Try.ntmps4
    go_wp2
    go_ret
    exact ⟨rfl, Below.refl _ _⟩
  · go_enter Try.func4, Try.ntmps4
    go_wp2_with (first | (go_at_call 9; go_in))
    refine (clone2 a n cap zs w HR.out (by omega)).mono ?_
    rintro e w1 ⟨ao1, rfl, hr1, hao1, hb1⟩
    have HR1 : Hid (Rd w1 ao1 n zs) := hr1
    have HB1 : Hid (Below w.heap.size w w1) := hb1
    have HA1 : Hid (ao1 = none → n = 0) := hao1
    clear hr1 hao1 hb1
    go_wp2_with fail
    refine (clone2 ao1 n n zs w1 HR1.out (by omega)).mono ?_
    rintro e w2 ⟨ao2, rfl, hr2, hao2, hb2⟩
    have HR2 : Hid (Rd w2 ao2 n zs) := hr2
    have HB2 : Hid (Below w1.heap.size w1 w2) := hb2
    clear hr2 hao2 hb2
    go_wp2_with fail
    refine (zzad2 ao1 n zs d w2 hd (HR1.out.keep HB2.out) HA1.out (by omega)).mono ?_
    rintro e w3 ⟨g, m, cap3, rfl, hl3⟩
    have HL : Hid (isLen d m) := hl3.1
    have hm1 : 1 ≤ m := hl3.1.1
    have hm14 : m ≤ 14 := hl3.1.2.1
    have hcap : n + m ≤ cap3 := hl3.2.1
    have hg3 : g < w3.heap.size := hl3.2.2.1
    have HC1 : Hid (∀ i, i < n → w3.cell? ⟨g, i, none⟩ = some (.int .u8 (zs.getD i 0))) := hl3.2.2.2.1
    have HC2 : Hid (∀ j, j < m → w3.cell? ⟨g, n + j, none⟩ = some (.int .u8 (chr (dg d m j)))) := hl3.2.2.2.2.1
    have HO : Hid (Rd w3 ao2 n zs) := HR2.out.keep hl3.2.2.2.2.2
    have HB : Hid (Below w.heap.size w w3) := by
      have t1 := HB1.out
      have t2 := t1.trans (HB2.out.mono t1.size)
      exact t2.trans (hl3.2.2.2.2.2.mono t2.size)
    clear hl3 HR1 HB1 HA1 HR2 HB2
    go_wp2
    go_loopw [7] (fun i wr => ∃ k : Nat, k ≤ n ∧ i = .int .i64 k ∧ Below w3.heap.size w3 wr) (fun i _ => n - (intOf i).toNat)
    case atStart => exact ⟨0, by omega, rfl, Below.refl _ _⟩
    case round =>
      obtain ⟨k, hk, rfl, hbel⟩ := hrel
      have HBr : Hid (Below w3.heap.size w3 wr) := hbel
      clear hbel
      by_cases hlt : k < n
      · obtain ⟨b2, o2, rfl, hl2, hc2⟩ := HO.out.2 (by omega)
        obtain ⟨z, hz⟩ : ∃ z, z = zs.getD k 0 := ⟨_, rfl⟩
        have g1 : wr.cell? ⟨g, k, none⟩ = some (.int .u8 z) := by rw [hz]; exact (HBr.out.cell hg3).trans (HC1.out k hlt)
        have g2 : wr.cell? ⟨b2, o2 + k, none⟩ = some (.int .u8 z) := by rw [hz]; exact (HBr.out.cell hl2).trans (hc2 k hlt)
        have hlt' : (k : Int) < (n : Int) := by omega
        have hlt2 : (k : Int) < ((n + m : Nat) : Int) := by omega
        clear hz hc2
        go_wp2
        go_quiet (fail)
        go_wp2
        go_roundw
        case rel => exact ⟨k + 1, by omega, by go_num, below_drewN HBr.out _⟩
        case measure => simp [intOf]; omega
      · obtain rfl : k = n := by omega
        have HBe : Hid (Below w.heap.size w wr) := HB.out.trans (HBr.out.mono HB.out.size)
        have HC : Hid (∀ j, j < m → wr.cell? ⟨g, k + j, none⟩ = some (.int .u8 (chr (dg d m j)))) := fun j hj => (HBr.out.cell hg3).trans (HC2.out j hj)
        have hck : ¬ cap3 = k := by omega
        clear HBr HC1 HC2 HO HB
        go_wp2
        go_loop [9, 10] (fun v i => ∃ (j q : Nat), j ≤ m ∧ i = .int .i64 j ∧ v = .int .u64 q ∧ Hid (q = d / 30 ^ (m - j))) (fun _ i => m - (intOf i).toNat)
        case atStart => exact ⟨0, 0, by omega, rfl, rfl, by rw [Nat.sub_zero, HL.out.2.2.1]; rfl⟩
        case round =>
          obtain ⟨j, q, hj, rfl, rfl, HQ⟩ := hrel
          by_cases hlt : j < m
          · obtain ⟨x, hx⟩ : ∃ x, x = dg d m j := ⟨_, rfl⟩
            have hx30 : x < 30 := by rw [hx]; exact dg_lt _ _ _
            have hch := back_chr_lt x hx30
            have g1 : wr.cell? ⟨g, k + j, none⟩ = some (.int .u8 (chr x)) := by rw [hx]; exact HC.out j hlt
            have hst : d / 30 ^ (m - (j + 1)) = 30 * q + x := by rw [HQ.out, hx]; exact pre_step d m j hlt
            have hbd : 30 * q + x < 18446744073709551616 := by rw [← hst]; exact Nat.lt_of_le_of_lt (Nat.div_le_self _ _) hd
            have HX : Hid (x = dg d m j) := hx
            have HST : Hid (d / 30 ^ (m - (j + 1)) = 30 * q + x) := hst
            clear hx hst
            go_wp2_with fail
            refine (back_digit x _ hx30).mono ?_
            rintro e w5 ⟨rfl, rfl⟩
            have hcase : ((j : Int) == 0) = false ∨ (((j : Int) == 0) = true ∧ ((x : Int) == 0) = false) ∨ (((j : Int) == 0) = true ∧ ((x : Int) == 0) = true ∧ m ≤ 1) := by
              by_cases h0 : j = 0
              · by_cases hx0 : x = 0
                · refine Or.inr (Or.inr ⟨by simp [h0], by simp [hx0], Nat.le_of_not_lt fun hm => dg_first HL.out hm ?_⟩)
                  have := HX.out; rw [h0] at this; omega
                · exact Or.inr (Or.inl ⟨by simp [h0], beq_eq_false_iff_ne.2 (by omega)⟩)
              · exact Or.inl (beq_eq_false_iff_ne.2 (by omega))
            rcases hcase with h0 | ⟨h0, hx0⟩ | ⟨h0, hx0, hmm⟩
            all_goals
              go_wp2
              go_round
              case rel => exact ⟨j + 1, 30 * q + x, by omega, by go_num, by go_num, by rw [HST.out]; rfl⟩
              case measure => simp [intOf]; omega
          · obtain rfl : j = m := by omega
            have HQ0 : Hid (q = d) := by show q = d; have := HQ.out; simpa using this
            have hqd : ((q : Int) == d) = true := by simp [HQ0.out]
            go_wp2
            go_ret
            exact ⟨rfl, HBe.out⟩

end Go.Proofs.Qxb6618214a
