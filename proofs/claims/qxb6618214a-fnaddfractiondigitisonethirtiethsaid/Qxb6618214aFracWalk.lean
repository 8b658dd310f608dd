import Derived.Test.Qxb6618214aAdd2
namespace Go.Proofs.Qxb6618214a
open Go.RowKit

/-- ZZBase30Add, what it hands back under names of their own. -/
theorem add_at (ao : Option Addr) (n : Nat) (zs : List Int) (ex d : Int) (s fr : Bool) (w : World) (hr : Rd w ao n zs) (hao : ao = none → n = 0) (hm : n ≤ 1048576) (m : Nat) (zs' : List Int) (e' : Int) (s' : Bool)
    (h1 : zs' = addX n d zs) (h2 : m = zs'.length) (h3 : e' = addE n ex fr) (h4 : s' = addS n d s) :
    Calls Try.prog 12 #[.slice ao n n, .int .i64 ex, .bool s, .int .i64 d, .bool fr] w fun e w' => ∃ ao' cap', e = .returned (.tuple #[.slice ao' m cap', .int .i64 e', .bool s']) ∧ Rd w' ao' m zs' ∧ Below w.heap.size w w' := by
  subst h1 h2 h3 h4
  exact add_any ao n zs ex d s fr w hr hao hm

set_option maxHeartbeats 1000000 in
theorem frac_walk (a : Option Addr) (n cap : Nat) (zs : List Int) (ex : Int) (s : Bool) (d : Int) (w : World) (hr : Rd w a n zs) (hn : n ≤ maxLen) (he0 : -9223372036854775808 ≤ ex) (he1 : ex ≤ 9223372036854775807) :
    Calls Try.prog 5 #[.slice a n cap, .int .i64 ex, .bool s, .int .i64 d] w fun e w' => e = .returned (.bool true) ∧ Below w.heap.size w w' := by
  unfold maxLen at hn
  have HR : Hid (Rd w a n zs) := hr
  clear hr
  rcases (show 1048576 < n ∨ (65536 < n ∧ n ≤ 1048576) ∨ n ≤ 65536 by omega) with h | ⟨h, h'⟩ | h
  · go_enter Try.func5, Try.ntmps5
    go_wp2
    go_ret
    exact ⟨rfl, Below.refl _ _⟩
  · go_enter Try.func5, Try.ntmps5
    go_wp2
    go_ret
    exact ⟨rfl, Below.refl _ _⟩
  · obtain ⟨zs', hzs⟩ : ∃ zs', zs' = addX n d zs := ⟨_, rfl⟩
    obtain ⟨m, hm⟩ : ∃ m, m = zs'.length := ⟨_, rfl⟩
    obtain ⟨ei, hei⟩ : ∃ ei, ei = addE n ex false := ⟨_, rfl⟩
    obtain ⟨ef, hef⟩ : ∃ ef, ef = addE n ex true := ⟨_, rfl⟩
    obtain ⟨st, hst⟩ : ∃ st, st = addS n d s := ⟨_, rfl⟩
    have hE : (ei != wrap64 (ef + 1)) = false := by
      rw [hei, hef, addE_one n ex he0 he1]; simp
    have hm12 : m = n ∨ m = n + 1 := by rw [hm, hzs]; exact addX_len n d zs HR.out.1
    have hmn : n ≤ m ∧ m ≤ n + 1 := by omega
    have hsS : s = true → st = true := by
      intro h; rw [hst, h]; unfold addS; split <;> simp
    have HZ : Hid (zs' = addX n d zs) := hzs
    have HM : Hid (m = zs'.length) := hm
    have HEI : Hid (ei = addE n ex false) := hei
    have HEF : Hid (ef = addE n ex true) := hef
    have HST : Hid (st = addS n d s) := hst
    have HM12 : Hid (m = n ∨ m = n + 1) := hm12
    have HS : Hid (s = true → st = true) := hsS
    clear hzs hm hei hef hst hm12 hsS
    obtain ⟨hmn1, hmn2⟩ := hmn
    go_enter Try.func5, Try.ntmps5
    go_wp2_with (first | (go_at_call 11; go_in))
    refine (clone2 a n cap zs w HR.out (by omega)).mono ?_
    rintro e w1 ⟨ao1, rfl, hr1, hao1, hb1⟩
    have HR1 : Hid (Rd w1 ao1 n zs) := hr1
    have HB1 : Hid (Below w.heap.size w w1) := hb1
    have HA1 : Hid (ao1 = none → n = 0) := hao1
    clear hr1 hao1 hb1
    go_wp2_with fail
    refine (clone2 ao1 n n zs w1 HR1.out (by omega)).mono ?_
    rintro e w2 ⟨ao2, rfl, hr2, hao2, hb2⟩
    have HR2 : Hid (Rd w2 ao2 n zs) := hr2
    have HB2 : Hid (Below w1.heap.size w1 w2) := hb2
    have HA2 : Hid (ao2 = none → n = 0) := hao2
    clear hr2 hao2 hb2
    go_wp2_with fail
    refine (clone2 ao1 n n zs w2 (HR1.out.keep HB2.out) (by omega)).mono ?_
    rintro e w3 ⟨ao3, rfl, hr3, hao3, hb3⟩
    have HR3 : Hid (Rd w3 ao3 n zs) := hr3
    have HB3 : Hid (Below w2.heap.size w2 w3) := hb3
    have HA3 : Hid (ao3 = none → n = 0) := hao3
    clear hr3 hao3 hb3
    go_wp2_with fail
    refine (clone2 ao1 n n zs w3 ((HR1.out.keep HB2.out).keep HB3.out) (by omega)).mono ?_
    rintro e w4 ⟨ao4, rfl, hr4, hao4, hb4⟩
    have HR4 : Hid (Rd w4 ao4 n zs) := hr4
    have HB4 : Hid (Below w3.heap.size w3 w4) := hb4
    have HA4 : Hid (ao4 = none → n = 0) := hao4
    clear hr4 hao4 hb4
    go_wp2_with fail
    refine (add_at ao3 n zs ex d s false w4 (HR3.out.keep HB4.out) HA3.out (by omega) m zs' ei st HZ.out HM.out HEI.out HST.out).mono ?_
    rintro e w5 ⟨ao5, cap5, rfl, hr5, hb5⟩
    have HR5 : Hid (Rd w5 ao5 m zs') := hr5
    have HB5 : Hid (Below w4.heap.size w4 w5) := hb5
    clear hr5 hb5
    go_wp2_with fail
    refine (add_at ao4 n zs ex d s true w5 (HR4.out.keep HB5.out) HA4.out (by omega) m zs' ef st HZ.out HM.out HEF.out HST.out).mono ?_
    rintro e w6 ⟨ao6, cap6, rfl, hr6, hb6⟩
    have HR6 : Hid (Rd w6 ao6 m zs') := hr6
    have HB6 : Hid (Below w5.heap.size w5 w6) := hb6
    clear hr6 hb6
    go_wp2_with fail
    refine (same_yes ao5 ao6 m cap5 cap6 zs' w6 (HR5.out.keep HB6.out) HR6.out (by omega)).mono ?_
    rintro e w7 ⟨rfl, hb7⟩
    have HG : Hid (Rd w7 ao5 m zs') := (HR5.out.keep HB6.out).keep hb7
    have HO : Hid (Rd w7 ao2 n zs) := ((((HR2.out.keep HB3.out).keep HB4.out).keep HB5.out).keep HB6.out).keep hb7
    have HB : Hid (Below w.heap.size w w7) := by
      have t1 := HB1.out
      have t2 := t1.trans (HB2.out.mono t1.size)
      have t3 := t2.trans (HB3.out.mono t2.size)
      have t4 := t3.trans (HB4.out.mono t3.size)
      have t5 := t4.trans (HB5.out.mono t4.size)
      have t6 := t5.trans (HB6.out.mono t5.size)
      exact t6.trans (hb7.mono t6.size)
    clear hb7 HR1 HB1 HA1 HR2 HB2 HA2 HR3 HB3 HA3 HR4 HB4 HA4 HR5 HB5 HR6 HB6 HEI HEF HST
    go_wp2
    go_loopw [18] (fun i wr => ∃ k : Nat, k ≤ n ∧ i = .int .i64 k ∧ Below w7.heap.size w7 wr) (fun i _ => n - (intOf i).toNat)
    case atStart => exact ⟨0, by omega, rfl, Below.refl _ _⟩
    case round =>
      obtain ⟨k, hk, rfl, hbel⟩ := hrel
      have HBr : Hid (Below w7.heap.size w7 wr) := hbel
      clear hbel
      by_cases hlt : k < n
      · obtain ⟨b1, o1, rfl, hl1, hc1⟩ := HG.out.2 (by omega)
        obtain ⟨b2, o2, rfl, hl2, hc2⟩ := HO.out.2 (by omega)
        obtain ⟨z, hz⟩ : ∃ z, z = zs.getD k 0 := ⟨_, rfl⟩
        have g1 : wr.cell? ⟨b1, o1 + k, none⟩ = some (.int .u8 z) := by rw [hz, ← addX_pre n d zs HR.out.1 k hlt, ← HZ.out]; exact (HBr.out.cell hl1).trans (hc1 k (by omega))
        have g2 : wr.cell? ⟨b2, o2 + k, none⟩ = some (.int .u8 z) := by rw [hz]; exact (HBr.out.cell hl2).trans (hc2 k hlt)
        have hlt' : (k : Int) < (n : Int) := by omega
        have hlt2 : (k : Int) < (m : Int) := by omega
        clear hz hc1 hc2 hE
        go_wp2
        go_quiet (fail)
        go_wp2
        go_roundw
        case rel => exact ⟨k + 1, by omega, by go_num, below_drewN HBr.out _⟩
        case measure => simp [intOf]; omega
      · obtain rfl : k = n := by omega
        have HBe : Hid (Below w.heap.size w wr) := HB.out.trans (HBr.out.mono HB.out.size)
        rcases HM12.out with hm | hm
        · have hne : ((m : Int) == k + 1) = false := beq_eq_false_iff_ne.2 (by omega)
          clear hm hE
          cases s
          · go_wp2
            go_ret
            exact ⟨rfl, HBe.out⟩
          · obtain rfl := HS.out rfl
            go_wp2
            go_ret
            exact ⟨rfl, HBe.out⟩
        · have he : ((m : Int) == k + 1) = true := beq_iff_eq.2 (by omega)
          have hkm : (k : Int) < (m : Int) := by omega
          obtain ⟨b1, o1, rfl, hl1, hc1⟩ := HG.out.2 (by omega)
          have g1 : wr.cell? ⟨b1, o1 + k, none⟩ = some (.int .u8 (d % 256)) := by
            rw [← addX_new k d zs HR.out.1 (by rw [← HZ.out, ← HM.out]; exact hm), ← HZ.out]
            exact (HBr.out.cell hl1).trans (hc1 k (by omega))
          clear hm hc1 hE
          cases s
          · go_wp2
            go_ret
            exact ⟨rfl, HBe.out⟩
          · obtain rfl := HS.out rfl
            go_wp2
            go_ret
            exact ⟨rfl, HBe.out⟩
end Go.Proofs.Qxb6618214a
