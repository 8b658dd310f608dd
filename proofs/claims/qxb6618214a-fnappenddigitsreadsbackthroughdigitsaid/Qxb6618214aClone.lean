/-
  cloneBytes: a slice of the call's own that holds what the argument's elements hold.
-/
import Derived.Test.Qxb6618214aProg
import Derived.Test.Qxb6618214aDig
import Derived.WalkKit
import Derived.ProofKit
import Derived.WalkSpells
namespace Go.Proofs.Qxb6618214a
open Go.RowKit

/-- The first n cells behind the address hold the numbers zs. -/
def Rd (w : World) (a : Option Addr) (n : Nat) (zs : List Int) : Prop :=
  zs.length = n ∧ (0 < n → ∃ b off, a = some ⟨b, off, none⟩ ∧ b < w.heap.size ∧ ∀ i, i < n → w.cell? ⟨b, off + i, none⟩ = some (.int .u8 (zs.getD i 0)))

def mix (zs : List Int) (k : Nat) : List Value := (zs.take k).map (Value.int .u8) ++ List.replicate (zs.length - k) (.int .u8 0)

theorem mix_zero (zs : List Int) : mix zs 0 = List.replicate zs.length (.int .u8 0) := by simp [mix]
theorem mix_all (zs : List Int) : mix zs zs.length = zs.map (Value.int .u8) := by simp [mix]
theorem mix_get (zs : List Int) (k : Nat) (h : k < zs.length) : (mix zs k)[k]? = some (.int .u8 0) := by
  have el : ((zs.take k).map (Value.int .u8)).length = k := by simp; omega
  unfold mix
  rw [List.getElem?_append_right (by omega), el, Nat.sub_self, List.getElem?_replicate_of_lt (by omega)]
theorem mix_set (zs : List Int) (k : Nat) (h : k < zs.length) : (mix zs k).set k (.int .u8 (zs.getD k 0)) = mix zs (k + 1) := by
  have e : zs.length - k = (zs.length - (k + 1)) + 1 := by omega
  have el : ((zs.take k).map (Value.int .u8)).length = k := by simp; omega
  unfold mix
  rw [e, List.replicate_succ, List.set_append_right _ _ (by rw [el]; exact Nat.le_refl _), el, Nat.sub_self, List.set_cons_zero, List.take_succ_eq_append_getElem h, List.map_append, List.append_assoc]
  simp [List.getD_eq_getElem?_getD, h]

theorem grown_trans {a b c : World} (h : a.grownBy b none) {row : Option Nat} (k : b.grownBy c row) (hr : ∀ r, row = some r → a.heap.size ≤ r) : a.grownBy c none :=
  ⟨k.os.trans h.os, k.tape.trans h.tape, k.output.trans h.output, Nat.le_trans h.size k.size, fun i hi _ => (k.block i (Nat.lt_of_lt_of_le hi h.size) (fun e => by have := hr i e.symm; omega)).trans (h.block i hi (by simp))⟩

set_option maxHeartbeats 400000 in
theorem clone_any (a : Option Addr) (n cap : Nat) (zs : List Int) (w : World) (h : Rd w a n zs) (hn : n ≤ 1048576) :
    Calls Try.prog 10 #[.slice a n cap] w fun e w' => ∃ v, e = .returned v ∧ w'.ownsRow w.heap.size 5 1 v n (zs.map (Value.int .u8)) ∧ w.grownBy w' none ∧ ∃ ao, v = .slice ao n n ∧ (ao = none → n = 0) := by
  obtain ⟨i0, hi, hz0, hz1, hz2⟩ := info_parts Try.info5
  obtain ⟨hl, hr⟩ := h
  have HL : Hid (zs.length = n) := hl
  clear hl
  have heq := fun W : World => Lib.run_eql_slice_nil (P := Try.prog) W 22 5 a n cap 0 0 Try.underlying22
  cases a with
  | none =>
    obtain rfl : n = 0 := Nat.eq_zero_of_not_pos fun h => by obtain ⟨_, _, h, _⟩ := hr h; cases h
    obtain rfl : zs = [] := List.eq_nil_of_length_eq_zero HL.out
    clear hr HL
    go_enter Try.func10, Try.ntmps10
    go_wp2
    go_ret
    exact ⟨_, rfl, World.ownsRow_nil _ _ _ _, World.grownBy.refl _ _, _, rfl, by simp⟩
  | some x =>
    rcases Nat.eq_zero_or_pos n with hn0 | hpos
    · subst hn0
      obtain rfl : zs = [] := List.eq_nil_of_length_eq_zero HL.out
      clear hr HL
      go_enter Try.func10, Try.ntmps10
      go_wp2_with (at_make; refine wpList_make_full _ rfl _ _ 22 rfl w.heap.size 5 i0 (.int .u8 0) 1 Try.underlying22 hi hz0 hz1 _ _ _ _ 0 rfl rfl rfl rfl ?b1 ?b2 ?b3 ?_)
      case b1 => omega
      case b2 => unfold maxLen; omega
      case b3 => exact Nat.le_refl _
      intro w1 hown hgrow
      go_wp2
      refine wp_loop_rounds 1 ?_
      rw [rounds_succ]
      go_wp2
      go_ret
      exact ⟨_, rfl, by simpa [madeCells] using hown, hgrow, _, rfl, by simp⟩
    · obtain ⟨b, off, hx, hb, hc⟩ := hr hpos
      obtain rfl := Option.some.inj hx
      clear hx hr
      go_enter Try.func10, Try.ntmps10
      go_wp2_with (at_make; refine wpList_make_full _ rfl _ _ 22 rfl w.heap.size 5 i0 (.int .u8 0) 1 Try.underlying22 hi hz0 hz1 _ _ _ _ n rfl rfl rfl rfl ?b1 ?b2 ?b3 ?_)
      case b1 => rw [hz2]; omega
      case b2 => unfold maxLen; omega
      case b3 => exact Nat.le_refl _
      intro w1 hown hgrow
      have hown0 : w1.ownsRow w.heap.size 5 1 (.slice (some ⟨w.heap.size, 0, none⟩) n n) n (mix zs 0) := by
        rw [mix_zero, HL.out]
        rw [toList_madeCells_one] at hown
        exact hown
      clear hown
      go_wp2
      go_loopw [4] (fun i wr => ∃ k : Nat, k ≤ n ∧ i = .int .i64 k ∧ wr.ownsRow w.heap.size 5 1 (.slice (some ⟨w.heap.size, 0, none⟩) n n) n (mix zs k) ∧ w.grownBy wr none) (fun i _ => n - (intOf i).toNat)
      case atStart => exact ⟨0, by omega, rfl, hown0, hgrow⟩
      case round =>
        obtain ⟨k, hk, rfl, hown, hg⟩ := hrel
        by_cases hlt : k < n
        · have hcs : wr.cell? ⟨b, off + k, none⟩ = some (.int .u8 (zs.getD k 0)) := (World.cell?_of_block (hg.block b hb (by simp))).trans (hc k hlt)
          have hct := (hown.cellAt k (by omega)).trans (mix_get zs k (by rw [HL.out]; exact hlt))
          have hfz := hown.frozenAt k
          obtain ⟨hown', hst⟩ := hown.stored k (.int .u8 (zs.getD k 0))
          rw [mix_set zs k (by rw [HL.out]; exact hlt)] at hown'
          have hg' := grown_trans hg hst (fun r hr => by simp at hr; omega)
          have HO : Hid ((wr.setCell ⟨w.heap.size, k, none⟩ (.int .u8 (zs.getD k 0))).ownsRow w.heap.size 5 1 (.slice (some ⟨w.heap.size, 0, none⟩) n n) n (mix zs (k + 1))) := hown'
          have HG : Hid (w.grownBy (wr.setCell ⟨w.heap.size, k, none⟩ (.int .u8 (zs.getD k 0))) none) := hg'
          clear hown' hst hg' hown hg hgrow hown0 hc
          go_wp2
          go_roundw
          case rel => exact ⟨k + 1, by omega, by go_num, HO.out, HG.out⟩
          case measure => simp [intOf]; omega
        · obtain rfl : k = n := by omega
          have e := HL.out
          subst e
          rw [mix_all] at hown
          go_wp2
          go_ret
          exact ⟨_, rfl, hown, hg, _, rfl, fun h => by cases h⟩
end Go.Proofs.Qxb6618214a
