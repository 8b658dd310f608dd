/-
  Byte sets: onlyIn, ZZonlyIn, markBytes; and the plain laws on them.
-/
import Derived.Test.Qxb6618412aProg
import Derived.WalkKit
import Derived.ProofKit
import Derived.Deep.QuietTactic
import Derived.BigQuiet
import Derived.WalkSmall
namespace Go.Proofs.Qxb6618412a
open Go.RowKit

/-- The 256 cells of a byte set. -/
def IsSet (cs : Array Value) (f : Nat → Bool) : Prop := cs.size = 256 ∧ ∀ i, i < 256 → cs[i]? = some (.bool (f i))

/-- Each byte of the list is one of the set. -/
def oin (l : List UInt8) (f : Nat → Bool) : Bool := l.all fun c => f c.toNat
/-- The set and the list's bytes. -/
def mark (f : Nat → Bool) (l : List UInt8) : Nat → Bool := fun i => f i || l.any fun c => c.toNat == i

theorem oin_append (a b : List UInt8) (f : Nat → Bool) : oin (a ++ b) f = (oin a f && oin b f) := by simp [oin]
theorem oin_mono {f g : Nat → Bool} (h : ∀ i, f i = true → g i = true) (l : List UInt8) (hf : oin l f = true) : oin l g = true := by
  simp only [oin, List.all_eq_true] at hf ⊢
  exact fun x hx => h _ (hf x hx)
theorem mark_ge (f : Nat → Bool) (l : List UInt8) (i : Nat) (h : f i = true) : mark f l i = true := by simp [mark, h]
theorem oin_mark (f : Nat → Bool) (l : List UInt8) : oin l (mark f l) = true := by
  simp only [oin, List.all_eq_true, mark, Bool.or_eq_true, List.any_eq_true]
  exact fun x hx => Or.inr ⟨x, hx, by simp⟩
theorem mark_snoc (f : Nat → Bool) (l : List UInt8) (c : UInt8) (i : Nat) : mark f (l ++ [c]) i = if c.toNat = i then true else mark f l i := by
  unfold mark
  by_cases h : c.toNat = i
  · simp [h]
  · have h' : (c.toNat == i) = false := by simpa using h
    simp [h, h']

theorem take_snoc (s : ByteArray) (k : Nat) (h : k < s.size) : s.data.toList.take (k + 1) = s.data.toList.take k ++ [s[k]] := by
  rw [List.take_succ_eq_append_getElem (by simpa using h)]; rfl

theorem oin_snoc (l : List UInt8) (c : UInt8) (f : Nat → Bool) : oin (l ++ [c]) f = (oin l f && f c.toNat) := by simp [oin]

theorem oin_no (s : ByteArray) (k : Nat) (h : k < s.size) (f : Nat → Bool) (hf : f s[k].toNat = false) : oin s.data.toList f = false := by
  have hm : s[k] ∈ s.data.toList := by
    have : s[k] = s.data.toList[k]'(by simpa using h) := rfl
    rw [this]; exact List.getElem_mem _
  cases ho : oin s.data.toList f
  · rfl
  · simp only [oin, List.all_eq_true] at ho
    have := ho _ hm
    rw [hf] at this
    cases this

theorem ret_bool {a b : Bool} (h : a = b) : Ending.returned (.bool a) = .returned (.bool b) := by rw [h]

set_option maxHeartbeats 400000 in
theorem only_any (s : ByteArray) (g : Nat) (cs : Array Value) (f : Nat → Bool) (w : World) (hs : s.size ≤ 2097152) (hg : w.heap[g]? = some (.cells cs 22 (0, 0))) (hf : IsSet cs f) :
    Calls Try.prog 9 #[.string s, .pointer (some ⟨g, 0, none⟩)] w fun e w' => e = .returned (.bool (oin s.data.toList f)) ∧ Below w.heap.size w w' := by
  have HC : Hid (∀ i, i < 256 → w.cell? ⟨g, i, none⟩ = some (.bool (f i))) := fun i hi => (cell_of_row w g i cs 22 (0, 0) hg).trans (hf.2 i hi)
  have hgl := lt_of_block hg
  clear hg hf
  go_enter Try.func9, Try.ntmps9
  go_wp2
  go_loopw [5] (fun i wr => ∃ k : Nat, k ≤ s.size ∧ i = .int .i64 k ∧ Below w.heap.size w wr ∧ Hid (oin (s.data.toList.take k) f = true)) (fun i _ => s.size - (intOf i).toNat)
  case atStart => exact ⟨0, by omega, rfl, Below.refl _ _, rfl⟩
  case round =>
    obtain ⟨k, hk, rfl, hbel, HO⟩ := hrel
    have HB : Hid (Below w.heap.size w wr) := hbel
    clear hbel
    by_cases hlt : k < s.size
    · obtain ⟨x, hx⟩ : ∃ x, x = f s[k].toNat := ⟨_, rfl⟩
      have hc : wr.cell? ⟨g, s[k].toNat, none⟩ = some (.bool x) := by rw [hx]; exact (HB.out.cell hgl).trans (HC.out _ (UInt8.toNat_lt _))
      have HX : Hid (x = f s[k].toNat) := hx
      clear hx
      have hlt' : (k : Int) < (s.size : Int) := by omega
      have h256 : s[k].toNat < 256 := UInt8.toNat_lt _
      cases x
      · go_wp2
        go_quiet (fail)
        go_wp2
        go_ret
        exact ⟨ret_bool (oin_no s k hlt f HX.out.symm).symm, below_drewN HB.out _⟩
      · go_wp2
        go_quiet (fail)
        go_wp2
        go_roundw
        case rel => exact ⟨k + 1, by omega, by go_num, below_drewN HB.out _, by show oin _ _ = true; rw [take_snoc s k hlt, oin_snoc, HO.out, ← HX.out]; rfl⟩
        case measure => simp [intOf]; omega
    · obtain rfl : k = s.size := by omega
      go_wp2
      go_ret
      have e := HO.out
      rw [List.take_of_length_le (by simp)] at e
      exact ⟨ret_bool e.symm, HB.out⟩

theorem zzonly_any (s : ByteArray) (g : Nat) (cs : Array Value) (f : Nat → Bool) (w : World) (hs : s.size ≤ 2097152) (hg : w.heap[g]? = some (.cells cs 22 (0, 0))) (hf : IsSet cs f) :
    Calls Try.prog 6 #[.string s, .pointer (some ⟨g, 0, none⟩)] w fun e w' => e = .returned (.bool (oin s.data.toList f)) ∧ Below w.heap.size w w' := by
  have HG : Hid (w.heap[g]? = some (.cells cs 22 (0, 0))) := hg
  clear hg
  go_enter Try.func6, Try.ntmps6
  go_wp2_with fail
  refine (only_any s g cs f w hs HG.out hf).mono ?_
  rintro e w' ⟨rfl, hb⟩
  go_wp2
  go_ret
  exact ⟨rfl, hb⟩

theorem isSet_set {cs : Array Value} {f f' : Nat → Bool} (h : IsSet cs f) (c : Nat) (b : Bool) (hc : c < 256) (hf : ∀ i, f' i = if c = i then b else f i) : IsSet (cs.setIfInBounds c (.bool b)) f' := by
  refine ⟨by simpa using h.1, fun i hi => ?_⟩
  rw [hf i]
  by_cases e : c = i
  · subst e
    rw [Array.getElem?_setIfInBounds_self_of_lt (by rw [h.1]; exact hc), if_pos rfl]
  · rw [Array.getElem?_setIfInBounds_ne e, if_neg e]
    exact h.2 i hi

theorem grown_set {w w1 : World} {g : Nat} (h : w.grownBy w1 (some g)) (j : Nat) (u : Value) : w.grownBy (w1.setCell ⟨g, j, none⟩ u) (some g) :=
  ⟨h.os, h.tape, h.output, by have := h.size; simpa [World.setCell] using this, fun k hk hne => (heap_setCell_other w1 ⟨g, j, none⟩ k u (fun e => hne (by rw [e]))).trans (h.block k hk hne)⟩

theorem grown_drew {w w1 : World} {r : Option Nat} (h : w.grownBy w1 r) : w.grownBy w1.drew r := ⟨h.os, h.tape, h.output, h.size, h.block⟩

set_option maxHeartbeats 400000 in
theorem mark_any (s : ByteArray) (g : Nat) (cs : Array Value) (f : Nat → Bool) (w : World) (hs : s.size ≤ 2097152) (hg : w.heap[g]? = some (.cells cs 22 (0, 0))) (hf : IsSet cs f) :
    Calls Try.prog 7 #[.pointer (some ⟨g, 0, none⟩), .string s] w fun e w' => e = .returned (.tuple #[]) ∧ (∃ cs', w'.heap[g]? = some (.cells cs' 22 (0, 0)) ∧ IsSet cs' (mark f s.data.toList)) ∧ w.grownBy w' (some g) := by
  have HG : Hid (w.heap[g]? = some (.cells cs 22 (0, 0))) := hg
  have HF : Hid (IsSet cs f) := hf
  clear hg hf
  go_enter Try.func7, Try.ntmps7
  go_wp2
  go_loopw [4] (fun i wr => ∃ (k : Nat) (cs' : Array Value), k ≤ s.size ∧ i = .int .i64 k ∧ Hid (wr.heap[g]? = some (.cells cs' 22 (0, 0))) ∧ Hid (IsSet cs' (mark f (s.data.toList.take k))) ∧ Hid (w.grownBy wr (some g))) (fun i _ => s.size - (intOf i).toNat)
  case atStart => exact ⟨0, cs, by omega, rfl, HG.out, by show IsSet cs _; have e : mark f (s.data.toList.take 0) = f := by funext i; simp [mark]
                                                          rw [e]; exact HF.out, World.grownBy.refl _ _⟩
  case round =>
    obtain ⟨k, cs', hk, rfl, HR, HI, HW⟩ := hrel
    by_cases hlt : k < s.size
    · have h256 : s[k].toNat < 256 := UInt8.toNat_lt _
      obtain ⟨x, hc⟩ : ∃ x, wr.cell? ⟨g, s[k].toNat, none⟩ = some (.bool x) := ⟨_, (cell_of_row wr g _ cs' 22 (0, 0) HR.out).trans (HI.out.2 _ h256)⟩
      have hz : wr.frozen? ⟨g, s[k].toNat, none⟩ = false := frozen_of_row wr g _ cs' 22 HR.out
      have hlt' : (k : Int) < (s.size : Int) := by omega
      have HR2 : Hid ((wr.setCell ⟨g, s[k].toNat, none⟩ (.bool true)).heap[g]? = some (.cells (cs'.setIfInBounds s[k].toNat (.bool true)) 22 (0, 0))) := heap_setCell_same wr g _ cs' 22 _ HR.out
      have HI2 : Hid (IsSet (cs'.setIfInBounds s[k].toNat (.bool true)) (mark f (s.data.toList.take (k + 1)))) := isSet_set HI.out _ true h256 (fun i => by rw [take_snoc s k hlt, mark_snoc])
      have HW2 : Hid (w.grownBy (wr.setCell ⟨g, s[k].toNat, none⟩ (.bool true)) (some g)) := grown_set HW.out _ _
      go_wp2
      go_region
      all_goals
        go_wp2
        go_roundw
        case rel => exact ⟨k + 1, _, by omega, by go_num, HR2.out, HI2.out, grown_drew HW2.out⟩
        case measure => simp [intOf]; omega
    · obtain rfl : k = s.size := by omega
      go_wp2
      go_end0
      have e := HI.out
      rw [List.take_of_length_le (by simp)] at e
      exact ⟨rfl, ⟨cs', HR.out, e⟩, HW.out⟩
end Go.Proofs.Qxb6618412a
