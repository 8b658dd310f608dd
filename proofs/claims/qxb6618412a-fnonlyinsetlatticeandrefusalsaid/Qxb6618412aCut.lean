import Derived.Test.Qxb6618412aSets
import Derived.Deep.WholeRow
namespace Go.Proofs.Qxb6618412a
open Go.RowKit
theorem Try.size22 : (Try.prog.info? 22).map (·.size) = some 256 := by kernel_rfl

theorem set_one {cs : Array Value} {f : Nat → Bool} (h : IsSet cs f) : cs.all (·.oneCell') = true := by
  rw [Array.all_eq_true]
  intro i hi
  have := h.2 i (by rw [← h.1]; exact hi)
  rw [Array.getElem?_eq_getElem hi] at this
  rw [Option.some.inj this]
  rfl

/-- The zero array. -/
def Z22 : Array Value := Array.replicate 256 (.bool false)
theorem Z22_size : Z22.size = 256 := by simp [Z22]
theorem zero_run (W : World) : (zeroValue 22).run Try.prog W = .ok (.agg Z22) W := by kernel_rfl
theorem Z22_set : IsSet Z22 (fun _ => false) := ⟨Z22_size, fun i hi => by simp [Z22, hi]⟩

/-- Is the bound on the lengths met? -/
def fits (a b : ByteArray) : Bool := decide (a.size + b.size ≤ 1048576)

set_option maxHeartbeats 400000 in
theorem zz5 (a b : ByteArray) (cs : Array Value) (w : World) (ha : a.size ≤ 9223372036854775807) (hb : b.size ≤ 9223372036854775807) :
    Calls Try.prog 5 #[.string a, .string b, .agg cs] w fun e w' => e = .returned (.bool (fits a b)) ∧ Below w.heap.size w w' := by
  rcases (show 1048576 < a.size ∨ (a.size ≤ 1048576 ∧ 1048576 < b.size) ∨ (a.size ≤ 1048576 ∧ b.size ≤ 1048576 ∧ 1048576 < a.size + b.size) ∨ a.size + b.size ≤ 1048576 by omega) with h | ⟨h, h'⟩ | ⟨h, h', h''⟩ | h
  all_goals
    go_enter Try.func5, Try.ntmps5
    go_wp2
    go_ret
    exact ⟨ret_bool (by unfold fits; first | (rw [eq_comm, decide_eq_true_iff]; omega) | (rw [eq_comm, decide_eq_false_iff_not]; omega)), (Below.refl _ _).alloc (Nat.le_refl _) _⟩

theorem cat_list (a b : ByteArray) : (a ++ b).data.toList = a.data.toList ++ b.data.toList := by simp [ByteArray.data_append]
theorem cat_size (a b : ByteArray) : (a ++ b).size = a.size + b.size := by simp

theorem heap_keep {W w' : World} {k : Nat} {o : Obj} (h : W.heap[k]? = some o) (hb : Below W.heap.size W w') : w'.heap[k]? = some o := (hb.block k (lt_of_block h)).trans h

set_option maxHeartbeats 1000000 in
theorem cut_walk (a b : ByteArray) (cs : Array Value) (f : Nat → Bool) (w : World) (hf : IsSet cs f) (ha : a.size ≤ maxLen) (hb : b.size ≤ maxLen) :
    Calls Try.prog 3 #[.string a, .string b, .agg cs] w fun e w' => e = .returned (.bool true) ∧ Below w.heap.size w w' := by
  unfold maxLen at ha hb
  have hsz : (Try.prog.info? 22).map (·.size) = some cs.size := by rw [hf.1]; exact Try.size22
  have HZ : Hid ((Try.prog.info? 22).map (·.size) = some cs.size) := hsz
  have HF : Hid (IsSet cs f) := hf
  clear hsz hf
  go_enter Try.func3, Try.ntmps3
  go_wp2_with (refine wpList_load_row rfl 22 _ rfl w.heap.size rfl 22 cs (0, 0) _ (heap_alloc_new w _) Try.underlying22 rfl HZ.out ?_)
  refine (zz5 a b cs _ (by omega) (by omega)).mono ?_
  rintro e w1 ⟨rfl, hb1⟩
  have H1 : Hid (w1.heap[w.heap.size]? = some (.cells cs 22 (0, 0))) := heap_keep (heap_alloc_new w _) hb1
  have B1 : Hid (Below w.heap.size w w1) := ((Below.refl _ _).alloc (Nat.le_refl _) _).trans (hb1.mono (by simp))
  clear hb1
  cases hfit : fits a b
  · go_wp2
    go_ret
    exact ⟨rfl, B1.out⟩
  · have hab : a.size + b.size ≤ 1048576 := by unfold fits at hfit; simpa using hfit
    clear hfit
    have hz := zero_run
    go_wp2_with (first | (refine wpList_load_row rfl 22 _ rfl w.heap.size rfl 22 cs (0, 0) _ H1.out Try.underlying22 rfl HZ.out ?_) | (refine wpList_store_row rfl 22 _ _ rfl w1.heap.size cs rfl rfl 22 Z22 (heap_alloc_new w1 _) HZ.out (Z22_size.trans HF.out.1.symm) (set_one HF.out) ?_; rw [World.setRow_alloc_new]))
    refine (zzonly_any (a ++ b) w1.heap.size cs f _ (by rw [cat_size]; omega) (heap_alloc_new w1 _) HF.out).mono ?_
    rintro e w2 ⟨rfl, hb2⟩
    rw [cat_list, oin_append]
    have G2 : Hid (w2.heap[w1.heap.size]? = some (.cells cs 22 (0, 0))) := heap_keep (heap_alloc_new w1 _) hb2
    have H2 : Hid (w2.heap[w.heap.size]? = some (.cells cs 22 (0, 0))) := heap_keep ((Below.heap_alloc w1 _ _ (lt_of_block H1.out)).trans H1.out) hb2
    have B2 : Hid (Below w.heap.size w w2) := (B1.out.alloc B1.out.size _).trans (hb2.mono (by have := B1.out.size; simp; omega))
    clear hb2
    go_wp2_with fail
    refine (zzonly_any a w1.heap.size cs f w2 (by omega) G2.out HF.out).mono ?_
    rintro e w3 ⟨rfl, hb3⟩
    have G3 : Hid (w3.heap[w1.heap.size]? = some (.cells cs 22 (0, 0))) := heap_keep G2.out hb3
    have H3 : Hid (w3.heap[w.heap.size]? = some (.cells cs 22 (0, 0))) := heap_keep H2.out hb3
    have B3 : Hid (Below w.heap.size w w3) := B2.out.trans (hb3.mono B2.out.size)
    clear hb3
    go_wp2_with fail
    refine (zzonly_any b w1.heap.size cs f w3 (by omega) G3.out HF.out).mono ?_
    rintro e w4 ⟨rfl, hb4⟩
    have H4 : Hid (w4.heap[w.heap.size]? = some (.cells cs 22 (0, 0))) := heap_keep H3.out hb4
    have B4 : Hid (Below w.heap.size w w4) := B3.out.trans (hb4.mono B3.out.size)
    clear hb4 G2 G3 H1 H2 H3 B1 B2 B3
    generalize oin a.data.toList f = x
    generalize oin b.data.toList f = y
    cases x
    all_goals
      cases y
      all_goals
        go_wp2_with (first | (refine wpList_load_row rfl 22 _ rfl w.heap.size rfl 22 cs (0, 0) _ H4.out Try.underlying22 rfl HZ.out ?_) | (refine wpList_store_row rfl 22 _ _ rfl w4.heap.size cs rfl rfl 22 Z22 (heap_alloc_new w4 _) HZ.out (Z22_size.trans HF.out.1.symm) (set_one HF.out) ?_; rw [World.setRow_alloc_new]))
        refine (mark_any a w4.heap.size cs f _ (by omega) (heap_alloc_new w4 _) HF.out).mono ?_
        rintro e w5 ⟨rfl, ⟨cs5, g5, i5⟩, gr5⟩
        have G5 : Hid (w5.heap[w4.heap.size]? = some (.cells cs5 22 (0, 0))) := g5
        have I5 : Hid (IsSet cs5 (mark f a.data.toList)) := i5
        have B5 : Hid (Below w.heap.size w w5) := (B4.out.alloc B4.out.size _).grown gr5 (by have := B4.out.size; simp; omega) (fun k hk => by have := B4.out.size; cases hk; omega)
        clear g5 i5 gr5
        go_wp2_with fail
        refine (mark_any b w4.heap.size cs5 _ w5 (by omega) G5.out I5.out).mono ?_
        rintro e w6 ⟨rfl, ⟨cs6, g6, i6⟩, gr6⟩
        have G6 : Hid (w6.heap[w4.heap.size]? = some (.cells cs6 22 (0, 0))) := g6
        have I6 : Hid (IsSet cs6 (mark (mark f a.data.toList) b.data.toList)) := i6
        have B6 : Hid (Below w.heap.size w w6) := B5.out.grown gr6 B5.out.size (fun k hk => by have := B4.out.size; cases hk; omega)
        clear g6 i6 gr6 G5 I5 B5
        have oa : oin a.data.toList (mark (mark f a.data.toList) b.data.toList) = true := oin_mono (mark_ge _ _) _ (oin_mark _ _)
        have ob : oin b.data.toList (mark (mark f a.data.toList) b.data.toList) = true := oin_mark _ _
        have oab : oin (a ++ b).data.toList (mark (mark f a.data.toList) b.data.toList) = true := by rw [cat_list, oin_append, oa, ob]; rfl
        have OA := show Hid (oin a.data.toList (mark (mark f a.data.toList) b.data.toList) = true) from oa
        have OB := show Hid (oin b.data.toList (mark (mark f a.data.toList) b.data.toList) = true) from ob
        have OAB := show Hid (oin (a ++ b).data.toList (mark (mark f a.data.toList) b.data.toList) = true) from oab
        clear oa ob oab
        go_wp2_with fail
        refine (zzonly_any (a ++ b) w4.heap.size cs6 _ w6 (by rw [cat_size]; omega) G6.out I6.out).mono ?_
        rintro e w7 ⟨rfl, hb7⟩
        rw [OAB.out]
        have G7 : Hid (w7.heap[w4.heap.size]? = some (.cells cs6 22 (0, 0))) := heap_keep G6.out hb7
        have B7 : Hid (Below w.heap.size w w7) := B6.out.trans (hb7.mono B6.out.size)
        clear hb7
        go_wp2_with fail
        refine (zzonly_any a w4.heap.size cs6 _ w7 (by omega) G7.out I6.out).mono ?_
        rintro e w8 ⟨rfl, hb8⟩
        rw [OA.out]
        have G8 : Hid (w8.heap[w4.heap.size]? = some (.cells cs6 22 (0, 0))) := heap_keep G7.out hb8
        have B8 : Hid (Below w.heap.size w w8) := B7.out.trans (hb8.mono B7.out.size)
        clear hb8
        go_wp2_with fail
        refine (zzonly_any b w4.heap.size cs6 _ w8 (by omega) G8.out I6.out).mono ?_
        rintro e w9 ⟨rfl, hb9⟩
        rw [OB.out]
        have B9 : Hid (Below w.heap.size w w9) := B8.out.trans (hb9.mono B8.out.size)
        clear hb9
        go_wp2
        go_ret
        exact ⟨rfl, B9.out⟩
end Go.Proofs.Qxb6618412a
