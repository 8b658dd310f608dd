/-
  The walk of the law on the lattice of byte sets.
-/
import Derived.Test.Qxb6618412aCut
namespace Go.Proofs.Qxb6618412a
open Go.RowKit

def fits1 (s : ByteArray) : Bool := decide (s.size ≤ 1048576)

set_option maxHeartbeats 400000 in
theorem zz8 (s : ByteArray) (ca cb : Array Value) (k : Int) (w : World) (hs : s.size ≤ 9223372036854775807) :
    Calls Try.prog 8 #[.string s, .agg ca, .agg cb, .int .i64 k] w fun e w' => e = .returned (.bool (fits1 s)) ∧ Below w.heap.size w w' := by
  rcases (show 1048576 < s.size ∨ s.size ≤ 1048576 by omega) with h | h
  all_goals
    go_enter Try.func8, Try.ntmps8
    go_wp2
    go_ret
    exact ⟨ret_bool (by unfold fits1; first | (rw [eq_comm, decide_eq_true_iff]; omega) | (rw [eq_comm, decide_eq_false_iff_not]; omega)), ((Below.refl _ _).alloc (Nat.le_refl _) _).alloc (by simp) _⟩

theorem isSet_congr {cs : Array Value} {f g : Nat → Bool} (h : IsSet cs f) (e : ∀ i, i < 256 → f i = g i) : IsSet cs g := ⟨h.1, fun i hi => by rw [← e i hi]; exact h.2 i hi⟩

theorem oin_both (l : List UInt8) (f g : Nat → Bool) : oin l (fun i => f i && g i) = (oin l f && oin l g) := by
  unfold oin
  induction l with
  | nil => rfl
  | cons a l ih => simp only [List.all_cons, ih]; cases f a.toNat <;> cases g a.toNat <;> cases l.all (fun c => f c.toNat) <;> simp

theorem heap_alloc_keep {W : World} {k : Nat} {o o' : Obj} (h : W.heap[k]? = some o) : (W.alloc o').heap[k]? = some o := (Below.heap_alloc W o' k (lt_of_block h)).trans h
theorem heap_set_keep {W : World} {k g j : Nat} {o : Obj} {u : Value} (h : W.heap[k]? = some o) (hk : k ≠ g) : (W.setCell ⟨g, j, none⟩ u).heap[k]? = some o := (heap_setCell_other W ⟨g, j, none⟩ k u hk).trans h

/-- What the round of the loop over the 256 bytes knows of the world: two sets that stand (blocks A, A + 1), two that are filled (blocks B, B + 1). -/
structure Fill (w wr : World) (A B : Nat) (ca cb : Array Value) (fa fb : Nat → Bool) (k : Nat) : Prop where
  ha : wr.heap[A]? = some (.cells ca 22 (0, 0))
  hb : wr.heap[A + 1]? = some (.cells cb 22 (0, 0))
  hx : ∃ cx, wr.heap[B]? = some (.cells cx 22 (0, 0)) ∧ IsSet cx (fun i => if i < k then fa i && fb i else false)
  hy : ∃ cy, wr.heap[B + 1]? = some (.cells cy 22 (0, 0)) ∧ IsSet cy (fun i => if i < k then fa i || fb i else false)
  bel : Below A w wr

theorem Fill.cells {w wr : World} {A B : Nat} {ca cb : Array Value} {fa fb : Nat → Bool} {k : Nat} (h : Fill w wr A B ca cb fa fb k) (iA : IsSet ca fa) (iB : IsSet cb fb) (hk : k < 256) :
    wr.cell? ⟨A, k, none⟩ = some (.bool (fa k)) ∧ wr.cell? ⟨A + 1, k, none⟩ = some (.bool (fb k)) ∧ (∃ x, wr.cell? ⟨B, k, none⟩ = some (.bool x)) ∧ (∃ x, wr.cell? ⟨B + 1, k, none⟩ = some (.bool x)) ∧ wr.frozen? ⟨B, k, none⟩ = false ∧ wr.frozen? ⟨B + 1, k, none⟩ = false := by
  obtain ⟨cx, hx, ix⟩ := h.hx
  obtain ⟨cy, hy, iy⟩ := h.hy
  exact ⟨(cell_of_row _ _ _ _ _ _ h.ha).trans (iA.2 k hk), (cell_of_row _ _ _ _ _ _ h.hb).trans (iB.2 k hk), ⟨_, (cell_of_row _ _ _ _ _ _ hx).trans (ix.2 k hk)⟩, ⟨_, (cell_of_row _ _ _ _ _ _ hy).trans (iy.2 k hk)⟩, frozen_of_row _ _ _ _ _ hx, frozen_of_row _ _ _ _ _ hy⟩

theorem Fill.step {w wr : World} {A B : Nat} {ca cb : Array Value} {fa fb : Nat → Bool} {k : Nat} (h : Fill w wr A B ca cb fa fb k) (hk : k < 256) (hAB : A + 1 < B) {x y : Bool} (hx : x = (fa k && fb k)) (hy : y = (fa k || fb k)) :
    Fill w ((wr.setCell ⟨B, k, none⟩ (.bool x)).setCell ⟨B + 1, k, none⟩ (.bool y)) A B ca cb fa fb (k + 1) := by
  obtain ⟨cx, gx, ix⟩ := h.hx
  obtain ⟨cy, gy, iy⟩ := h.hy
  refine ⟨heap_set_keep (heap_set_keep h.ha (by omega)) (by omega), heap_set_keep (heap_set_keep h.hb (by omega)) (by omega), ⟨_, heap_set_keep (heap_setCell_same wr B k cx 22 _ gx) (by omega), isSet_set ix k x hk (fun i => ?_)⟩,
    ⟨_, heap_setCell_same _ (B + 1) k cy 22 _ (heap_set_keep gy (by omega)), isSet_set iy k y hk (fun i => ?_)⟩, (h.bel.setCell (by simp; omega) _).setCell (by simp; omega) _⟩
  · by_cases e : k = i
    · subst e; rw [if_pos rfl, if_pos (by omega), hx]
    · rw [if_neg e]
      by_cases e2 : i < k
      · rw [if_pos (by omega), if_pos e2]
      · rw [if_neg (by omega), if_neg e2]
  · by_cases e : k = i
    · subst e; rw [if_pos rfl, if_pos (by omega), hy]
    · rw [if_neg e]
      by_cases e2 : i < k
      · rw [if_pos (by omega), if_pos e2]
      · rw [if_neg (by omega), if_neg e2]

theorem fill_start {w w1 : World} {ca cb : Array Value} {fa fb : Nat → Bool} {A : Nat} (ha : w1.heap[A]? = some (.cells ca 22 (0, 0))) (hb : w1.heap[A + 1]? = some (.cells cb 22 (0, 0))) (bel : Below A w w1) :
    Fill w ((w1.alloc (.cells Z22 22)).alloc (.cells Z22 22)) A w1.heap.size ca cb fa fb 0 := by
  have hl := lt_of_block hb
  refine ⟨heap_alloc_keep (heap_alloc_keep ha), heap_alloc_keep (heap_alloc_keep hb), ⟨Z22, heap_alloc_keep (heap_alloc_new w1 _), isSet_congr Z22_set (fun i _ => by simp)⟩, ⟨Z22, heap_alloc2_new w1 _ _, isSet_congr Z22_set (fun i _ => by simp)⟩, (bel.alloc (by omega) _).alloc (by simp; omega) _⟩

theorem setRow_two (w : World) (o : Obj) (c c' : Array Value) (t : TypeId) : ((w.alloc o).alloc (.cells c t)).setRow (w.heap.size + 1) c' = (w.alloc o).alloc (.cells c' t) := by
  have := World.setRow_alloc_new (w.alloc o) c c' t
  simpa using this

/-- What is kept behind the loop: the first set, the meet, the join. -/
structure St (w wi : World) (A B : Nat) (ca cx cy : Array Value) : Prop where
  ha : wi.heap[A]? = some (.cells ca 22 (0, 0))
  hx : wi.heap[B]? = some (.cells cx 22 (0, 0))
  hy : wi.heap[B + 1]? = some (.cells cy 22 (0, 0))
  bel : Below A w wi

theorem St.keep {w wi wj : World} {A B : Nat} {ca cx cy : Array Value} (h : St w wi A B ca cx cy) (hb : Below wi.heap.size wi wj) : St w wj A B ca cx cy :=
  ⟨heap_keep h.ha hb, heap_keep h.hx hb, heap_keep h.hy hb, h.bel.trans (hb.mono (by have := lt_of_block h.ha; omega))⟩

theorem St.alloc {w wi : World} {A B : Nat} {ca cx cy : Array Value} (h : St w wi A B ca cx cy) (o : Obj) : St w (wi.alloc o) A B ca cx cy :=
  ⟨heap_alloc_keep h.ha, heap_alloc_keep h.hx, heap_alloc_keep h.hy, h.bel.alloc (by have := lt_of_block h.ha; omega) _⟩

theorem oin_join (l : List UInt8) (f g : Nat → Bool) (h : (oin l f || oin l g) = true) : oin l (fun i => f i || g i) = true := by
  rcases Bool.or_eq_true _ _ ▸ h with h | h
  · exact oin_mono (fun i hi => by simp [hi]) l h
  · exact oin_mono (fun i hi => by simp [hi]) l h

set_option maxHeartbeats 1000000 in
set_option maxRecDepth 20000 in
theorem lat_walk (s : ByteArray) (ca cb : Array Value) (fa fb : Nat → Bool) (kk : Int) (w : World) (hfa : IsSet ca fa) (hfb : IsSet cb fb) (hs : s.size ≤ maxLen) (hk0 : -9223372036854775808 ≤ kk) (hk1 : kk ≤ 9223372036854775807) :
    Calls Try.prog 4 #[.string s, .agg ca, .agg cb, .int .i64 kk] w fun e w' => e = .returned (.bool true) ∧ Below w.heap.size w w' := by
  unfold maxLen at hs
  have HZA : Hid ((Try.prog.info? 22).map (·.size) = some ca.size) := by show _ = _; rw [hfa.1]; exact Try.size22
  have HZB : Hid ((Try.prog.info? 22).map (·.size) = some cb.size) := by show _ = _; rw [hfb.1]; exact Try.size22
  have HFA : Hid (IsSet ca fa) := hfa
  have HFB : Hid (IsSet cb fb) := hfb
  clear hfa hfb
  go_enter Try.func4, Try.ntmps4
  go_wp2_with (first | (refine wpList_load_row rfl 22 (.tmp 5) rfl w.heap.size rfl 22 ca (0, 0) _ (heap_alloc2_old w _ _) Try.underlying22 rfl HZA.out ?_) | (refine wpList_load_row rfl 22 (.tmp 6) rfl (w.heap.size + 1) rfl 22 cb (0, 0) _ (heap_alloc2_new w _ _) Try.underlying22 rfl HZB.out ?_))
  refine (zz8 s ca cb kk _ (by omega)).mono ?_
  rintro e w1 ⟨rfl, hb1⟩
  have H1 : Hid (w1.heap[w.heap.size]? = some (.cells ca 22 (0, 0))) := heap_keep (heap_alloc2_old w _ _) hb1
  have H1' : Hid (w1.heap[w.heap.size + 1]? = some (.cells cb 22 (0, 0))) := heap_keep (heap_alloc2_new w _ _) hb1
  have B1 : Hid (Below w.heap.size w w1) := (((Below.refl _ _).alloc (Nat.le_refl _) _).alloc (by simp) _).trans (hb1.mono (by simp; omega))
  have s1 : w.heap.size + 1 < w1.heap.size := lt_of_block H1'.out
  clear hb1
  cases hfit : fits1 s
  · go_wp2
    go_ret
    exact ⟨rfl, B1.out⟩
  · have hab : s.size ≤ 1048576 := by unfold fits1 at hfit; simpa using hfit
    clear hfit
    have hz := zero_run
    go_wp2
    go_loopw [11] (fun i wr => ∃ k : Nat, k ≤ 256 ∧ i = .int .i64 k ∧ Hid (Fill w wr w.heap.size w1.heap.size ca cb fa fb k)) (fun i _ => 256 - (intOf i).toNat)
    case atStart => exact ⟨0, by omega, rfl, fill_start H1.out H1'.out B1.out⟩
    case round =>
      obtain ⟨k, hk, rfl, HL⟩ := hrel
      by_cases hlt : k < 256
      · obtain ⟨q1, q2, ⟨x0, q3⟩, ⟨y0, q4⟩, q5, q6⟩ := HL.out.cells HFA.out HFB.out hlt
        obtain ⟨x, hx⟩ : ∃ x, x = fa k := ⟨_, rfl⟩
        obtain ⟨y, hy⟩ : ∃ y, y = fb k := ⟨_, rfl⟩
        rw [← hx] at q1
        rw [← hy] at q2
        have HN : Hid (Fill w ((wr.setCell ⟨w1.heap.size, k, none⟩ (.bool (x && y))).setCell ⟨w1.heap.size + 1, k, none⟩ (.bool (x || y))) w.heap.size w1.heap.size ca cb fa fb (k + 1)) :=
          HL.out.step hlt s1 (by rw [hx, hy]) (by rw [hx, hy])
        clear hx hy
        cases x
        all_goals
          cases y
          all_goals
            go_wp2
            go_roundw
            case rel => exact ⟨k + 1, by omega, by go_num, HN.out⟩
            case measure => simp [intOf]; omega
      · obtain rfl : k = 256 := by omega
        obtain ⟨cx, hx, ix⟩ := HL.out.hx
        obtain ⟨cy, hy, iy⟩ := HL.out.hy
        have IX : Hid (IsSet cx (fun i => fa i && fb i)) := isSet_congr ix (fun i hi => by rw [if_pos hi])
        have IY : Hid (IsSet cy (fun i => fa i || fb i)) := isSet_congr iy (fun i hi => by rw [if_pos hi])
        have ST : Hid (St w wr w.heap.size w1.heap.size ca cx cy) := ⟨HL.out.ha, hx, hy, HL.out.bel⟩
        have HB : Hid (wr.heap[w.heap.size + 1]? = some (.cells cb 22 (0, 0))) := HL.out.hb
        clear hx hy ix iy HL H1 H1' B1
        go_wp2_with (first | (refine wpList_load_row rfl 22 (.tmp 5) rfl w.heap.size rfl 22 ca (0, 0) _ ST.out.ha Try.underlying22 rfl HZA.out ?_) | (refine wpList_load_row rfl 22 (.tmp 6) rfl (w.heap.size + 1) rfl 22 cb (0, 0) _ (heap_alloc_keep HB.out) Try.underlying22 rfl HZB.out ?_) | (refine wpList_store_row rfl 22 (.tmp 12) _ rfl wr.heap.size ca rfl rfl 22 Z22 (heap_alloc_new wr _) HZA.out (Z22_size.trans HFA.out.1.symm) (set_one HFA.out) ?_; rw [World.setRow_alloc_new]) | (refine wpList_store_row rfl 22 (.tmp 13) _ rfl (wr.heap.size + 1) cb rfl rfl 22 Z22 (heap_alloc2_new wr _ _) HZB.out (Z22_size.trans HFB.out.1.symm) (set_one HFB.out) ?_; rw [setRow_two]))
        refine (zzonly_any s wr.heap.size ca fa _ (by omega) (heap_alloc2_old wr _ _) HFA.out).mono ?_
        rintro e w2 ⟨rfl, hb2⟩
        have S2 : Hid (St w w2 w.heap.size w1.heap.size ca cx cy) := ((ST.out.alloc _).alloc _).keep hb2
        have G2 : Hid (w2.heap[wr.heap.size + 1]? = some (.cells cb 22 (0, 0))) := heap_keep (heap_alloc2_new wr _ _) hb2
        clear hb2 ST HB
        go_wp2_with fail
        refine (zzonly_any s (wr.heap.size + 1) cb fb w2 (by omega) G2.out HFB.out).mono ?_
        rintro e w3 ⟨rfl, hb3⟩
        have S3 : Hid (St w w3 w.heap.size w1.heap.size ca cx cy) := S2.out.keep hb3
        clear hb3 S2 G2
        go_wp2_with fail
        refine (zzonly_any s w1.heap.size cx _ w3 (by omega) S3.out.hx IX.out).mono ?_
        rintro e w4 ⟨rfl, hb4⟩
        have S4 : Hid (St w w4 w.heap.size w1.heap.size ca cx cy) := S3.out.keep hb4
        rw [oin_both]
        have HJ : Hid ((oin s.data.toList fa || oin s.data.toList fb) = true → oin s.data.toList (fun i => fa i || fb i) = true) := oin_join _ _ _
        clear hb4 S3
        generalize oin s.data.toList fa = x at HJ ⊢
        generalize oin s.data.toList fb = y at HJ ⊢
        have HP : Hid (∃ q, q = (x || y)) := ⟨_, rfl⟩
        cases x
        all_goals
          cases y
          all_goals
            first
              | (have hj := HJ.out rfl
                 have HJ2 : Hid (oin s.data.toList (fun i => fa i || fb i) = true) := hj
                 clear hj
                 go_wp2_with fail
                 refine (zzonly_any s (w1.heap.size + 1) cy _ w4 (by omega) S4.out.hy IY.out).mono ?_
                 rintro e w5 ⟨rfl, hb5⟩
                 rw [HJ2.out]
                 have S5 : Hid (St w w5 w.heap.size w1.heap.size ca cx cy) := S4.out.keep hb5
                 clear hb5 HJ2)
              | (obtain ⟨w5, rfl⟩ : ∃ w5 : World, w5 = w4 := ⟨_, rfl⟩
                 have S5 := S4)
            clear S4 HJ HP
            go_wp2_with (first | (refine wpList_load_row rfl 22 (.tmp 5) rfl w.heap.size rfl 22 ca (0, 0) _ S5.out.ha Try.underlying22 rfl HZA.out ?_) | (refine wpList_store_row rfl 22 (.tmp 16) _ rfl w5.heap.size ca rfl rfl 22 Z22 (heap_alloc_new w5 _) HZA.out (Z22_size.trans HFA.out.1.symm) (set_one HFA.out) ?_; rw [World.setRow_alloc_new]))
            refine (mark_any s w5.heap.size ca fa _ (by omega) (heap_alloc_new w5 _) HFA.out).mono ?_
            rintro e w6 ⟨rfl, ⟨c6, g6, i6⟩, gr6⟩
            have G6 : Hid (w6.heap[w5.heap.size]? = some (.cells c6 22 (0, 0))) := g6
            have I6 : Hid (IsSet c6 (mark fa s.data.toList)) := i6
            have B6 : Hid (Below w.heap.size w w6) := (S5.out.alloc _).bel.grown gr6 (by have := S5.out.bel.size; simp; omega) (fun k hk => by have := S5.out.bel.size; cases hk; omega)
            clear g6 i6 gr6 S5
            go_wp2_with fail
            refine (zzonly_any s w5.heap.size c6 _ w6 (by omega) G6.out I6.out).mono ?_
            rintro e w7 ⟨rfl, hb7⟩
            rw [oin_mark]
            have G7 : Hid (w7.heap[w5.heap.size]? = some (.cells c6 22 (0, 0))) := heap_keep G6.out hb7
            have B7 : Hid (Below w.heap.size w w7) := B6.out.trans (hb7.mono B6.out.size)
            clear hb7 G6 B6
            rcases (show kk < 0 ∨ (s.size : Int) ≤ kk ∨ (0 ≤ kk ∧ kk < (s.size : Int)) by omega) with hlo | hhi | ⟨hlo, hhi⟩
            · go_wp2
              go_ret
              exact ⟨rfl, B7.out⟩
            · have hge : 0 ≤ kk := by omega
              go_wp2
              go_ret
              exact ⟨rfl, B7.out⟩
            · obtain ⟨j, rfl⟩ := Int.eq_ofNat_of_zero_le hlo
              have hjs : j < s.size := by omega
              have h256 : s[j].toNat < 256 := UInt8.toNat_lt _
              have HZ6 : Hid ((Try.prog.info? 22).map (·.size) = some c6.size) := by show _ = _; rw [I6.out.1]; exact Try.size22
              obtain ⟨u, hu⟩ : ∃ u, c6[s[j].toNat]? = some (.bool u) := ⟨_, I6.out.2 _ h256⟩
              go_wp2_with (first | (refine wpList_load_row rfl 22 (.tmp 16) rfl w5.heap.size rfl 22 c6 (0, 0) _ G7.out Try.underlying22 rfl HZ6.out ?_) | (refine wpList_store_row rfl 22 (.tmp 17) _ rfl w7.heap.size c6 rfl rfl 22 Z22 (heap_alloc_new w7 _) HZ6.out (Z22_size.trans I6.out.1.symm) (set_one I6.out) ?_; rw [World.setRow_alloc_new]))
              refine (zzonly_any s w7.heap.size (c6.setIfInBounds s[j].toNat (.bool false)) (fun i => if s[j].toNat = i then false else mark fa s.data.toList i) _ (by omega) (heap_alloc_new w7 _) (isSet_set I6.out _ false h256 (fun i => rfl))).mono ?_
              rintro e w8 ⟨rfl, hb8⟩
              rw [oin_no s j hjs _ (by simp)]
              have B8 : Hid (Below w.heap.size w w8) := (B7.out.alloc B7.out.size _).trans (hb8.mono (by have := B7.out.size; simp; omega))
              clear hb8
              go_wp2
              go_ret
              exact ⟨rfl, B8.out⟩
end Go.Proofs.Qxb6618412a
