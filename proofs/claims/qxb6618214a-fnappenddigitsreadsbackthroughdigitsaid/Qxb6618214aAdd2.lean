import Derived.Test.Qxb6618214aAdd
namespace Go.Proofs.Qxb6618214a
open Go.RowKit

theorem rd_olds {w : World} {ao : Option Addr} {n : Nat} {zs : List Int} (h : Rd w ao n zs) : ∀ b, ao = some b → ∀ j u, (zs.map (Value.int .u8))[j]? = some u → w.cell? (b.add j) = some u := by
  intro b hb j u hu
  have hj : j < zs.length := by have := (List.getElem?_eq_some_iff.1 hu).1; simpa using this
  obtain ⟨b', off, h1, h2, hc⟩ := h.2 (by have := h.1; omega)
  rw [hb] at h1
  obtain rfl := Option.some.inj h1
  rw [Addr.add_lit, hc j (by have := h.1; omega), ← hu]
  simp [List.getD_eq_getElem?_getD, hj]

theorem below_two (w : World) (o1 o2 : Obj) : Below w.heap.size w ((w.alloc o1).alloc o2) :=
  ((Below.refl _ _).alloc (Nat.le_refl _) _).alloc (by simp) _

theorem lit_new (w : World) (o1 : Obj) (x : Value) : ∀ j u, [x][j]? = some u → ((w.alloc o1).alloc (.cells #[x] 5)).cell? ((⟨w.heap.size + 1, 0, none⟩ : Addr).add j) = some u := by
  intro j u hu
  have := cell_one_new (w.alloc o1) x 5 j u hu
  simpa using this

/-- Behind the append: the value's shape, what it reads, the box as it was. -/
theorem app_facts {w w1 : World} {n : Nat} {zs : List Int} {x : Int} {v' : Value} {box : Array Value} {t : TypeId} {o2 : Obj} (hown : w1.ownsRow (w.heap.size + 1 + 1) 5 1 v' (n + 1) (zs.map (Value.int .u8) ++ [.int .u8 x])) (hg : ((w.alloc (.cells box t)).alloc o2).grownBy w1 none) :
    ∃ g cap, v' = .slice (some ⟨g, 0, none⟩) (n + 1) cap ∧ w.heap.size < g ∧ Rd w1 (some ⟨g, 0, none⟩) (n + 1) (zs ++ [x]) ∧ Below w.heap.size w w1 ∧ (∀ j, w1.cell? ⟨w.heap.size, j, none⟩ = (w.alloc (.cells box t)).cell? ⟨w.heap.size, j, none⟩) ∧ (∀ j, w1.frozen? ⟨w.heap.size, j, none⟩ = false) := by
  have e : zs.map (Value.int .u8) ++ [.int .u8 x] = (zs ++ [x]).map (Value.int .u8) := by simp
  rw [e] at hown
  obtain ⟨g, cap, rfl, hb, hlt, _, _, hc⟩ := own_open hown (by omega)
  have hlen : (zs ++ [x]).length = n + 1 := by simpa using hown.1
  have hbl : ∀ k, k < w.heap.size + 1 → w1.heap[k]? = (w.alloc (.cells box t)).heap[k]? := fun k hk => (hg.block k (by simp; omega) (by simp)).trans (Below.heap_alloc _ _ _ (by simpa using hk))
  refine ⟨g, cap, rfl, by omega, ⟨hlen, fun _ => ⟨g, 0, rfl, hlt, fun i hi => ?_⟩⟩, ?_, fun j => World.cell?_of_block (hbl _ (by simp)), fun j => (World.frozen?_of_block (hbl _ (by simp))).trans ?_⟩
  · rw [Nat.zero_add]
    exact hc i _ (by rw [List.getElem?_map, List.getD_eq_getElem?_getD, List.getElem?_eq_getElem (by omega)]; rfl)
  · exact (below_two w _ _).trans ((below_of_grown hg).mono (by simp; omega))
  · rw [frozen?_alloc_cells]; simp [World.frozen?]

theorem rd_set {w : World} {g n : Nat} {zs : List Int} {p : Addr} {u : Value} (h : Rd w (some ⟨g, 0, none⟩) n zs) (hp : p.block ≠ g) : Rd (w.setCell p u) (some ⟨g, 0, none⟩) n zs := by
  refine ⟨h.1, fun hpos => ?_⟩
  obtain ⟨b, off, h1, h2, hc⟩ := h.2 hpos
  cases h1
  exact ⟨g, 0, rfl, by simpa [World.setCell] using h2, fun i hi => (World.cell?_of_block (Below.heap_setCell _ _ _ _ (fun e => hp e.symm))).trans (hc i hi)⟩

set_option maxRecDepth 20000 in
set_option maxHeartbeats 1000000 in
theorem add_app (ao : Option Addr) (n : Nat) (zs : List Int) (ex d : Int) (s fr : Bool) (w : World) (hr : Rd w ao n zs) (hao : ao = none → n = 0) (hn : n < 1000) (hnd : ¬ (n = 0 ∧ d = 0)) :
    Calls Try.prog 12 #[.slice ao n n, .int .i64 ex, .bool s, .int .i64 d, .bool fr] w fun e w' => ∃ g cap, e = .returned (.tuple #[.slice (some ⟨g, 0, none⟩) (n + 1) cap, .int .i64 (addE n ex fr), .bool s]) ∧ Rd w' (some ⟨g, 0, none⟩) (n + 1) (zs ++ [d % 256]) ∧ Below w.heap.size w w' := by
  obtain ⟨i0, hi, hz0, hz1, hz2⟩ := info_parts Try.info5
  have HR : Hid (Rd w ao n zs) := hr
  have HA : Hid (ao = none → n = 0) := hao
  have hg : (((n : Int) == 0) = true ∧ (d == 0) = false) ∨ ((n : Int) == 0) = false := by
    by_cases h : n = 0
    · exact Or.inl ⟨by simp [h], beq_eq_false_iff_ne.2 fun e => hnd ⟨h, e⟩⟩
    · exact Or.inr (beq_eq_false_iff_ne.2 (by omega))
  clear hnd hr hao
  cases fr
  all_goals
    rcases hg with ⟨hn0, hd0⟩ | hn0
    all_goals
      go_enter Try.func12, Try.ntmps12
      go_wp2_with (first | (at_builtin; go_must (refine wpList_append_grows _ rfl (.tmp 56) (.tmp 59) 22 rfl 5 i0 (.int .u8 0) 1 1 Try.underlying22 hi hz0 hz1 hz2 rfl (by decide) ao n n (zs.map (Value.int .u8)) rfl (fun h => ⟨HA.out h, HA.out h⟩) (by simpa using HR.out.1) (rd_olds (HR.out.keep (below_two w _ _))) ⟨w.heap.size + 1, 0, none⟩ 1 1 [.int .u8 (d % 256)] rfl rfl (lit_new w _ _) (by simp [Value.oneCell']) (by omega) (by unfold maxLen; omega) (by omega) ?_)) | go_in)
      intro v' w1 hown hgrow
      obtain ⟨g, cap, rfl, hlt, hrd, hbel, hbox, hfz⟩ := app_facts hown hgrow
      have HRD : Hid (Rd w1 (some ⟨g, 0, none⟩) (n + 1) (zs ++ [d % 256])) := hrd
      have HB : Hid (Below w.heap.size w w1) := hbel
      clear hown hgrow hrd hbel
      go_wp2
      go_end0
      go_wp2
      go_quiet (fail)
      go_wp2
      go_ret3
      refine ⟨g, cap, ret3_eq (by simp [addE, hn]) rfl, Rd.keep ?_ (below_drewN (Below.refl _ _) _), below_drewN ?_ _⟩
      · first | exact rd_set HRD.out (by simp; omega) | exact rd_set (rd_set HRD.out (by simp; omega)) (by simp; omega)
      · first | exact HB.out.setCell (Nat.le_refl _) _ | exact (HB.out.setCell (Nat.le_refl _) _).setCell (Nat.le_refl _) _

/-- The slices that cloneBytes hands out: full, and read as zs. -/
theorem clone2 (a : Option Addr) (n cap : Nat) (zs : List Int) (w : World) (h : Rd w a n zs) (hn : n ≤ 1048576) :
    Calls Try.prog 10 #[.slice a n cap] w fun e w' => ∃ ao, e = .returned (.slice ao n n) ∧ Rd w' ao n zs ∧ (ao = none → n = 0) ∧ Below w.heap.size w w' := by
  refine (clone_any a n cap zs w h hn).mono ?_
  rintro e w' ⟨v, rfl, hown, hg, ao, rfl, hao⟩
  obtain ⟨ao', cap', he, hr⟩ := rd_of_own hown
  cases he
  exact ⟨ao, rfl, hr, hao, below_of_grown hg⟩

theorem addX_len (n : Nat) (d : Int) (zs : List Int) (h : zs.length = n) : (addX n d zs).length = n ∨ (addX n d zs).length = n + 1 := by
  unfold addX
  split
  · exact Or.inl h
  · split
    · exact Or.inr (by simp [h])
    · exact Or.inl h

theorem addX_pre (n : Nat) (d : Int) (zs : List Int) (h : zs.length = n) (i : Nat) (hi : i < n) : (addX n d zs).getD i 0 = zs.getD i 0 := by
  unfold addX
  split
  · rfl
  · split
    · simp [List.getD_eq_getElem?_getD, List.getElem?_append_left (show i < zs.length by omega)]
    · rfl

theorem addX_new (n : Nat) (d : Int) (zs : List Int) (h : zs.length = n) (hl : (addX n d zs).length = n + 1) : (addX n d zs).getD n 0 = d % 256 := by
  unfold addX at hl ⊢
  split at hl
  · omega
  · split at hl
    · rename_i h1 h2
      rw [if_neg h1, if_pos h2]
      simp [List.getD_eq_getElem?_getD, ← h]
    · omega

theorem addE_one (n : Nat) (ex : Int) (h0 : -9223372036854775808 ≤ ex) (h1 : ex ≤ 9223372036854775807) : addE n ex false = wrap64 (addE n ex true + 1) := by
  unfold addE wrap64
  split <;> simp <;> omega

/-- ZZBase30Add at a full slice. -/
theorem add_any (ao : Option Addr) (n : Nat) (zs : List Int) (ex d : Int) (s fr : Bool) (w : World) (hr : Rd w ao n zs) (hao : ao = none → n = 0) (hm : n ≤ 1048576) :
    Calls Try.prog 12 #[.slice ao n n, .int .i64 ex, .bool s, .int .i64 d, .bool fr] w fun e w' => ∃ ao' cap', e = .returned (.tuple #[.slice ao' (addX n d zs).length cap', .int .i64 (addE n ex fr), .bool (addS n d s)]) ∧ Rd w' ao' (addX n d zs).length (addX n d zs) ∧ Below w.heap.size w w' := by
  by_cases h1 : n = 0 ∧ d = 0
  · obtain ⟨rfl, rfl⟩ := h1
    refine (add_lead ao 0 ex s fr w).mono ?_
    rintro e w' ⟨rfl, hb⟩
    have e1 : addX 0 0 zs = zs := by simp [addX]
    rw [e1, hr.1]
    exact ⟨ao, 0, by simp [addS], hr.keep hb, hb⟩
  · by_cases h2 : n < 1000
    · refine (add_app ao n zs ex d s fr w hr hao h2 h1).mono ?_
      rintro e w' ⟨g, cap, rfl, hrd, hb⟩
      have e1 : addX n d zs = zs ++ [d % 256] := by simp [addX, h1, h2]
      have e2 : (zs ++ [d % 256]).length = n + 1 := by simp [hr.1]
      rw [e1, e2]
      exact ⟨_, cap, by simp [addS, h2], hrd, hb⟩
    · refine (add_full ao n n ex d s fr w (by omega) hm).mono ?_
      rintro e w' ⟨rfl, hb⟩
      have e1 : addX n d zs = zs := by simp [addX, h1, h2]
      rw [e1, hr.1]
      exact ⟨ao, n, rfl, hr.keep hb, hb⟩

set_option maxHeartbeats 1000000 in
/-- sameBytes at two slices that read alike. -/
theorem same_yes (a b : Option Addr) (n ca cb : Nat) (zs : List Int) (w : World) (ha : Rd w a n zs) (hb : Rd w b n zs) (hn : n ≤ 1048577) :
    Calls Try.prog 13 #[.slice a n ca, .slice b n cb] w fun e w' => e = .returned (.bool true) ∧ Below w.heap.size w w' := by
  rcases Nat.eq_zero_or_pos n with h0 | hpos
  · subst h0
    clear ha hb
    go_enter Try.func13, Try.ntmps13
    go_wp2
    refine wp_loop_rounds 1 ?_
    rw [rounds_succ]
    go_wp2
    go_ret
    exact ⟨rfl, Below.refl _ _⟩
  · obtain ⟨_, ha⟩ := ha
    obtain ⟨_, hb⟩ := hb
    obtain ⟨b1, o1, rfl, hl1, hc1⟩ := ha hpos
    obtain ⟨b2, o2, rfl, hl2, hc2⟩ := hb hpos
    clear ha hb
    go_enter Try.func13, Try.ntmps13
    go_wp2
    go_loopw [5] (fun i wr => ∃ k : Nat, k ≤ n ∧ i = .int .i64 k ∧ Below w.heap.size w wr) (fun i _ => n - (intOf i).toNat)
    case atStart => exact ⟨0, by omega, rfl, Below.refl _ _⟩
    case round =>
      obtain ⟨k, hk, rfl, hbel⟩ := hrel
      by_cases hlt : k < n
      · obtain ⟨z, hz⟩ : ∃ z, z = zs.getD k 0 := ⟨_, rfl⟩
        have g1 : wr.cell? ⟨b1, o1 + k, none⟩ = some (.int .u8 z) := by rw [hz]; exact (hbel.cell hl1).trans (hc1 k hlt)
        have g2 : wr.cell? ⟨b2, o2 + k, none⟩ = some (.int .u8 z) := by rw [hz]; exact (hbel.cell hl2).trans (hc2 k hlt)
        have HB : Hid (Below w.heap.size w wr) := hbel
        have hlt' : (k : Int) < (n : Int) := by omega
        clear hz hc1 hc2 hbel
        go_wp2
        go_quiet (fail)
        go_wp2
        go_roundw
        case rel => exact ⟨k + 1, by omega, by go_num, below_drewN HB.out _⟩
        case measure => simp [intOf]; omega
      · obtain rfl : k = n := by omega
        go_wp2
        go_ret
        exact ⟨rfl, hbel⟩

end Go.Proofs.Qxb6618214a
