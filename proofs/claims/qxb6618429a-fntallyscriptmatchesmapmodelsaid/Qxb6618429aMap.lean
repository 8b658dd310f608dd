/-
  The map of tallies: what it is good for; the look-up and the store; ZZNearLen, ZZFarLen, ZZTally, ZZTallyLens.
-/
import Derived.Test.Qxb6618429aProg
import Derived.WalkKit
import Derived.ProofKit
import Derived.WalkSpells
import Derived.Maps.OwnSet
import Derived.Deep.QuietTactic
import Derived.BigQuiet
import Derived.WalkSmall
namespace Go.Proofs.Qxb6618429a
open Go.RowKit Go.Maps

/-- How an element reads, as a ghost: a pointer to a block's head by the block's number. -/
def ptrElem : Value → Option (DataW Unit × List MemPlace)
  | .pointer none => some (.nil, [])
  | .pointer (some ⟨g, 0, none⟩) => some (.lit (.int .i64 g), [])
  | _ => none

theorem ptrElem_some {v : Value} {g : Nat} {ps : List MemPlace} (h : ptrElem v = some (.lit (.int .i64 g), ps)) : v = .pointer (some ⟨g, 0, none⟩) := by
  unfold ptrElem at h
  split at h
  · simp at h
  · simp at h
    obtain ⟨h1, _⟩ := h
    have := Int.ofNat.inj h1
    subst this
    rfl
  · simp at h
theorem ptrElem_none {v : Value} {ps : List MemPlace} (h : ptrElem v = some (.nil, ps)) : v = .pointer none := by
  unfold ptrElem at h
  split at h
  · rfl
  · simp at h
  · simp at h

theorem law : Keyed Try.prog 34 := int_keyed Try.underlying34
theorem zero32 (w : World) : (zeroValue 32).run Try.prog w = .ok (.pointer none) w := by kernel_rfl

/-- The key's datum. -/
def kd (k : Nat) : Lit := .int .u64 k
theorem kd_ne {a b : Nat} (h : a ≠ b) : kd a ≠ kd b := fun e => h (by unfold kd at e; simp at e; omega)

/-- The datum D says: the keys ks, in order, lead to the blocks gs. -/
structure Mod (D : DataW Unit) (ks gs : List Nat) : Prop where
  len : gs.length = ks.length
  size : Maps.size D = ks.length
  no : ∀ k, k ∉ ks → Maps.has D (kd k) = false
  yes : ∀ (j k g : Nat), ks[j]? = some k → gs[j]? = some g → Maps.has D (kd k) = true ∧ D.atKey (kd k) .nil = .lit (.int .i64 g)

theorem mod_empty : Mod (.map []) [] [] := ⟨rfl, rfl, fun _ _ => rfl, fun j k g h => by simp at h⟩

theorem Mod.put {D : DataW Unit} {ks gs : List Nat} (h : Mod D ks gs) (ht : Tidy D) (k g : Nat) (hk : k ∉ ks) : Mod (D.put (kd k) (.lit (.int .i64 g))) (ks ++ [k]) (gs ++ [g]) := by
  have hkl : WideAt.IsKeyLit (kd k) := trivial
  refine ⟨by simp [h.len], ?_, fun k' hk' => ?_, fun j k' g' hj hg => ?_⟩
  · rw [size_put ht, h.no k hk, h.size]; simp
  · simp at hk'
    rw [has_put_other (kd_ne hk'.2)]
    exact h.no k' hk'.1
  · by_cases hlt : j < ks.length
    · rw [List.getElem?_append_left hlt] at hj
      rw [List.getElem?_append_left (by rw [h.len]; exact hlt)] at hg
      have hne : k' ≠ k := fun e => hk (by rw [← e]; exact List.mem_of_getElem? hj)
      rw [has_put_other (kd_ne hne), atKey_put_other (kd_ne hne)]
      exact h.yes j k' g' hj hg
    · rw [List.getElem?_append_right (by omega)] at hj
      rw [List.getElem?_append_right (by rw [h.len]; omega), h.len] at hg
      have h0 : j - ks.length = 0 := by
        have := (List.getElem?_eq_some_iff.1 hj).1
        simp at this; omega
      rw [h0] at hj hg
      simp at hj hg
      subst hj hg
      exact ⟨has_put_same ht.isMap hkl _, atKey_put_same ht.isMap hkl _ _⟩

section
variable (w : World) {ops : Array Oper} {rest : List Oper} {o : Oper} {a : Act} {Q : Exit → Act → World → Prop}
/-- The look-up at a key that is there. -/
theorem look_yes (hg : o.guard = none) (m x : Operand) (hop : o.op = Op.lookup 24 m x true) (b n : Nat) (D : DataW Unit) (ks gs : List Nat) (hm : a.eval m = .map (some b)) (hown : w.ownsMap Try.prog 34 ptrElem b n D) (hmod : Mod D ks gs)
    (j k g : Nat) (hk : k < 18446744073709551616) (hj : ks[j]? = some k) (hgj : gs[j]? = some g) (hx : a.eval x = .int .u64 k)
    (hK : wpList Try.prog ops Q rest (a.put o.dst (.tuple #[.pointer (some ⟨g, 0, none⟩), .bool true])) w) : wpList Try.prog ops Q (o :: rest) a w := by
  obtain ⟨y1, y2⟩ := hmod.yes j k g hj hgj
  refine wpList_lookup_own_ok w hg m x 24 hop 34 32 law Try.underlying24 ptrElem (zero32 w) .nil [] rfl b n D hm hown _ (kd k) hx (keyOf_int_mk Try.underlying34 (WalkArith.wf_u64 (by omega))) (fun v ps hv => ?_)
  rw [y2] at hv
  rw [y1, ptrElem_some hv]
  exact hK
/-- The look-up at a key that is not there. -/
theorem look_no (hg : o.guard = none) (m x : Operand) (hop : o.op = Op.lookup 24 m x true) (b n : Nat) (D : DataW Unit) (ks gs : List Nat) (hm : a.eval m = .map (some b)) (hown : w.ownsMap Try.prog 34 ptrElem b n D) (hmod : Mod D ks gs)
    (k : Nat) (hk : k < 18446744073709551616) (hj : k ∉ ks) (hx : a.eval x = .int .u64 k)
    (hK : wpList Try.prog ops Q rest (a.put o.dst (.tuple #[.pointer none, .bool false])) w) : wpList Try.prog ops Q (o :: rest) a w := by
  have y1 := hmod.no k hj
  have y2 := atKey_of_not_has y1 .nil
  refine wpList_lookup_own_ok w hg m x 24 hop 34 32 law Try.underlying24 ptrElem (zero32 w) .nil [] rfl b n D hm hown _ (kd k) hx (keyOf_int_mk Try.underlying34 (WalkArith.wf_u64 (by omega))) (fun v ps hv => ?_)
  rw [y2] at hv
  rw [y1, ptrElem_none hv]
  exact hK
end

/-- The variable vt: at block V; its map reads as ks, gs; nothing far. -/
def Near (w : World) (V : Nat) (ks gs : List Nat) : Prop :=
  (ks = [] ∧ gs = [] ∧ w.heap[V]? = some (.cells #[.map none, .slice none 0 0] 27 (0, 0))) ∨
  ∃ b D, w.heap[V]? = some (.cells #[.map (some b), .slice none 0 0] 27 (0, 0)) ∧ V < b ∧ w.ownsMap Try.prog 34 ptrElem b ks.length D ∧ Mod D ks gs

/-- Every block of cells but V is as it was; below V nothing has turned. -/
structure Keeps (V : Nat) (w w' : World) : Prop where
  bel : Below V w w'
  cells : ∀ j cs t fr, j ≠ V → w.heap[j]? = some (.cells cs t fr) → w'.heap[j]? = some (.cells cs t fr)

theorem cells_of_near {w : World} {V : Nat} {c0 c1 : Value} (h : w.heap[V]? = some (.cells #[c0, c1] 27 (0, 0))) : w.cell? ⟨V, 0, none⟩ = some c0 ∧ w.cell? ⟨V, 1, none⟩ = some c1 ∧ w.frozen? ⟨V, 0, none⟩ = false :=
  ⟨(cell_of_row _ _ _ _ _ _ h).trans rfl, (cell_of_row _ _ _ _ _ _ h).trans rfl, frozen_of_row _ _ _ _ _ h⟩

theorem far_any (V : Nat) (ks gs : List Nat) (w : World) (h : Near w V ks gs) : Calls Try.prog 6 #[.pointer (some ⟨V, 0, none⟩)] w fun e w' => e = .returned (.int .i64 0) ∧ w' = w := by
  obtain ⟨c0, hc⟩ : ∃ c0, w.heap[V]? = some (.cells #[c0, .slice none 0 0] 27 (0, 0)) := by
    rcases h with ⟨_, _, h⟩ | ⟨b, D, h, _⟩
    · exact ⟨_, h⟩
    · exact ⟨_, h⟩
  obtain ⟨_, h1, _⟩ := cells_of_near hc
  clear h hc
  go_enter Try.func6, Try.ntmps6
  go_wp2
  go_ret
  exact ⟨rfl, rfl⟩

theorem near_any (V : Nat) (ks gs : List Nat) (w : World) (h : Near w V ks gs) : Calls Try.prog 5 #[.pointer (some ⟨V, 0, none⟩)] w fun e w' => e = .returned (.int .i64 ks.length) ∧ w' = w := by
  rcases h with ⟨rfl, rfl, h⟩ | ⟨b, D, h, _, hown, hmod⟩
  · obtain ⟨h1, _, _⟩ := cells_of_near h
    have hl := fun W : World => Maps.len_nil (P := Try.prog) (w := W) Try.underlying24 3
    clear h
    go_enter Try.func5, Try.ntmps5
    go_wp2
    go_ret
    exact ⟨rfl, rfl⟩
  · obtain ⟨h1, _, _⟩ := cells_of_near h
    have HS : Hid (Maps.size D = ks.length) := hmod.size
    clear h hmod
    go_enter Try.func5, Try.ntmps5
    go_wp2_with (at_len; refine wpList_len_own _ rfl _ 24 rfl 34 32 Try.underlying24 _ b _ D rfl hown ?_)
    go_wp2
    go_ret
    exact ⟨by rw [HS.out]; rfl, rfl⟩

set_option maxHeartbeats 400000 in
/-- tally at a view that was asked before. -/
theorem tally_old (V : Nat) (ks gs : List Nat) (w : World) (h : Near w V ks gs) (j k g : Nat) (hk : k < 18446744073709551616) (hj : ks[j]? = some k) (hg : gs[j]? = some g) :
    Calls Try.prog 10 #[.pointer (some ⟨V, 0, none⟩), .int .u64 k] w fun e w' => e = .returned (.pointer (some ⟨g, 0, none⟩)) ∧ w' = w := by
  rcases h with ⟨rfl, rfl, _⟩ | ⟨b, D, h, _, hown, hmod⟩
  · simp at hj
  · obtain ⟨h1, _, _⟩ := cells_of_near h
    have heq := fun W : World => run_eql_map_nil (P := Try.prog) W 24 34 32 (some b) Try.underlying24
    have HM : Hid (Mod D ks gs) := hmod
    have HJ : Hid (ks[j]? = some k) := hj
    have HG : Hid (gs[j]? = some g) := hg
    clear h hmod hj hg
    go_enter Try.func10, Try.ntmps10
    go_wp2_with (at_lookup; go_must (refine look_yes _ rfl _ _ rfl b _ D ks gs rfl hown HM.out j k g hk HJ.out HG.out rfl ?_))
    go_wp2
    go_ret
    exact ⟨rfl, rfl⟩

/-- What tally leaves at a new view. -/
structure Made (V : Nat) (w w' : World) (ks gs : List Nat) (k g : Nat) : Prop where
  ge : w.heap.size ≤ g
  block : w'.heap[g]? = some (.cells #[.slice none 0 0, .slice none 0 0] 43 (0, 0))
  near : Near w' V (ks ++ [k]) (gs ++ [g])
  keeps : Keeps V w w'

def blank : Obj := .cells #[.slice none 0 0, .slice none 0 0] 43 (0, 0)

theorem made_old {V b k : Nat} {ks gs : List Nat} {w w1 : World} {D : DataW Unit} (HH : w.heap[V]? = some (.cells #[.map (some b), .slice none 0 0] 27 (0, 0))) (hVb : V < b) (hown : w.ownsMap Try.prog 34 ptrElem b ks.length D) (hmod : Mod D ks gs) (hks : k ∉ ks)
    (hown1 : w1.ownsMap Try.prog 34 ptrElem b (ks.length + 1) (D.put (kd k) (.lit (.int .i64 w.heap.size)))) (hg : (w.alloc blank).grownBy w1 (some b)) : Made V w w1 ks gs k w.heap.size := by
  have hb := hown.lt
  have hV := lt_of_block HH
  have hold : ∀ j, j < w.heap.size → j ≠ b → w1.heap[j]? = w.heap[j]? := fun j hj hne => (hg.block j (by simp; omega) (by simpa using hne)).trans (Below.heap_alloc w blank j hj)
  refine ⟨Nat.le_refl _, (hg.block w.heap.size (by simp) (by simp; omega)).trans (heap_alloc_new w blank), Or.inr ⟨b, _, (hold V hV (by omega)).trans HH, hVb, by simpa using hown1, hmod.put (hown.tidy law) k _ hks⟩, ⟨hg.os, hg.tape, hg.output, by have := hg.size; simp at this; omega, fun i hi => hold i (by omega) (by omega)⟩, fun j cs t fr hj hc => (hold j (lt_of_block hc) ?_).trans hc⟩
  rintro rfl
  obtain ⟨es, clock, hm, _⟩ := hown
  rw [hm] at hc
  cases hc

theorem size_set (w : World) (p : Addr) (u : Value) : (w.setCell p u).heap.size = w.heap.size := by simp [World.setCell]

theorem made_map (w : World) (p : Addr) (u : Value) : ((w.setCell p u).alloc (.map #[] 0)).ownsMap Try.prog 34 ptrElem w.heap.size 0 (.map []) := by
  have := World.ownsMap_made (w.setCell p u) Try.prog 34 ptrElem
  rw [size_set] at this
  exact this

theorem made_first {V k : Nat} {w w1 : World} (HH : w.heap[V]? = some (.cells #[.map none, .slice none 0 0] 27 (0, 0))) (hown1 : w1.ownsMap Try.prog 34 ptrElem w.heap.size (0 + 1) (DataW.put (.map []) (kd k) (.lit (.int .i64 (w.heap.size + 1 : Nat)))))
    (hg : (((w.setCell ⟨V, 0, none⟩ (.map (some w.heap.size))).alloc (.map #[] 0)).alloc blank).grownBy w1 (some w.heap.size)) : Made V w w1 [] [] k (w.heap.size + 1) := by
  have hV := lt_of_block HH
  have hs := size_set w ⟨V, 0, none⟩ (.map (some w.heap.size))
  have h0 : ∀ j, j < w.heap.size → w1.heap[j]? = (w.setCell ⟨V, 0, none⟩ (.map (some w.heap.size))).heap[j]? := fun j hj => ((hg.block j (by simp [hs]; omega) (by simp; omega)).trans (Below.heap_alloc _ blank j (by simp [hs]; omega))).trans (Below.heap_alloc _ _ j (by omega))
  have hold : ∀ j, j < w.heap.size → j ≠ V → w1.heap[j]? = w.heap[j]? := fun j hj hne => (h0 j hj).trans (Below.heap_setCell _ _ _ _ (by simpa using hne))
  have hVV : w1.heap[V]? = some (.cells #[.map (some w.heap.size), .slice none 0 0] 27 (0, 0)) := by
    rw [h0 V hV, heap_setCell_same _ V 0 #[.map none, .slice none 0 0] 27 _ HH]
    rfl
  refine ⟨by omega, ?_, Or.inr ⟨w.heap.size, _, hVV, hV, by simpa using hown1, mod_empty.put tidy_empty k _ (by simp)⟩, ⟨hg.os, hg.tape, hg.output, by have := hg.size; simp [hs] at this; omega, fun i hi => hold i (by omega) (by omega)⟩, fun j cs t fr hj hc => (hold j (lt_of_block hc) hj).trans hc⟩
  have hs2 : ((w.setCell ⟨V, 0, none⟩ (.map (some w.heap.size))).alloc (.map #[] 0)).heap.size = w.heap.size + 1 := by simp [hs]
  rw [hg.block (w.heap.size + 1) (by simp [hs]) (by simp), ← hs2]
  exact heap_alloc_new _ blank

set_option maxHeartbeats 400000 in
theorem tally_new (V : Nat) (ks gs : List Nat) (w : World) (h : Near w V ks gs) (k : Nat) (hk : k < 18446744073709551616) (hks : k ∉ ks) (hl : ks.length ≤ 4096) :
    Calls Try.prog 10 #[.pointer (some ⟨V, 0, none⟩), .int .u64 k] w fun e w' => ∃ g, e = .returned (.pointer (some ⟨g, 0, none⟩)) ∧ Made V w w' ks gs k g := by
  have HK : Hid (k ∉ ks) := hks
  clear hks
  have hkey : keyOf Try.prog 34 (.int .u64 k) = some (kd k) := keyOf_int_mk Try.underlying34 (WalkArith.wf_u64 (by omega))
  have HKEY : Hid (keyOf Try.prog 34 (.int .u64 k) = some (kd k)) := hkey
  clear hkey
  rcases h with ⟨rfl, rfl, h⟩ | ⟨b, D, h, hVb, hown, hmod⟩
  · obtain ⟨h1, h2, h3⟩ := cells_of_near h
    have hlt := lt_of_block h
    have heq := fun W : World => run_eql_map_nil (P := Try.prog) W 24 34 32 none Try.underlying24
    have hmm := @run_makeMap Try.prog
    have HH : Hid (w.heap[V]? = some (.cells #[.map none, .slice none 0 0] 27 (0, 0))) := h
    clear h
    go_enter Try.func10, Try.ntmps10
    go_wp2_with (first | (at_lookup; go_must (refine look_no _ rfl _ _ rfl w.heap.size 0 (.map []) [] [] rfl (made_map w _ _) mod_empty k hk HK.out rfl ?_)) | (at_mapUpdate; go_must (refine wpList_mapUpdate_own _ rfl _ _ _ 24 rfl 34 32 law Try.underlying24 ptrElem w.heap.size 0 (.map []) rfl ((made_map w _ _).alloc _) (by unfold maxLen; omega) _ _ (kd k) rfl rfl HKEY.out (.lit (.int .i64 (w.heap.size + 1 : Nat))) [] rfl ?_)))
    intro w1 hown1 hgrow1
    have HMade : Hid (Made V w w1 [] [] k (w.heap.size + 1)) := made_first HH.out hown1 hgrow1
    clear hown1 hgrow1
    go_wp2
    go_ret
    exact ⟨_, rfl, HMade.out⟩
  · obtain ⟨h1, h2, h3⟩ := cells_of_near h
    have hlt := lt_of_block h
    have heq := fun W : World => run_eql_map_nil (P := Try.prog) W 24 34 32 (some b) Try.underlying24
    have HH : Hid (w.heap[V]? = some (.cells #[.map (some b), .slice none 0 0] 27 (0, 0))) := h
    have HM : Hid (Mod D ks gs) := hmod
    clear h hmod
    go_enter Try.func10, Try.ntmps10
    go_wp2_with (first | (at_lookup; go_must (refine look_no _ rfl _ _ rfl b _ D ks gs rfl hown HM.out k hk HK.out rfl ?_)) | (at_mapUpdate; go_must (refine wpList_mapUpdate_own _ rfl _ _ _ 24 rfl 34 32 law Try.underlying24 ptrElem b ks.length D rfl (hown.alloc _) (by unfold maxLen; omega) _ _ (kd k) rfl rfl HKEY.out (.lit (.int .i64 w.heap.size)) [] rfl ?_)))
    intro w1 hown1 hgrow1
    have HMade : Hid (Made V w w1 ks gs k w.heap.size) := made_old HH.out hVb hown HM.out HK.out hown1 hgrow1
    clear hown1 hgrow1 hown
    go_wp2
    go_ret
    exact ⟨_, rfl, HMade.out⟩
end Go.Proofs.Qxb6618429a
