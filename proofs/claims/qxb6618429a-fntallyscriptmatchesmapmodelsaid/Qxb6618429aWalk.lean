/-
  The law's walk.
-/
import Derived.Test.Qxb6618429aInv
namespace Go.Proofs.Qxb6618429a
open Go.RowKit Go.Maps

/-- The first n cells behind the address hold the numbers zs. -/
def Rd (w : World) (a : Option Addr) (n : Nat) (zs : List Nat) : Prop :=
  zs.length = n ∧ (∀ z ∈ zs, z < 18446744073709551616) ∧ (0 < n → ∃ b off, a = some ⟨b, off, none⟩ ∧ b < w.heap.size ∧ ∀ i, i < n → w.cell? ⟨b, off + i, none⟩ = some (.int .u64 (zs.getD i 0)))

theorem Try.info31 : (Try.prog.info? 31).map (fun i => (i.zero, i.size, i.bytes)) = some (some (.int .u64 0), 1, 8) := by kernel_rfl
theorem Try.info32 : (Try.prog.info? 32).map (fun i => (i.zero, i.size, i.bytes)) = some (some (.pointer none), 1, 8) := by kernel_rfl

theorem Inv.kcell1 {w wr w1 : World} {V S T cap : Nat} {ks gs : List Nat} (h : Inv w wr V S T cap ks gs) (hk : Keeps V wr w1) (i : Nat) (hi : i < ks.length) : w1.cell? ⟨S, i, none⟩ = some (.int .u64 (ks.getD i 0)) := by
  obtain ⟨hb, cur, hc⟩ := own_block h.own1
  rw [← h.cell1 i hi]
  exact World.cell?_of_block ((hk.cells S cur 31 (0, 0) (by omega) hc).trans hc.symm)
theorem Inv.kcell2 {w wr w1 : World} {V S T cap : Nat} {ks gs : List Nat} (h : Inv w wr V S T cap ks gs) (hk : Keeps V wr w1) (i : Nat) (hi : i < ks.length) : w1.cell? ⟨T, i, none⟩ = some (.pointer (some ⟨gs.getD i 0, 0, none⟩)) := by
  obtain ⟨hb, cur, hc⟩ := own_block h.own2
  rw [← h.cell2 i hi]
  exact World.cell?_of_block ((hk.cells T cur 32 (0, 0) (by omega) hc).trans hc.symm)
theorem Inv.gne {w wr w1 : World} {V S T cap k g : Nat} {ks gs : List Nat} (h : Inv w wr V S T cap ks gs) (hm : Made V wr w1 ks gs k g) (i : Nat) (hi : i < ks.length) : gs.getD i 0 ≠ g := by
  have hg : i < gs.length := by rw [h.len]; exact hi
  have := h.glt (gs.getD i 0) (by rw [List.getD_eq_getElem?_getD, List.getElem?_eq_getElem hg]; exact List.getElem_mem _)
  have := hm.ge
  omega
theorem not_mem_getD {k : Nat} {ks : List Nat} (h : k ∉ ks) (i : Nat) (hi : i < ks.length) : ks.getD i 0 ≠ k := fun e => h (by rw [← e, List.getD_eq_getElem?_getD, List.getElem?_eq_getElem hi]; exact List.getElem_mem _)

theorem first_index : ∀ (ks : List Nat) (k : Nat), k ∈ ks → ∃ j, j < ks.length ∧ ks.getD j 0 = k ∧ ∀ i, i < j → ks.getD i 0 ≠ k
  | [], _, h => by cases h
  | x :: xs, k, h => by
    by_cases e : x = k
    · exact ⟨0, by simp, by simpa using e, fun i hi => by omega⟩
    · obtain ⟨j, h1, h2, h3⟩ := first_index xs k (by rcases List.mem_cons.1 h with h | h; exact absurd h.symm e; exact h)
      refine ⟨j + 1, by simp; omega, by simpa using h2, fun i hi => ?_⟩
      cases i with
      | zero => simpa using e
      | succ i => simpa using h3 i (by omega)

theorem get_of_getD {ks : List Nat} {j k : Nat} (h : j < ks.length) (e : ks.getD j 0 = k) : ks[j]? = some k := by
  rw [List.getD_eq_getElem?_getD, List.getElem?_eq_getElem h] at e
  rw [List.getElem?_eq_getElem h]
  simpa using e

theorem Near.drewN {w : World} {V : Nat} {ks gs : List Nat} (h : Near w V ks gs) (q : Nat) : Near (w.drewN q) V ks gs := h
theorem Inv.drewN {w wr : World} {V S T cap : Nat} {ks gs : List Nat} (h : Inv w wr V S T cap ks gs) (q : Nat) : Inv w (wr.drewN q) V S T cap ks gs :=
  ⟨h.near, h.own1, h.own2, h.nd, h.len, h.small, h.blk, h.ne, below_drewN h.bel q⟩

theorem new_cell (w : World) (q : Nat) (x : Value) (t : TypeId) : ∀ j u, [x][j]? = some u → ((w.drewN q).alloc (.cells #[x] t)).cell? ((⟨w.heap.size, 0, none⟩ : Addr).add j) = some u := cell_one_new (w.drewN q) x t

set_option maxHeartbeats 1000000 in
set_option maxRecDepth 20000 in
theorem tally_walk (a : Option Addr) (n cap : Nat) (zs : List Nat) (w : World) (hr : Rd w a n zs) (hn : n ≤ maxLen) :
    Calls Try.prog 3 #[.slice a n cap] w fun e w' => e = .returned (.bool true) ∧ Below w.heap.size w w' := by
  unfold maxLen at hn
  have HR : Hid (Rd w a n zs) := hr
  clear hr
  rcases (show 1048576 < n ∨ (4096 < n ∧ n ≤ 1048576) ∨ n ≤ 4096 by omega) with h | ⟨h, h'⟩ | h
  · go_enter Try.func3, Try.ntmps3
    go_wp2
    go_ret
    exact ⟨rfl, Below.refl _ _⟩
  · go_enter Try.func3, Try.ntmps3
    go_wp2
    go_ret
    exact ⟨rfl, Below.refl _ _⟩
  · obtain ⟨i1, hi1, hz11, hz12, hz13⟩ := info_parts Try.info31
    obtain ⟨i2, hi2, hz21, hz22, hz23⟩ := info_parts Try.info32
    have N0 : Hid (Near (w.alloc (.cells #[.map none, .slice none 0 0] 27)) w.heap.size [] []) := Or.inl ⟨rfl, rfl, heap_alloc_new w _⟩
    go_enter Try.func3, Try.ntmps3
    go_wp2_with (first | (go_at_call 4; go_in))
    refine (near_any w.heap.size [] [] _ N0.out).mono ?_
    rintro e w' ⟨rfl, rfl⟩
    go_wp2_with fail
    refine (far_any w.heap.size [] [] _ N0.out).mono ?_
    rintro e w' ⟨rfl, rfl⟩
    go_wp2_with (at_make; go_must (refine wpList_make_own _ rfl _ _ 22 rfl (w.heap.size + 1) 31 i1 (.int .u64 0) 1 Try.underlying22 hi1 hz11 hz12 _ _ _ n rfl rfl rfl ?b1 ?b2 ?b3 ?_))
    case b1 => rw [hz13]; omega
    case b2 => unfold maxLen; omega
    case b3 => simp
    intro w1 own1 grow1
    have OWN1 : Hid (w1.ownsRow (w.heap.size + 1) 31 1 (.slice (some ⟨w.heap.size + 1, 0, none⟩) 0 n) 0 []) := own1
    have GROW1 : Hid ((w.alloc (.cells #[.map none, .slice none 0 0] 27)).grownBy w1 none) := grow1
    have s1 : w.heap.size + 1 ≤ w1.heap.size := by have := grow1.size; simpa using this
    clear own1 grow1
    go_wp2_with (at_make; go_must (refine wpList_make_own _ rfl _ _ 30 rfl (w.heap.size + 1) 32 i2 (.pointer none) 1 Try.underlying30 hi2 hz21 hz22 _ _ _ n rfl rfl rfl ?b4 ?b5 ?b6 ?_))
    case b4 => rw [hz23]; omega
    case b5 => unfold maxLen; omega
    case b6 => exact s1
    intro w2 own2 grow2
    have I0 : Hid (Inv w w2 w.heap.size (w.heap.size + 1) w1.heap.size n [] []) := inv_start OWN1.out GROW1.out own2 grow2
    clear OWN1 GROW1 own2 grow2 N0
    go_wp2
    go_loopw [4, 5, 6] (fun v4 v5 i wr => ∃ (t : Nat) (ks gs : List Nat), t ≤ n ∧ i = .int .i64 t ∧ ks.length ≤ t ∧ v4 = .slice (some ⟨w.heap.size + 1, 0, none⟩) ks.length n ∧ v5 = .slice (some ⟨w1.heap.size, 0, none⟩) ks.length n ∧ Hid (Inv w wr w.heap.size (w.heap.size + 1) w1.heap.size n ks gs)) (fun _ _ i _ => n - (intOf i).toNat)
    case atStart => exact ⟨0, [], [], by omega, rfl, by simp, rfl, rfl, I0.out⟩
    case round =>
      obtain ⟨t, ks, gs, ht, rfl, hkt, rfl, rfl, HI⟩ := hrel
      by_cases hlt : t < n
      · obtain ⟨b, off, rfl, hb, hc⟩ := HR.out.2.2 (by omega)
        obtain ⟨k, hkz⟩ : ∃ k, k = zs.getD t 0 := ⟨_, rfl⟩
        have q0 : wr.cell? ⟨b, off + t, none⟩ = some (.int .u64 k) := by rw [hkz]; exact (HI.out.bel.cell hb).trans (hc t hlt)
        have hk64 : k < 18446744073709551616 := by
          have hl := HR.out.1
          rw [hkz, List.getD_eq_getElem?_getD, List.getElem?_eq_getElem (by omega)]
          exact HR.out.2.1 _ (List.getElem_mem _)
        clear hkz hc
        by_cases hmem : k ∈ ks
        · obtain ⟨j, hj, hjk, hjn⟩ := first_index ks k hmem
          obtain ⟨g, hg⟩ : ∃ g, g = gs.getD j 0 := ⟨_, rfl⟩
          have hgl : j < gs.length := by rw [HI.out.len]; exact hj
          have HK : Hid (ks.getD j 0 = k) := hjk
          have HNE : Hid (∀ i, i < j → ks.getD i 0 ≠ k) := hjn
          have HKJ : Hid (ks[j]? = some k) := get_of_getD hj hjk
          have HGJ : Hid (gs[j]? = some g) := get_of_getD hgl hg.symm
          have q2 : wr.cell? ⟨w1.heap.size, j, none⟩ = some (.pointer (some ⟨g, 0, none⟩)) := by rw [hg]; exact HI.out.cell2 j hj
          have hsame := neq_same g
          have hj' : (j : Int) < (ks.length : Int) := by omega
          clear hjk hjn hg hgl hmem
          go_wp2_with fail
          refine (zz_old w.heap.size ks gs wr HI.out.near j k g hk64 HKJ.out HGJ.out).mono ?_
          rintro e wr ⟨rfl, rfl⟩
          go_wp2_with fail
          refine (index_yes (w.heap.size + 1) n j k ks wr (by omega) HI.out.cell1 hj HK.out HNE.out).mono ?_
          rintro e wr ⟨rfl, rfl⟩
          go_wp2_with fail
          refine (near_any w.heap.size ks gs wr HI.out.near).mono ?_
          rintro e wr ⟨rfl, rfl⟩
          go_wp2_with fail
          refine (far_any w.heap.size ks gs wr HI.out.near).mono ?_
          rintro e wr ⟨rfl, rfl⟩
          go_wp2
          go_roundw
          case rel => exact ⟨t + 1, ks, gs, by omega, by go_num, by omega, rfl, rfl, HI.out⟩
          case measure => simp [intOf]; omega
        · have HN : Hid (k ∉ ks) := hmem
          clear hmem
          go_wp2_with fail
          refine (zz_new w.heap.size ks gs wr HI.out.near k hk64 HN.out (by omega)).mono ?_
          rintro e w3 ⟨g, rfl, made⟩
          have MD : Hid (Made w.heap.size wr w3 ks gs k g) := made
          clear made
          go_wp2_with fail
          refine (index_no (w.heap.size + 1) n k ks w3 (by omega) (HI.out.kcell1 MD.out.keeps) (not_mem_getD HN.out)).mono ?_
          rintro e w3 ⟨rfl, rfl⟩
          go_wp2
          go_loop [10] (fun i => ∃ j : Nat, j ≤ ks.length ∧ i = .int .i64 j) (fun i => ks.length - (intOf i).toNat)
          case atStart => exact ⟨0, by omega, rfl⟩
          case round =>
            obtain ⟨j, hj, rfl⟩ := hrel
            by_cases hjl : j < ks.length
            · obtain ⟨y, hy⟩ : ∃ y, y = gs.getD j 0 := ⟨_, rfl⟩
              have q2 : w3.cell? ⟨w1.heap.size, j, none⟩ = some (.pointer (some ⟨y, 0, none⟩)) := by rw [hy]; exact HI.out.kcell2 MD.out.keeps j hjl
              have hyg : y ≠ g := by rw [hy]; exact HI.out.gne MD.out j hjl
              have hgm : y ∈ gs := by
                have hgl : j < gs.length := by rw [HI.out.len]; exact hjl
                rw [hy, List.getD_eq_getElem?_getD, List.getElem?_eq_getElem hgl]; exact List.getElem_mem _
              have heq := eql_other y g w3 hyg (MD.out.keeps.cells y _ _ _ (HI.out.gV y hgm) (HI.out.blk y hgm)) MD.out.block
              have hjl' : (j : Int) < (ks.length : Int) := by omega
              clear hy hgm hyg
              go_wp2
              go_round
              case rel => exact ⟨j + 1, by omega, by go_num⟩
              case measure => simp [intOf]; omega
            · have hjl' : (ks.length : Int) ≤ (j : Int) := by omega
              go_wp2_with fail
              refine (lens_any g w3 MD.out.block).mono ?_
              rintro e w4 ⟨rfl, q, rfl⟩
              go_wp2_with (at_builtin; go_must (refine wpList_append_fits _ rfl (.tmp 80) (.tmp 82) 22 rfl (w.heap.size + 1) 31 i1 1 Try.underlying22 hi1 hz12 (w.heap.size + 1) ks.length n (ks.map kv) rfl (HI.out.first MD.out.keeps _) ⟨w3.heap.size, 0, none⟩ 1 1 [kv k] rfl rfl ?c1 ?c2 ?c3 ?_))
              case c1 => exact new_cell w3 q _ 31
              case c2 => intro u hu; simp at hu; subst hu; rfl
              case c3 => omega
              intro w5 own5 grow5
              have OWN5 : Hid (w5.ownsRow (w.heap.size + 1) 31 1 (.slice (some ⟨w.heap.size + 1, 0, none⟩) (ks.length + 1) n) (ks.length + 1) (ks.map kv ++ [kv k])) := own5
              have GROW5 : Hid (((w3.drewN q).alloc (.cells #[.int .u64 k] 31)).grownBy w5 (some (w.heap.size + 1))) := grow5
              clear own5 grow5
              go_wp2_with (at_builtin; go_must (refine wpList_append_fits _ rfl (.tmp 84) (.tmp 86) 30 rfl (w.heap.size + 1) 32 i2 1 Try.underlying30 hi2 hz22 w1.heap.size ks.length n (gs.map pv) rfl (HI.out.second MD.out.keeps GROW5.out _) ⟨w5.heap.size, 0, none⟩ 1 1 [pv g] rfl rfl ?c4 ?c5 ?c6 ?_))
              case c4 => exact cell_one_new w5 _ 32
              case c5 => intro u hu; simp at hu; subst hu; rfl
              case c6 => omega
              intro w6 own6 grow6
              have I6 : Hid (Inv w w6 w.heap.size (w.heap.size + 1) w1.heap.size n (ks ++ [k]) (gs ++ [g])) := HI.out.next MD.out HN.out hk64 OWN5.out GROW5.out own6 grow6
              clear own6 grow6 OWN5 GROW5 MD
              go_wp2_with fail
              refine (near_any w.heap.size (ks ++ [k]) (gs ++ [g]) w6 I6.out.near).mono ?_
              rintro e w6 ⟨rfl, rfl⟩
              rw [List.length_append]
              go_wp2_with fail
              refine (far_any w.heap.size (ks ++ [k]) (gs ++ [g]) _ I6.out.near).mono ?_
              rintro e w6 ⟨rfl, rfl⟩
              go_wp2
              go_roundw
              case rel => exact ⟨t + 1, ks ++ [k], gs ++ [g], by omega, by go_num, by simp; omega, by simp, by simp, I6.out⟩
              case measure => simp [intOf]; omega
      · obtain rfl : t = n := by omega
        clear HR
        go_wp2
        obtain ⟨wo, rfl⟩ : ∃ wo : World, wo = wr := ⟨_, rfl⟩
        go_loopw [13] (fun i wr => ∃ j : Nat, j ≤ ks.length ∧ i = .int .i64 j ∧ Hid (Inv w wr w.heap.size (w.heap.size + 1) w1.heap.size t ks gs)) (fun i _ => ks.length - (intOf i).toNat)
        case atStart => exact ⟨0, by omega, rfl, HI.out⟩
        case round =>
          obtain ⟨j, hj, rfl, HJ⟩ := hrel
          by_cases hjl : j < ks.length
          · have hgl : j < gs.length := by rw [HJ.out.len]; exact hjl
            obtain ⟨k, hk⟩ : ∃ k, k = ks.getD j 0 := ⟨_, rfl⟩
            obtain ⟨g, hg⟩ : ∃ g, g = gs.getD j 0 := ⟨_, rfl⟩
            have HKJ : Hid (ks[j]? = some k) := get_of_getD hjl hk.symm
            have HGJ : Hid (gs[j]? = some g) := get_of_getD hgl hg.symm
            have hk64 : k < 18446744073709551616 := HJ.out.small k (List.mem_of_getElem? HKJ.out)
            have q1 : wr.cell? ⟨w.heap.size + 1, j, none⟩ = some (.int .u64 k) := by rw [hk]; exact HJ.out.cell1 j hjl
            have q2 : wr.cell? ⟨w1.heap.size, j, none⟩ = some (.pointer (some ⟨g, 0, none⟩)) := by rw [hg]; exact HJ.out.cell2 j hjl
            have hsame := neq_same g
            have hj' : (j : Int) < (ks.length : Int) := by omega
            clear hk hg hgl
            go_wp2
            go_quiet ((go_at_call 7; exact Calls.quiet_of_same (zz_old w.heap.size ks gs _ (HJ.out.near.drewN _) j k g hk64 HKJ.out HGJ.out)))
            go_wp2
            go_roundw
            case rel => exact ⟨j + 1, by omega, by go_num, HJ.out.drewN _⟩
            case measure => simp [intOf]; omega
          · have hj' : (ks.length : Int) ≤ (j : Int) := by omega
            go_wp2_with fail
            refine (near_any w.heap.size ks gs wr HJ.out.near).mono ?_
            rintro e wr ⟨rfl, rfl⟩
            go_wp2_with fail
            refine (far_any w.heap.size ks gs wr HJ.out.near).mono ?_
            rintro e wr ⟨rfl, rfl⟩
            go_wp2
            go_ret
            exact ⟨rfl, HJ.out.bel⟩
end Go.Proofs.Qxb6618429a
