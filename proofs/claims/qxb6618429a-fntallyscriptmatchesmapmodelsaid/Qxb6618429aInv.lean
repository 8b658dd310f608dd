/-
  What the law's loop knows of the world, and how each step of a round hands it on.
-/
import Derived.Test.Qxb6618429aParts
import Derived.LaidEqlPtr
namespace Go.Proofs.Qxb6618429a
open Go.RowKit Go.Maps

def kv (k : Nat) : Value := .int .u64 k
def pv (g : Nat) : Value := .pointer (some ⟨g, 0, none⟩)

/-- The two slices of the law, and vt. V: vt's block; S, T: the slices' blocks. -/
structure Inv (w wr : World) (V S T cap : Nat) (ks gs : List Nat) : Prop where
  near : Near wr V ks gs
  own1 : wr.ownsRow (V + 1) 31 1 (.slice (some ⟨S, 0, none⟩) ks.length cap) ks.length (ks.map kv)
  own2 : wr.ownsRow (V + 1) 32 1 (.slice (some ⟨T, 0, none⟩) ks.length cap) ks.length (gs.map pv)
  nd : ks.Nodup
  len : gs.length = ks.length
  small : ∀ k ∈ ks, k < 18446744073709551616
  blk : ∀ g ∈ gs, wr.heap[g]? = some blank
  ne : S ≠ T
  bel : Below V w wr

theorem own_block {w : World} {base e S n cap : Nat} {xs : List Value} (h : w.ownsRow base e 1 (.slice (some ⟨S, 0, none⟩) n cap) n xs) : base ≤ S ∧ ∃ cur, w.heap[S]? = some (.cells cur e (0, 0)) := by
  rcases h.2 with ⟨h', _⟩ | ⟨g, cap', cur, h', hb, hg, _⟩
  · cases h'
  · simp only [Value.slice.injEq, Option.some.injEq, Addr.mk.injEq, and_true, true_and] at h'
    obtain ⟨rfl, rfl⟩ := h'
    exact ⟨hb, cur, hg⟩

theorem own_keep {w w' : World} {base e S n cap : Nat} {xs : List Value} (h : w.ownsRow base e 1 (.slice (some ⟨S, 0, none⟩) n cap) n xs) (hk : ∀ cur, w.heap[S]? = some (.cells cur e (0, 0)) → w'.heap[S]? = some (.cells cur e (0, 0))) : w'.ownsRow base e 1 (.slice (some ⟨S, 0, none⟩) n cap) n xs := by
  refine ⟨h.1, ?_⟩
  rcases h.2 with ⟨h', _⟩ | ⟨g, cap', cur, h', hb, hg, r⟩
  · cases h'
  · simp only [Value.slice.injEq, Option.some.injEq, Addr.mk.injEq, and_true, true_and] at h'
    obtain ⟨rfl, rfl⟩ := h'
    exact Or.inr ⟨S, cap, cur, rfl, hb, hk cur hg, r⟩

/-- The variable and its map while a row's block is written and new blocks are made. -/
theorem near_keep {w w' : World} {V S : Nat} {ks gs : List Nat} {cur : Array Value} {e : Nat} (h : Near w V ks gs) (hS : w.heap[S]? = some (.cells cur e (0, 0))) (hVS : V ≠ S) (hg : w.grownBy w' (some S)) : Near w' V ks gs := by
  rcases h with ⟨h1, h2, h3⟩ | ⟨b, D, h1, h2, h3, h4⟩
  · exact Or.inl ⟨h1, h2, (hg.block V (lt_of_block h3) (by simpa using hVS)).trans h3⟩
  · refine Or.inr ⟨b, D, (hg.block V (lt_of_block h1) (by simpa using hVS)).trans h1, h2, h3.kept hg ?_, h4⟩
    intro e
    obtain ⟨es, clock, hm, _⟩ := h3
    simp at e
    rw [e, hS] at hm
    cases hm

theorem near_alloc {w : World} {V : Nat} {ks gs : List Nat} (h : Near w V ks gs) (o : Obj) : Near (w.alloc o) V ks gs := by
  rcases h with ⟨h1, h2, h3⟩ | ⟨b, D, h1, h2, h3, h4⟩
  · exact Or.inl ⟨h1, h2, (Below.heap_alloc w o V (lt_of_block h3)).trans h3⟩
  · exact Or.inr ⟨b, D, (Below.heap_alloc w o V (lt_of_block h1)).trans h1, h2, h3.alloc o, h4⟩

theorem inv_start {w w1 w2 : World} {n : Nat} (h1 : w1.ownsRow (w.heap.size + 1) 31 1 (.slice (some ⟨w.heap.size + 1, 0, none⟩) 0 n) 0 []) (g1 : (w.alloc (.cells #[.map none, .slice none 0 0] 27)).grownBy w1 none)
    (h2 : w2.ownsRow (w.heap.size + 1) 32 1 (.slice (some ⟨w1.heap.size, 0, none⟩) 0 n) 0 []) (g2 : w1.grownBy w2 none) : Inv w w2 w.heap.size (w.heap.size + 1) w1.heap.size n [] [] := by
  obtain ⟨_, cur, hb⟩ := own_block h1
  have hl := lt_of_block hb
  refine ⟨Or.inl ⟨rfl, rfl, (g2.block _ (by omega) (by simp)).trans ((g1.block _ (by simp) (by simp)).trans (heap_alloc_new w _))⟩, h1.kept g2 (by simp [Value.ownBlock]), h2, List.nodup_nil, rfl, by simp, by simp, by omega, ?_⟩
  exact (((Below.refl _ _).alloc (Nat.le_refl _) _).grown g1 (by simp) (fun k hk => by cases hk)).grown g2 (by omega) (fun k hk => by cases hk)

/-- The cells of the two slices. -/
theorem Inv.cell1 {w wr : World} {V S T cap : Nat} {ks gs : List Nat} (h : Inv w wr V S T cap ks gs) (i : Nat) (hi : i < ks.length) : wr.cell? ⟨S, i, none⟩ = some (.int .u64 (ks.getD i 0)) := by
  rw [h.own1.cellAt i (by omega), List.getElem?_map, List.getElem?_eq_getElem hi, List.getD_eq_getElem?_getD, List.getElem?_eq_getElem hi]
  rfl
theorem Inv.cell2 {w wr : World} {V S T cap : Nat} {ks gs : List Nat} (h : Inv w wr V S T cap ks gs) (i : Nat) (hi : i < ks.length) : wr.cell? ⟨T, i, none⟩ = some (.pointer (some ⟨gs.getD i 0, 0, none⟩)) := by
  have hg : i < gs.length := by rw [h.len]; exact hi
  rw [h.own2.cellAt i (by omega), List.getElem?_map, List.getElem?_eq_getElem hg, List.getD_eq_getElem?_getD, List.getElem?_eq_getElem hg]
  rfl
theorem Inv.glt {w wr : World} {V S T cap : Nat} {ks gs : List Nat} (h : Inv w wr V S T cap ks gs) : ∀ g ∈ gs, g < wr.heap.size := fun g hg => lt_of_block (h.blk g hg)

theorem Inv.gV {w wr : World} {V S T cap : Nat} {ks gs : List Nat} (h : Inv w wr V S T cap ks gs) : ∀ g ∈ gs, g ≠ V := by
  intro g hg e
  have h1 := h.blk g hg
  subst e
  rcases h.near with ⟨_, _, x⟩ | ⟨_, _, x, _⟩ <;> (rw [x] at h1; simp [blank] at h1)

theorem keep_of {w w' : World} {V S e : Nat} (h : Keeps V w w') (hVS : V ≠ S) : ∀ cur, w.heap[S]? = some (.cells cur e (0, 0)) → w'.heap[S]? = some (.cells cur e (0, 0)) := fun cur hc => h.cells S cur e (0, 0) (fun e => hVS e.symm) hc

/-- A round at a new key: the first slice behind the look-up, the draws and the new block. -/
theorem Inv.first {w wr w1 : World} {V S T cap q : Nat} {ks gs : List Nat} (h : Inv w wr V S T cap ks gs) (hk : Keeps V wr w1) (o : Obj) : ((w1.drewN q).alloc o).ownsRow (V + 1) 31 1 (.slice (some ⟨S, 0, none⟩) ks.length cap) ks.length (ks.map kv) := by
  have hb := (own_block h.own1).1
  have h1 : w1.ownsRow (V + 1) 31 1 (.slice (some ⟨S, 0, none⟩) ks.length cap) ks.length (ks.map kv) := own_keep h.own1 (keep_of hk (by omega))
  exact World.ownsRow.alloc (w := w1.drewN q) h1 o

theorem Inv.second {w wr w1 w3 : World} {V S T cap q : Nat} {ks gs : List Nat} (h : Inv w wr V S T cap ks gs) (hk : Keeps V wr w1) {o : Obj} (g3 : ((w1.drewN q).alloc o).grownBy w3 (some S)) (o' : Obj) : (w3.alloc o').ownsRow (V + 1) 32 1 (.slice (some ⟨T, 0, none⟩) ks.length cap) ks.length (gs.map pv) := by
  have hb := (own_block h.own2).1
  have h1 : w1.ownsRow (V + 1) 32 1 (.slice (some ⟨T, 0, none⟩) ks.length cap) ks.length (gs.map pv) := own_keep h.own2 (keep_of hk (by omega))
  have h2 := World.ownsRow.alloc (w := w1.drewN q) h1 o
  exact (h2.kept g3 (by simp [Value.ownBlock]; exact fun e => h.ne e.symm)).alloc o'

theorem Inv.next {w wr w1 w3 w4 : World} {V S T cap q k g : Nat} {ks gs : List Nat} (h : Inv w wr V S T cap ks gs) (hm : Made V wr w1 ks gs k g) (hnew : k ∉ ks) (hk : k < 18446744073709551616) {o o' : Obj}
    (h3 : w3.ownsRow (V + 1) 31 1 (.slice (some ⟨S, 0, none⟩) (ks.length + 1) cap) (ks.length + 1) (ks.map kv ++ [kv k])) (g3 : ((w1.drewN q).alloc o).grownBy w3 (some S))
    (h4 : w4.ownsRow (V + 1) 32 1 (.slice (some ⟨T, 0, none⟩) (ks.length + 1) cap) (ks.length + 1) (gs.map pv ++ [pv g])) (g4 : (w3.alloc o').grownBy w4 (some T)) : Inv w w4 V S T cap (ks ++ [k]) (gs ++ [g]) := by
  obtain ⟨hb1, c1, e1⟩ := own_block (h.first hm.keeps (q := q) o)
  obtain ⟨hb2, c2, e2⟩ := own_block (h.second hm.keeps g3 o')
  have n1 : Near ((w1.drewN q).alloc o) V (ks ++ [k]) (gs ++ [g]) := near_alloc (w := w1.drewN q) hm.near o
  have n3 := near_alloc (near_keep n1 e1 (by omega) g3) o'
  have n4 := near_keep n3 e2 (by omega) g4
  have s1 : w1.heap.size + 1 ≤ w3.heap.size := by have := g3.size; simpa using this
  have s3 : w3.heap.size + 1 ≤ w4.heap.size := by have := g4.size; simpa using this
  have hg := lt_of_block hm.block
  have hV := hm.keeps.bel.size
  have hs0 := h.bel.size
  have hVr : V < wr.heap.size := by
    rcases h.near with ⟨_, _, x⟩ | ⟨_, _, x, _⟩ <;> exact lt_of_block x
  refine ⟨n4, ?_, by simpa using h4, ?_, by simp [h.len], ?_, ?_, h.ne, ?_⟩
  · have := (h3.alloc o').kept g4 (by simp [Value.ownBlock]; exact h.ne)
    simpa using this
  · rw [List.nodup_append]
    exact ⟨h.nd, by simp, fun a ha b hb => by simp at hb; subst hb; exact fun e => hnew (e ▸ ha)⟩
  · intro x hx
    simp at hx
    rcases hx with hx | rfl
    · exact h.small x hx
    · exact hk
  · have hrow : ∀ x : Nat, w1.heap[x]? = some blank → w4.heap[x]? = some blank := by
      intro x hx
      have y1 : ((w1.drewN q).alloc o).heap[x]? = some blank := (Below.heap_alloc (w1.drewN q) o x (lt_of_block (w := w1) hx)).trans hx
      have xS : x ≠ S := fun e => by rw [e, e1] at y1; simp [blank] at y1
      have y2 : w3.heap[x]? = some blank := (g3.block x (lt_of_block y1) (by simpa using xS)).trans y1
      have y3 : (w3.alloc o').heap[x]? = some blank := (Below.heap_alloc w3 o' x (lt_of_block y2)).trans y2
      have xT : x ≠ T := fun e => by rw [e, e2] at y3; simp [blank] at y3
      exact (g4.block x (lt_of_block y3) (by simpa using xT)).trans y3
    intro x hx
    simp at hx
    rcases hx with hx | rfl
    · exact hrow x (hm.keeps.cells x _ _ _ (h.gV x hx) (h.blk x hx))
    · exact hrow x hm.block
  · have b1 : Below V w w1 := h.bel.trans hm.keeps.bel
    have b2 : Below V w (w1.drewN q) := below_drewN b1 q
    have b3 : Below V w w3 := (b2.alloc (show V ≤ w1.heap.size by omega) o).grown g3 (by show V ≤ (w1.heap.push o).size; simp; omega) (fun k hk => by cases hk; omega)
    exact (b3.alloc (by omega) o').grown g4 (by simp; omega) (fun k hk => by cases hk; omega)

theorem Try.info43 : (Try.prog.info? 43).map (fun i => (i.zero, i.size, i.bytes)) = some (some (.agg #[.slice none 0 0, .slice none 0 0]), 2, 48) := by kernel_rfl

theorem neq_same (g : Nat) (W : World) : (binOp .neq 32 (.pointer (some ⟨g, 0, none⟩)) (.pointer (some ⟨g, 0, none⟩))).run Try.prog W = .ok (.bool false) W := by
  obtain ⟨i, hi, _, _, _⟩ := info_parts Try.info43
  have h : ∀ d : Nat, (Op.equalIn (d + 1) 32 (.pointer (some ⟨g, 0, none⟩)) (.pointer (some ⟨g, 0, none⟩))).run Try.prog W = .ok true W := fun d => by
    simp [Op.equalIn, run_underlying Try.underlying32, sizeOf, typeInfo, hi, run_sameAddr_same]
  simp only [binOp]
  simp [Op.equal, Op.maxDepth, h 9999]

theorem eql_other (y g : Nat) (W : World) (hne : y ≠ g) (hy : W.heap[y]? = some blank) (hg : W.heap[g]? = some blank) : (binOp .eql 32 (.pointer (some ⟨y, 0, none⟩)) (.pointer (some ⟨g, 0, none⟩))).run Try.prog W = .ok (.bool false) W := by
  obtain ⟨i, hi, _, hs, _⟩ := info_parts Try.info43
  exact run_eql_ptr_other W Try.underlying32 hi (by omega) (fun e => hne (congrArg Addr.block e)) hy hg

end Go.Proofs.Qxb6618429a
