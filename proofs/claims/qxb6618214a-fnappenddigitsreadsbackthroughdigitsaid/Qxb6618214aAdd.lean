/-
  cloneBytes once more (its result's shape), ZZBase30Add, sameBytes, over slices that are only read.
-/
import Derived.Test.Qxb6618214aProg
import Derived.Test.Qxb6618214aClone
import Derived.WalkKit
import Derived.ProofKit
import Derived.ArgAppend
import Derived.Deep.QuietTactic
import Derived.BigQuiet
import Derived.WalkSmall
namespace Go.Proofs.Qxb6618214a
open Go.RowKit

theorem Rd.keep {w w' : World} {a : Option Addr} {n : Nat} {zs : List Int} (h : Rd w a n zs) (hb : Below w.heap.size w w') : Rd w' a n zs := by
  refine ⟨h.1, fun hp => ?_⟩
  obtain ⟨b, off, rfl, hlt, hc⟩ := h.2 hp
  exact ⟨b, off, rfl, Nat.lt_of_lt_of_le hlt hb.size, fun i hi => (hb.cell hlt).trans (hc i hi)⟩

theorem below_of_grown {w w' : World} (h : w.grownBy w' none) : Below w.heap.size w w' := (Below.refl _ _).grown h (Nat.le_refl _) (fun k hk => by cases hk)

theorem rd_of_own {w : World} {base : Nat} {v : Value} {n : Nat} {zs : List Int} (h : w.ownsRow base 5 1 v n (zs.map (Value.int .u8))) :
    ∃ ao cap, v = .slice ao n cap ∧ Rd w ao n zs := by
  have hl : zs.length = n := by simpa using h.1
  rcases Nat.eq_zero_or_pos n with h0 | hp
  · rcases h.2 with ⟨rfl, _⟩ | ⟨g, cap, cur, rfl, _⟩
    · exact ⟨none, 0, by rw [h0], hl, fun h => by omega⟩
    · exact ⟨_, cap, rfl, hl, fun h => by omega⟩
  · obtain ⟨g, cap, rfl, hb, hlt, _, _, hc⟩ := own_open h hp
    refine ⟨_, cap, rfl, hl, fun _ => ⟨g, 0, rfl, hlt, fun i hi => ?_⟩⟩
    rw [Nat.zero_add]
    exact hc i _ (by simp [List.getD_eq_getElem?_getD, show i < zs.length by omega])

/-- The digits behind add. -/
def addX (n : Nat) (d : Int) (zs : List Int) : List Int := if n = 0 ∧ d = 0 then zs else if n < 1000 then zs ++ [d % 256] else zs
def addE (n : Nat) (ex : Int) (fr : Bool) : Int := if n < 1000 then (if fr then wrap64 (ex - 1) else ex) else (if fr then ex else wrap64 (ex + 1))
def addS (n : Nat) (d : Int) (s : Bool) : Bool := if n < 1000 then s else (s || d != 0)

theorem ret3_eq {v : Value} {a b : Int} {p q : Bool} (h : a = b) (h2 : p = q) : Ending.returned (.tuple #[v, .int .i64 a, .bool p]) = .returned (.tuple #[v, .int .i64 b, .bool q]) := by rw [h, h2]

set_option maxHeartbeats 1000000 in
theorem add_lead (ao : Option Addr) (cap : Nat) (ex : Int) (s fr : Bool) (w : World) :
    Calls Try.prog 12 #[.slice ao 0 cap, .int .i64 ex, .bool s, .int .i64 0, .bool fr] w fun e w' => e = .returned (.tuple #[.slice ao 0 cap, .int .i64 (addE 0 ex fr), .bool s]) ∧ Below w.heap.size w w' := by
  cases fr
  all_goals
    go_enter Try.func12, Try.ntmps12
    go_wp2
    go_end0
    go_wp2
    go_quiet (fail)
    go_wp2
    go_ret3
    exact ⟨ret3_eq (by simp [addE]) rfl, by have := (Below.refl w.heap.size w).alloc (Nat.le_refl _); exact below_drewN (this _) _⟩

set_option maxHeartbeats 1000000 in
set_option maxRecDepth 20000 in
theorem add_full (ao : Option Addr) (n cap : Nat) (ex d : Int) (s fr : Bool) (w : World) (hn : 1000 ≤ n) (hm : n ≤ 1048576) :
    Calls Try.prog 12 #[.slice ao n cap, .int .i64 ex, .bool s, .int .i64 d, .bool fr] w fun e w' => e = .returned (.tuple #[.slice ao n cap, .int .i64 (addE n ex fr), .bool (addS n d s)]) ∧ Below w.heap.size w w' := by
  have hn0 : ((n : Int) == 0) = false := beq_eq_false_iff_ne.2 (by omega)
  cases fr
  all_goals
    cases s
    all_goals
      cases hd : (d != 0)
      all_goals
        go_enter Try.func12, Try.ntmps12
        go_wp2
        go_end0
        go_wp2
        go_quiet (fail)
        go_wp2
        go_ret3
        exact ⟨ret3_eq (by simp [addE, show ¬ n < 1000 by omega]) (by simp [addS, show ¬ n < 1000 by omega, hd]), by have := (Below.refl w.heap.size w).alloc (Nat.le_refl _); exact below_drewN (this _) _⟩
end Go.Proofs.Qxb6618214a
