/-
  ZZrepeatCount.
-/
import Derived.Test.Qxb6614489aWithin
import Derived.BigRegion
namespace Go.Proofs.Qxb6614489a
open Go.RowKit

theorem wrapEq (x n add : Int) (h1 : 0 ≤ x) (h2 : x ≤ 4611686018427387904) (h7 : 0 ≤ add * n) (h8 : add * n ≤ 1073741824) : wrap64 (x + wrap64 ((x + add - x) * n)) = x + add * n := by
  have e : x + add - x = add := by omega
  rw [e]
  have w1 : wrap64 (add * n) = add * n := by unfold wrap64; omega
  rw [w1]
  unfold wrap64; omega
theorem two_eq {a b : Int} (h : a = b) : Ending.returned (.tuple #[.int .i64 a, .bool (decide (a ≤ 16777216))]) = .returned (.tuple #[.int .i64 b, .bool (decide (b ≤ 16777216))]) := by rw [h]

set_option maxHeartbeats 400000 in
theorem repeatCount (x n add : Int) (w : World) (h1 : 0 ≤ x) (h2 : x ≤ 4611686018427387904) (h3 : 0 ≤ add) (h4 : add ≤ 16384) (h7 : 0 ≤ add * n) (h8 : add * n ≤ 1073741824) :
    Calls Try.prog 6 #[.int .i64 x, .int .i64 n, .int .i64 add] w fun e w' => e = .returned (.tuple #[.int .i64 (x + add * n), .bool (decide (x + add * n ≤ 16777216))]) ∧ Below w.heap.size w w' := by
  go_enter Try.func6, Try.ntmps6
  go_wp2
  go_region
  all_goals go_wp2
  go_end0
  go_wp2
  go_ret2
  refine ⟨two_eq (wrapEq x n add h1 h2 h7 h8), ?_⟩
  repeat (first | exact Below.refl _ _ | (refine Below.setCell ?_ (by simp; omega) _) | apply Below.drew | (refine Below.alloc ?_ (by simp <;> omega) _))
end Go.Proofs.Qxb6614489a
