/-
  FnRepeatSplitsAtAnyCut: the walk.
-/
import Derived.Test.Qxb6614489aCount
namespace Go.Proofs.Qxb6614489a
open Go.RowKit

set_option maxRecDepth 100000 in
set_option maxHeartbeats 1000000 in
theorem out4 (x add n m : Int) (w : World) (h : (x < 0 ∨ 268435456 < x) ∨ (0 ≤ x ∧ x ≤ 268435456 ∧ (add < 0 ∨ 16384 < add)) ∨ (0 ≤ x ∧ x ≤ 268435456 ∧ 0 ≤ add ∧ add ≤ 16384 ∧ (n < 0 ∨ 32768 < n)) ∨ (0 ≤ x ∧ x ≤ 268435456 ∧ 0 ≤ add ∧ add ≤ 16384 ∧ 0 ≤ n ∧ n ≤ 32768 ∧ (m < 0 ∨ 32768 < m))) :
    Calls Try.prog 4 #[.int .i64 x, .int .i64 add, .int .i64 n, .int .i64 m] w fun e w' => e = .returned (.bool true) ∧ Below w.heap.size w w' := by
  rcases h with (h | h) | ⟨h1, h2, h | h⟩ | ⟨h1, h2, h3, h4, h | h⟩ | ⟨h1, h2, h3, h4, h5, h6, h | h⟩
  all_goals
    go_enter Try.func4, Try.ntmps4
    go_wp2
    go_ret
    exact ⟨rfl, Below.refl _ _⟩

set_option maxRecDepth 100000 in
set_option maxHeartbeats 1000000 in
theorem in4 (x add n m : Int) (w : World) (h1 : 0 ≤ x) (h2 : x ≤ 268435456) (h3 : 0 ≤ add) (h4 : add ≤ 16384) (h5 : 0 ≤ n) (h6 : n ≤ 32768) (h7 : 0 ≤ m) (h8 : m ≤ 32768) :
    Calls Try.prog 4 #[.int .i64 x, .int .i64 add, .int .i64 n, .int .i64 m] w fun e w' => e = .returned (.bool true) ∧ Below w.heap.size w w' := by
  have a1 : 0 ≤ add * n := Int.mul_nonneg h3 h5
  have a2 : add * n ≤ 536870912 := by have := Int.mul_le_mul h4 h6 h5 (by omega); omega
  have b1 : 0 ≤ add * m := Int.mul_nonneg h3 h7
  have b2 : add * m ≤ 536870912 := by have := Int.mul_le_mul h4 h8 h7 (by omega); omega
  have ed : add * (n + m) = add * n + add * m := Int.mul_add _ _ _
  have c1 : 0 ≤ add * (n + m) := by omega
  have c2 : add * (n + m) ≤ 1073741824 := by omega
  have HD : Hid (x + add * n + add * m = x + add * (n + m)) := by show _ = _; omega
  have HC : Hid (add * n ≤ add * (n + m)) := by show _ ≤ _; omega
  clear ed
  by_cases hW : x + add * (n + m) ≤ 16777216
  · have hM : x + add * n ≤ 16777216 := by have := HC.out; omega
    go_enter Try.func4, Try.ntmps4
    go_wp2_with fail
    refine (repeatCount x (n + m) add w (by omega) (by omega) h3 h4 c1 (by omega)).mono ?_
    rintro e w1 ⟨rfl, hb1⟩
    go_wp2_with fail
    refine (repeatCount x n add w1 (by omega) (by omega) h3 h4 a1 (by omega)).mono ?_
    rintro e w2 ⟨rfl, hb2⟩
    go_wp2_with fail
    refine (repeatCount _ m add w2 (by omega) (by omega) h3 h4 b1 (by omega)).mono ?_
    rintro e w3 ⟨rfl, hb3⟩
    rw [HD.out]
    have HB : Hid (Below w.heap.size w w3) := (hb1.trans (hb2.mono hb1.size)).trans (hb3.mono (Nat.le_trans hb1.size hb2.size))
    clear hb1 hb2 hb3
    go_wp2
    go_ret
    exact ⟨rfl, HB.out⟩
  · have hW' : decide (x + add * (n + m) ≤ 16777216) = false := decide_eq_false hW
    go_enter Try.func4, Try.ntmps4
    go_wp2_with fail
    refine (repeatCount x (n + m) add w (by omega) (by omega) h3 h4 c1 (by omega)).mono ?_
    rintro e w1 ⟨rfl, hb1⟩
    go_wp2_with fail
    refine (repeatCount x n add w1 (by omega) (by omega) h3 h4 a1 (by omega)).mono ?_
    rintro e w2 ⟨rfl, hb2⟩
    go_wp2_with fail
    refine (repeatCount _ m add w2 (by omega) (by omega) h3 h4 b1 (by omega)).mono ?_
    rintro e w3 ⟨rfl, hb3⟩
    rw [HD.out]
    have HB : Hid (Below w.heap.size w w3) := (hb1.trans (hb2.mono hb1.size)).trans (hb3.mono (Nat.le_trans hb1.size hb2.size))
    clear hb1 hb2 hb3
    go_wp2
    all_goals go_ret
    all_goals exact ⟨rfl, HB.out⟩

theorem walk4 (x add n m : Int) (w : World) : Calls Try.prog 4 #[.int .i64 x, .int .i64 add, .int .i64 n, .int .i64 m] w fun e w' => e = .returned (.bool true) ∧ Below w.heap.size w w' := by
  by_cases h : (x < 0 ∨ 268435456 < x) ∨ (0 ≤ x ∧ x ≤ 268435456 ∧ (add < 0 ∨ 16384 < add)) ∨ (0 ≤ x ∧ x ≤ 268435456 ∧ 0 ≤ add ∧ add ≤ 16384 ∧ (n < 0 ∨ 32768 < n)) ∨ (0 ≤ x ∧ x ≤ 268435456 ∧ 0 ≤ add ∧ add ≤ 16384 ∧ 0 ≤ n ∧ n ≤ 32768 ∧ (m < 0 ∨ 32768 < m))
  · exact out4 x add n m w h
  · exact in4 x add n m w (by omega) (by omega) (by omega) (by omega) (by omega) (by omega) (by omega) (by omega)
end Go.Proofs.Qxb6614489a
