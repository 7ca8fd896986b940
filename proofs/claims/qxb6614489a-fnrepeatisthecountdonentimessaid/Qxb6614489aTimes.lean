/-
  FnRepeatIsTheCountDoneNTimes: the walk.
-/
import Derived.Test.Qxb6614489aCount
namespace Go.Proofs.Qxb6614489a
open Go.RowKit

set_option maxRecDepth 100000 in
set_option maxHeartbeats 1000000 in
theorem out3 (x add n : Int) (w : World) (h : (x < 0 ∨ 268435456 < x) ∨ (0 ≤ x ∧ x ≤ 268435456 ∧ (add < 0 ∨ 16384 < add)) ∨ (0 ≤ x ∧ x ≤ 268435456 ∧ 0 ≤ add ∧ add ≤ 16384 ∧ (n < 0 ∨ 65536 < n))) :
    Calls Try.prog 3 #[.int .i64 x, .int .i64 add, .int .i64 n] w fun e w' => e = .returned (.bool true) ∧ Below w.heap.size w w' := by
  rcases h with (h | h) | ⟨h1, h2, h | h⟩ | ⟨h1, h2, h3, h4, h | h⟩
  all_goals
    go_enter Try.func3, Try.ntmps3
    go_wp2
    go_ret
    exact ⟨rfl, Below.refl _ _⟩

theorem next_y {x add y : Int} {k : Nat} (h : y = x + add * k) : y + add = x + add * ((k + 1 : Nat) : Int) := by
  have e : add * ((k + 1 : Nat) : Int) = add * k + add := by rw [Int.natCast_add, Int.mul_add]; simp
  rw [e, h]; omega

set_option maxRecDepth 100000 in
set_option maxHeartbeats 1000000 in
theorem in3 (x add : Int) (n : Nat) (w : World) (h1 : 0 ≤ x) (h2 : x ≤ 268435456) (h3 : 0 ≤ add) (h4 : add ≤ 16384) (h6 : n ≤ 65536) :
    Calls Try.prog 3 #[.int .i64 x, .int .i64 add, .int .i64 n] w fun e w' => e = .returned (.bool true) ∧ Below w.heap.size w w' := by
  have a1 : 0 ≤ add * n := Int.mul_nonneg h3 (by omega)
  have a2 : add * n ≤ 1073741824 := by have := Int.mul_le_mul h4 (show (n : Int) ≤ 65536 by omega) (by omega) (by omega); omega
  have HK : Hid (∀ k : Nat, k ≤ n → 0 ≤ add * k ∧ add * k ≤ 1073741824) := fun k hk => ⟨Int.mul_nonneg h3 (by omega), by have := Int.mul_le_mul_of_nonneg_left (show (k : Int) ≤ n by omega) h3; omega⟩
  go_enter Try.func3, Try.ntmps3
  go_wp2_with fail
  refine (repeatCount x n add w (by omega) (by omega) h3 h4 a1 (by omega)).mono ?_
  rintro e w1 ⟨rfl, hb1⟩
  have HB1 : Hid (Below w.heap.size w w1) := hb1
  clear hb1
  go_wp2_with fail
  refine (within x w1).mono ?_
  rintro e w2 ⟨rfl, hw2⟩
  have HB2 : Hid (Below w.heap.size w w2) := by rw [hw2]; exact HB1.out.alloc HB1.out.size _
  clear hw2 HB1
  go_wp2_with fail
  go_loopw [9, 10, 11, 12] (fun c o t i wr => ∃ (k : Nat) (y : Int), k ≤ n ∧ y = x + add * k ∧ c = .int .i64 y ∧ o = .bool (decide (y ≤ 16777216)) ∧ t = .int .i64 y ∧ i = .int .i64 k ∧ Below w.heap.size w wr) (fun _ _ _ i _ => n - (intOf i).toNat)
  case atStart => exact ⟨0, x, Nat.zero_le _, by simp, rfl, rfl, rfl, rfl, HB2.out⟩
  case round =>
    obtain ⟨k, y, hk, hy, rfl, rfl, rfl, rfl, hb⟩ := hrel
    have HB : Hid (Below w.heap.size w wr) := hb
    have HY : Hid (y = x + add * k) := hy
    obtain ⟨k1, k2⟩ := HK.out k hk
    have hy0 : 0 ≤ y := by omega
    have hy1 : y ≤ 1342177280 := by omega
    clear hb hy k1 k2
    by_cases hlt : k < n
    · go_wp2_with fail
      refine (repeatCount y 1 add wr (by omega) (by omega) h3 h4 (by omega) (by omega)).mono ?_
      rintro e w3 ⟨rfl, hb3⟩
      have HB3 : Hid (Below w.heap.size w w3) := HB.out.trans (hb3.mono HB.out.size)
      have HE : Hid (y + add * 1 = y + add) := by show _ = _; omega
      rw [HE.out]
      clear hb3 HB
      go_wp2
      go_roundw
      case rel => exact ⟨k + 1, y + add, by omega, next_y HY.out, rfl, rfl, rfl, by go_num, HB3.out⟩
      case measure => simp [intOf]; omega
    · obtain rfl : k = n := by omega
      have HY' := HY.out
      subst HY'
      by_cases hW : x + add * k ≤ 16777216
      · go_wp2
        go_ret
        exact ⟨rfl, HB.out⟩
      · have hW' : decide (x + add * k ≤ 16777216) = false := decide_eq_false hW
        go_wp2
        go_ret
        exact ⟨rfl, HB.out⟩

theorem walk3 (x add n : Int) (w : World) : Calls Try.prog 3 #[.int .i64 x, .int .i64 add, .int .i64 n] w fun e w' => e = .returned (.bool true) ∧ Below w.heap.size w w' := by
  by_cases h : (x < 0 ∨ 268435456 < x) ∨ (0 ≤ x ∧ x ≤ 268435456 ∧ (add < 0 ∨ 16384 < add)) ∨ (0 ≤ x ∧ x ≤ 268435456 ∧ 0 ≤ add ∧ add ≤ 16384 ∧ (n < 0 ∨ 65536 < n))
  · exact out3 x add n w h
  · obtain ⟨k, rfl⟩ : ∃ k : Nat, n = k := ⟨n.toNat, by omega⟩
    exact in3 x add k w (by omega) (by omega) (by omega) (by omega) (by omega)
end Go.Proofs.Qxb6614489a
