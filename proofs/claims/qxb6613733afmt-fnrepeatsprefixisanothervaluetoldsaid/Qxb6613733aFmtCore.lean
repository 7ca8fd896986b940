/-
  FnRepeatsPrefixIsAnotherValue: at every input it returns true.
-/
import Derived.Test.Qxb6613733aFmtMap
import Derived.Test.Qxb6613733aFmtList
namespace Go.Proofs.Qxb6613733aFmt
open Go.RowKit Go.Extern.Stop Go.Stop Go.Extern

set_option maxRecDepth 100000 in
set_option maxHeartbeats 1000000 in
theorem out_n (n lo hi cost : Int) (m : Bool) (w : World) (h : n < 0 ∨ 65536 < n) :
    Calls Tryf.prog 3 #[.int .i64 n, .int .i64 lo, .int .i64 hi, .int .i64 cost, .bool m] w fun e w' => e = .returned (.bool true) ∧ Below w.heap.size w w' := by
  rcases h with h | h
  all_goals
    go_enter Tryf.func3, Tryf.ntmps3
    go_wp2
    go_ret
    exact ⟨rfl, Below.refl _ _⟩

set_option maxRecDepth 100000 in
set_option maxHeartbeats 1000000 in
theorem out_lo (n lo hi cost : Int) (m : Bool) (w : World) (h1 : 0 ≤ n) (h2 : n ≤ 65536) (h : lo < 0 ∨ (0 ≤ lo ∧ hi < lo) ∨ (0 ≤ lo ∧ lo ≤ hi ∧ n < hi)) :
    Calls Tryf.prog 3 #[.int .i64 n, .int .i64 lo, .int .i64 hi, .int .i64 cost, .bool m] w fun e w' => e = .returned (.bool true) ∧ Below w.heap.size w w' := by
  rcases h with h | ⟨h3, h⟩ | ⟨h3, h4, h⟩
  all_goals
    go_enter Tryf.func3, Tryf.ntmps3
    go_wp2
    go_ret
    exact ⟨rfl, Below.refl _ _⟩

set_option maxRecDepth 100000 in
set_option maxHeartbeats 1000000 in
theorem out_cost (n lo hi cost : Int) (m : Bool) (w : World) (h1 : 0 ≤ n) (h2 : n ≤ 65536) (h3 : 0 ≤ lo) (h4 : lo ≤ hi) (h5 : hi ≤ n) (h : cost < 0 ∨ 1152921504606846976 < cost) :
    Calls Tryf.prog 3 #[.int .i64 n, .int .i64 lo, .int .i64 hi, .int .i64 cost, .bool m] w fun e w' => e = .returned (.bool true) ∧ Below w.heap.size w w' := by
  rcases h with h | h
  all_goals
    go_enter Tryf.func3, Tryf.ntmps3
    go_wp2
    go_ret
    exact ⟨rfl, Below.refl _ _⟩

theorem map_in (k lo hi : Nat) (cost : Int) (w : World) (hk : k ≤ 65536) (hl : lo ≤ hi) (hh : hi ≤ k) (hc0 : 0 ≤ cost) (hc1 : cost ≤ 1152921504606846976) :
    Calls Tryf.prog 3 #[.int .i64 k, .int .i64 lo, .int .i64 hi, .int .i64 cost, .bool true] w fun e w' => e = .returned (.bool true) ∧ Below w.heap.size w w' := by
  by_cases k0 : k = 0
  · obtain rfl : hi = 0 := by omega
    obtain rfl : lo = 0 := by omega
    subst k0
    exact map_a0 cost w hc0 hc1
  by_cases hlh : lo = hi
  · subst hlh
    by_cases hlk : lo = k
    · subst hlk
      by_cases c1 : 65536 < cost
      · exact map_b1_0 lo cost w hk hc0 hc1 (by omega) c1
      · exact map_b1_1 lo cost w hk hc0 hc1 (by omega) (by omega)
    · by_cases l0 : lo = 0
      · subst l0
        by_cases c1 : 65536 < cost
        · exact map_b2_0 k cost w hk hc0 hc1 (by omega) c1
        · exact map_b2_1 k cost w hk hc0 hc1 (by omega) (by omega)
      · by_cases c1 : 65536 < cost
        · exact map_b3_0 k lo cost w hk hc0 hc1 (by omega) (by omega) c1
        · exact map_b3_1 k lo cost w hk hc0 hc1 (by omega) (by omega) (by omega)
  by_cases l0 : lo = 0
  · subst l0
    by_cases hhk : hi = k
    · subst hhk
      by_cases c1 : 65536 < cost
      · exact map_c_0 hi cost w hk hc0 hc1 (by omega) c1
      by_cases c2 : 65536 < cost + cost
      · exact map_c_1 hi cost w hk hc0 hc1 (by omega) (by omega) c2
      by_cases c3 : 65536 < cost + cost + cost
      · exact map_c_2 hi cost w hk hc0 hc1 (by omega) (by omega) c3
      · exact map_c_3 hi cost w hk hc0 hc1 (by omega) (by omega)
    · by_cases c1 : 65536 < cost
      · exact map_d2_0 k hi cost w hk hc0 hc1 (by omega) (by omega) c1
      by_cases c2 : 65536 < cost + cost
      · exact map_d2_1 k hi cost w hk hc0 hc1 (by omega) (by omega) (by omega) c2
      · exact map_d2_2 k hi cost w hk hc0 hc1 (by omega) (by omega) (by omega)
  · by_cases c1 : 65536 < cost
    · exact map_d1_0 k lo hi cost w hk hc0 hc1 (by omega) (by omega) (by omega) c1
    by_cases c2 : 65536 < cost + cost
    · exact map_d1_1 k lo hi cost w hk hc0 hc1 (by omega) (by omega) (by omega) (by omega) c2
    · exact map_d1_2 k lo hi cost w hk hc0 hc1 (by omega) (by omega) (by omega) (by omega)

theorem list_in (k lo hi : Nat) (cost : Int) (w : World) (hk : k ≤ 65536) (hl : lo ≤ hi) (hh : hi ≤ k) (hc0 : 0 ≤ cost) (hc1 : cost ≤ 1152921504606846976) :
    Calls Tryf.prog 3 #[.int .i64 k, .int .i64 lo, .int .i64 hi, .int .i64 cost, .bool false] w fun e w' => e = .returned (.bool true) ∧ Below w.heap.size w w' := by
  by_cases k0 : k = 0
  · obtain rfl : hi = 0 := by omega
    obtain rfl : lo = 0 := by omega
    subst k0
    exact list_a0 cost w hc0 hc1
  by_cases hlh : lo = hi
  · subst hlh
    by_cases hlk : lo = k
    · subst hlk
      by_cases c1 : 65536 < cost
      · exact list_b1_0 lo cost w hk hc0 hc1 (by omega) c1
      · exact list_b1_1 lo cost w hk hc0 hc1 (by omega) (by omega)
    · by_cases l0 : lo = 0
      · subst l0
        by_cases c1 : 65536 < cost
        · exact list_b2_0 k cost w hk hc0 hc1 (by omega) c1
        · exact list_b2_1 k cost w hk hc0 hc1 (by omega) (by omega)
      · by_cases c1 : 65536 < cost
        · exact list_b3_0 k lo cost w hk hc0 hc1 (by omega) (by omega) c1
        · exact list_b3_1 k lo cost w hk hc0 hc1 (by omega) (by omega) (by omega)
  by_cases l0 : lo = 0
  · subst l0
    by_cases hhk : hi = k
    · subst hhk
      by_cases c1 : 65536 < cost
      · exact list_c_0 hi cost w hk hc0 hc1 (by omega) c1
      by_cases c2 : 65536 < cost + cost
      · exact list_c_1 hi cost w hk hc0 hc1 (by omega) (by omega) c2
      by_cases c3 : 65536 < cost + cost + cost
      · exact list_c_2 hi cost w hk hc0 hc1 (by omega) (by omega) c3
      · exact list_c_3 hi cost w hk hc0 hc1 (by omega) (by omega)
    · by_cases c1 : 65536 < cost
      · exact list_d2_0 k hi cost w hk hc0 hc1 (by omega) (by omega) c1
      by_cases c2 : 65536 < cost + cost
      · exact list_d2_1 k hi cost w hk hc0 hc1 (by omega) (by omega) (by omega) c2
      · exact list_d2_2 k hi cost w hk hc0 hc1 (by omega) (by omega) (by omega)
  · by_cases c1 : 65536 < cost
    · exact list_d1_0 k lo hi cost w hk hc0 hc1 (by omega) (by omega) (by omega) c1
    by_cases c2 : 65536 < cost + cost
    · exact list_d1_1 k lo hi cost w hk hc0 hc1 (by omega) (by omega) (by omega) (by omega) c2
    · exact list_d1_2 k lo hi cost w hk hc0 hc1 (by omega) (by omega) (by omega) (by omega)

theorem core (n lo hi cost : Int) (m : Bool) (w : World) :
    Calls Tryf.prog 3 #[.int .i64 n, .int .i64 lo, .int .i64 hi, .int .i64 cost, .bool m] w fun e w' => e = .returned (.bool true) ∧ Below w.heap.size w w' := by
  by_cases h1 : n < 0 ∨ 65536 < n
  · exact out_n n lo hi cost m w h1
  by_cases h2 : lo < 0 ∨ (0 ≤ lo ∧ hi < lo) ∨ (0 ≤ lo ∧ lo ≤ hi ∧ n < hi)
  · exact out_lo n lo hi cost m w (by omega) (by omega) h2
  by_cases h3 : cost < 0 ∨ 1152921504606846976 < cost
  · exact out_cost n lo hi cost m w (by omega) (by omega) (by omega) (by omega) (by omega) h3
  obtain ⟨k, rfl⟩ : ∃ k : Nat, n = k := ⟨n.toNat, by omega⟩
  obtain ⟨l, rfl⟩ : ∃ k : Nat, lo = k := ⟨lo.toNat, by omega⟩
  obtain ⟨i, rfl⟩ : ∃ k : Nat, hi = k := ⟨hi.toNat, by omega⟩
  cases m
  · exact list_in k l i cost w (by omega) (by omega) (by omega) (by omega) (by omega)
  · exact map_in k l i cost w (by omega) (by omega) (by omega) (by omega) (by omega)
end Go.Proofs.Qxb6613733aFmt
