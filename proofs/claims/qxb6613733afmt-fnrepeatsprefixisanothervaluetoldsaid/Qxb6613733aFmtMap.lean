/-
  FnRepeatsPrefixIsAnotherValue, mappings: one walk a way through (made by a script of the prover's).
-/
import Derived.Test.Qxb6613733aFmtStart
namespace Go.Proofs.Qxb6613733aFmt
open Go.RowKit Go.Extern.Stop Go.Stop Go.Extern

set_option maxRecDepth 100000 in
set_option maxHeartbeats 1000000 in
theorem map_a0 (cost : Int) (w : World) (hc0 : 0 ≤ cost) (hc1 : cost ≤ 1152921504606846976) :
    Calls Tryf.prog 3 #[.int .i64 0, .int .i64 0, .int .i64 0, .int .i64 cost, .bool true] w fun e w' => e = .returned (.bool true) ∧ Below w.heap.size w w' := by
  have hmk := make25 0 (by omega)
  simp only [Int.natCast_zero] at hmk
  go_enter Tryf.func3, Tryf.ntmps3
  go_wp2_with (go_at_call 4; refine (newRepeats _).mono ?_; rintro e w' ⟨rfl, rfl⟩)
  refine (enterMap_none _ w.heap.size _ _ _ _ _ _ _ _ (startM w 0) (by omega) (plainMw w 0 _) (by omega) (by omega) hc0 hc1 (by first | rfl | omega)).mono ?_
  rintro e w1 ⟨rfl, hst1, hk1⟩
  have HS1 : Hid _ := hst1
  have HK1 : Hid (Kept w.heap.size (w.heap.size + 1) (W0M w 0) w1) := hk1
  clear hst1 hk1
  go_wp2_with fail
  refine (enterMap_none _ w.heap.size _ _ _ _ _ _ _ _ HS1.out (by omega) (Plain.kept (plainMw w 0 _) HK1.out (by simp; omega) (by simp <;> omega)) (by omega) (by omega) hc0 hc1 (by first | rfl | omega)).mono ?_
  rintro e w2 ⟨rfl, hst2, hk2⟩
  have HS2 : Hid _ := hst2
  have HK2 : Hid (Kept w.heap.size (w.heap.size + 1) (W0M w 0) w2) := HK1.out.trans hk2
  clear hst2 hk2
  go_wp2_with fail
  refine (enterMap_none _ w.heap.size _ _ _ _ _ _ _ _ HS2.out (by omega) (Plain.kept (plainMw w 0 _) HK2.out (by simp; omega) (by simp <;> omega)) (by omega) (by omega) hc0 hc1 (by first | rfl | omega)).mono ?_
  rintro e w3 ⟨rfl, hst3, hk3⟩
  have HS3 : Hid _ := hst3
  have HK3 : Hid (Kept w.heap.size (w.heap.size + 1) (W0M w 0) w3) := HK2.out.trans hk3
  clear hst3 hk3
  go_wp2_with fail
  refine (enterMap_none _ w.heap.size _ _ _ _ _ _ _ _ HS3.out (by omega) (Plain.kept (plainMf w 0 _) HK3.out (by simp; omega) (by simp <;> omega)) (by omega) (by omega) hc0 hc1 (by first | rfl | omega)).mono ?_
  rintro e w4 ⟨rfl, hst4, hk4⟩
  have HS4 : Hid _ := hst4
  have HK4 : Hid (Kept w.heap.size (w.heap.size + 1) (W0M w 0) w4) := HK3.out.trans hk4
  clear hst4 hk4
  go_wp2_with fail
  refine (enterMap_none _ w.heap.size _ _ _ _ _ _ _ _ HS4.out (by omega) (Plain.kept (plainMw w 0 _) HK4.out (by simp; omega) (by simp <;> omega)) (by omega) (by omega) hc0 hc1 (by first | rfl | omega)).mono ?_
  rintro e w5 ⟨rfl, hst5, hk5⟩
  have HK5 : Hid (Kept w.heap.size (w.heap.size + 1) (W0M w 0) w5) := HK4.out.trans hk5
  clear hst5 hk5
  go_wp2
  go_ret
  exact ⟨by first | rfl | exact ret_bool (by simp; omega), (HK5.out).below (belowM w 0) (Nat.le_refl _) (Nat.le_succ _)⟩

set_option maxRecDepth 100000 in
set_option maxHeartbeats 1000000 in
theorem map_b1_0 (k : Nat) (cost : Int) (w : World) (hk : k ≤ 65536) (hc0 : 0 ≤ cost) (hc1 : cost ≤ 1152921504606846976) (h0 : 0 < k) (hc : 65536 < cost) :
    Calls Tryf.prog 3 #[.int .i64 k, .int .i64 k, .int .i64 k, .int .i64 cost, .bool true] w fun e w' => e = .returned (.bool true) ∧ Below w.heap.size w w' := by
  have hmk := make25 k hk
  go_enter Tryf.func3, Tryf.ntmps3
  go_wp2_with (go_at_call 4; refine (newRepeats _).mono ?_; rintro e w' ⟨rfl, rfl⟩)
  refine (enterMap_new _ w.heap.size _ _ _ _ _ _ _ _ (startM w k) (by omega) (plainMw w k _) (by omega) (by omega) hc0 hc1 (by omega) (by simp <;> omega)).mono ?_
  rintro e w1 ⟨rfl, hst1, hk1⟩
  have HS1 : Hid _ := hst1
  have HK1 : Hid (Kept w.heap.size (w.heap.size + 1) (W0M w k) w1) := hk1
  clear hst1 hk1
  go_wp2_with fail
  refine (enterMap_none _ w.heap.size _ _ _ _ _ _ _ _ HS1.out (by omega) (Plain.kept (plainMw w k _) HK1.out (by simp; omega) (by simp <;> omega)) (by omega) (by omega) hc0 hc1 (by first | rfl | omega)).mono ?_
  rintro e w2 ⟨rfl, hst2, hk2⟩
  have HS2 : Hid _ := hst2
  have HK2 : Hid (Kept w.heap.size (w.heap.size + 1) (W0M w k) w2) := HK1.out.trans hk2
  clear hst2 hk2
  go_wp2_with fail
  refine (enterMap_none _ w.heap.size _ _ _ _ _ _ _ _ HS2.out (by omega) (Plain.kept (plainMw w k _) HK2.out (by simp; omega) (by simp <;> omega)) (by omega) (by omega) hc0 hc1 (by first | rfl | omega)).mono ?_
  rintro e w3 ⟨rfl, hst3, hk3⟩
  have HS3 : Hid _ := hst3
  have HK3 : Hid (Kept w.heap.size (w.heap.size + 1) (W0M w k) w3) := HK2.out.trans hk3
  clear hst3 hk3
  go_wp2_with fail
  refine (enterMap_new _ w.heap.size _ _ _ _ _ _ _ _ HS3.out (by omega) (Plain.kept (plainMf w k _) HK3.out (by simp; omega) (by simp <;> omega)) (by omega) (by omega) hc0 hc1 (by omega) (by simp <;> omega)).mono ?_
  rintro e w4 ⟨rfl, hst4, hk4⟩
  have HS4 : Hid _ := hst4
  have HK4 : Hid (Kept w.heap.size (w.heap.size + 1) (W0M w k) w4) := HK3.out.trans hk4
  clear hst4 hk4
  go_wp2_with fail
  refine (enterMap_err _ w.heap.size _ _ _ _ _ _ _ _ HS4.out (by omega) (Plain.kept (plainMw w k _) HK4.out (by simp; omega) (by simp <;> omega)) (by omega) (by omega) hc0 hc1 (by omega) (by simp) (by omega)).mono ?_
  rintro e w5 ⟨p5, rfl, hst5, hk5⟩
  have HK5 : Hid (Kept w.heap.size (w.heap.size + 1) (W0M w k) w5) := HK4.out.trans hk5
  clear hst5 hk5
  go_wp2
  go_ret
  exact ⟨by first | rfl | exact ret_bool (by simp; omega), (HK5.out).below (belowM w k) (Nat.le_refl _) (Nat.le_succ _)⟩

set_option maxRecDepth 100000 in
set_option maxHeartbeats 1000000 in
theorem map_b2_0 (k : Nat) (cost : Int) (w : World) (hk : k ≤ 65536) (hc0 : 0 ≤ cost) (hc1 : cost ≤ 1152921504606846976) (h0 : 0 < k) (hc : 65536 < cost) :
    Calls Tryf.prog 3 #[.int .i64 k, .int .i64 0, .int .i64 0, .int .i64 cost, .bool true] w fun e w' => e = .returned (.bool true) ∧ Below w.heap.size w w' := by
  have hmk := make25 k hk
  go_enter Tryf.func3, Tryf.ntmps3
  go_wp2_with (go_at_call 4; refine (newRepeats _).mono ?_; rintro e w' ⟨rfl, rfl⟩)
  refine (enterMap_new _ w.heap.size _ _ _ _ _ _ _ _ (startM w k) (by omega) (plainMw w k _) (by omega) (by omega) hc0 hc1 (by omega) (by simp <;> omega)).mono ?_
  rintro e w1 ⟨rfl, hst1, hk1⟩
  have HS1 : Hid _ := hst1
  have HK1 : Hid (Kept w.heap.size (w.heap.size + 1) (W0M w k) w1) := hk1
  clear hst1 hk1
  go_wp2_with fail
  refine (enterMap_none _ w.heap.size _ _ _ _ _ _ _ _ HS1.out (by omega) (Plain.kept (plainMw w k _) HK1.out (by simp; omega) (by simp <;> omega)) (by omega) (by omega) hc0 hc1 (by first | rfl | omega)).mono ?_
  rintro e w2 ⟨rfl, hst2, hk2⟩
  have HS2 : Hid _ := hst2
  have HK2 : Hid (Kept w.heap.size (w.heap.size + 1) (W0M w k) w2) := HK1.out.trans hk2
  clear hst2 hk2
  go_wp2_with fail
  refine (enterMap_none _ w.heap.size _ _ _ _ _ _ _ _ HS2.out (by omega) (Plain.kept (plainMw w k _) HK2.out (by simp; omega) (by simp <;> omega)) (by omega) (by omega) hc0 hc1 (by first | rfl | omega)).mono ?_
  rintro e w3 ⟨rfl, hst3, hk3⟩
  have HS3 : Hid _ := hst3
  have HK3 : Hid (Kept w.heap.size (w.heap.size + 1) (W0M w k) w3) := HK2.out.trans hk3
  clear hst3 hk3
  go_wp2_with fail
  refine (enterMap_new _ w.heap.size _ _ _ _ _ _ _ _ HS3.out (by omega) (Plain.kept (plainMf w k _) HK3.out (by simp; omega) (by simp <;> omega)) (by omega) (by omega) hc0 hc1 (by omega) (by simp <;> omega)).mono ?_
  rintro e w4 ⟨rfl, hst4, hk4⟩
  have HS4 : Hid _ := hst4
  have HK4 : Hid (Kept w.heap.size (w.heap.size + 1) (W0M w k) w4) := HK3.out.trans hk4
  clear hst4 hk4
  go_wp2_with fail
  refine (enterMap_err _ w.heap.size _ _ _ _ _ _ _ _ HS4.out (by omega) (Plain.kept (plainMw w k _) HK4.out (by simp; omega) (by simp <;> omega)) (by omega) (by omega) hc0 hc1 (by omega) (by simp) (by omega)).mono ?_
  rintro e w5 ⟨p5, rfl, hst5, hk5⟩
  have HK5 : Hid (Kept w.heap.size (w.heap.size + 1) (W0M w k) w5) := HK4.out.trans hk5
  clear hst5 hk5
  go_wp2
  go_ret
  exact ⟨by first | rfl | exact ret_bool (by simp; omega), (HK5.out).below (belowM w k) (Nat.le_refl _) (Nat.le_succ _)⟩

set_option maxRecDepth 100000 in
set_option maxHeartbeats 1000000 in
theorem map_b3_0 (k lo : Nat) (cost : Int) (w : World) (hk : k ≤ 65536) (hc0 : 0 ≤ cost) (hc1 : cost ≤ 1152921504606846976) (h0 : 0 < lo) (h1 : lo < k) (hc : 65536 < cost) :
    Calls Tryf.prog 3 #[.int .i64 k, .int .i64 lo, .int .i64 lo, .int .i64 cost, .bool true] w fun e w' => e = .returned (.bool true) ∧ Below w.heap.size w w' := by
  have hmk := make25 k hk
  go_enter Tryf.func3, Tryf.ntmps3
  go_wp2_with (go_at_call 4; refine (newRepeats _).mono ?_; rintro e w' ⟨rfl, rfl⟩)
  refine (enterMap_new _ w.heap.size _ _ _ _ _ _ _ _ (startM w k) (by omega) (plainMw w k _) (by omega) (by omega) hc0 hc1 (by omega) (by simp <;> omega)).mono ?_
  rintro e w1 ⟨rfl, hst1, hk1⟩
  have HS1 : Hid _ := hst1
  have HK1 : Hid (Kept w.heap.size (w.heap.size + 1) (W0M w k) w1) := hk1
  clear hst1 hk1
  go_wp2_with fail
  refine (enterMap_none _ w.heap.size _ _ _ _ _ _ _ _ HS1.out (by omega) (Plain.kept (plainMw w k _) HK1.out (by simp; omega) (by simp <;> omega)) (by omega) (by omega) hc0 hc1 (by first | rfl | omega)).mono ?_
  rintro e w2 ⟨rfl, hst2, hk2⟩
  have HS2 : Hid _ := hst2
  have HK2 : Hid (Kept w.heap.size (w.heap.size + 1) (W0M w k) w2) := HK1.out.trans hk2
  clear hst2 hk2
  go_wp2_with fail
  refine (enterMap_none _ w.heap.size _ _ _ _ _ _ _ _ HS2.out (by omega) (Plain.kept (plainMw w k _) HK2.out (by simp; omega) (by simp <;> omega)) (by omega) (by omega) hc0 hc1 (by first | rfl | omega)).mono ?_
  rintro e w3 ⟨rfl, hst3, hk3⟩
  have HS3 : Hid _ := hst3
  have HK3 : Hid (Kept w.heap.size (w.heap.size + 1) (W0M w k) w3) := HK2.out.trans hk3
  clear hst3 hk3
  go_wp2_with fail
  refine (enterMap_new _ w.heap.size _ _ _ _ _ _ _ _ HS3.out (by omega) (Plain.kept (plainMf w k _) HK3.out (by simp; omega) (by simp <;> omega)) (by omega) (by omega) hc0 hc1 (by omega) (by simp <;> omega)).mono ?_
  rintro e w4 ⟨rfl, hst4, hk4⟩
  have HS4 : Hid _ := hst4
  have HK4 : Hid (Kept w.heap.size (w.heap.size + 1) (W0M w k) w4) := HK3.out.trans hk4
  clear hst4 hk4
  go_wp2_with fail
  refine (enterMap_err _ w.heap.size _ _ _ _ _ _ _ _ HS4.out (by omega) (Plain.kept (plainMw w k _) HK4.out (by simp; omega) (by simp <;> omega)) (by omega) (by omega) hc0 hc1 (by omega) (by simp) (by omega)).mono ?_
  rintro e w5 ⟨p5, rfl, hst5, hk5⟩
  have HK5 : Hid (Kept w.heap.size (w.heap.size + 1) (W0M w k) w5) := HK4.out.trans hk5
  clear hst5 hk5
  go_wp2
  go_ret
  exact ⟨by first | rfl | exact ret_bool (by simp; omega), (HK5.out).below (belowM w k) (Nat.le_refl _) (Nat.le_succ _)⟩

set_option maxRecDepth 100000 in
set_option maxHeartbeats 1000000 in
theorem map_b1_1 (k : Nat) (cost : Int) (w : World) (hk : k ≤ 65536) (hc0 : 0 ≤ cost) (hc1 : cost ≤ 1152921504606846976) (h0 : 0 < k) (hc : cost ≤ 65536) :
    Calls Tryf.prog 3 #[.int .i64 k, .int .i64 k, .int .i64 k, .int .i64 cost, .bool true] w fun e w' => e = .returned (.bool true) ∧ Below w.heap.size w w' := by
  have hmk := make25 k hk
  go_enter Tryf.func3, Tryf.ntmps3
  go_wp2_with (go_at_call 4; refine (newRepeats _).mono ?_; rintro e w' ⟨rfl, rfl⟩)
  refine (enterMap_new _ w.heap.size _ _ _ _ _ _ _ _ (startM w k) (by omega) (plainMw w k _) (by omega) (by omega) hc0 hc1 (by omega) (by simp <;> omega)).mono ?_
  rintro e w1 ⟨rfl, hst1, hk1⟩
  have HS1 : Hid _ := hst1
  have HK1 : Hid (Kept w.heap.size (w.heap.size + 1) (W0M w k) w1) := hk1
  clear hst1 hk1
  go_wp2_with fail
  refine (enterMap_none _ w.heap.size _ _ _ _ _ _ _ _ HS1.out (by omega) (Plain.kept (plainMw w k _) HK1.out (by simp; omega) (by simp <;> omega)) (by omega) (by omega) hc0 hc1 (by first | rfl | omega)).mono ?_
  rintro e w2 ⟨rfl, hst2, hk2⟩
  have HS2 : Hid _ := hst2
  have HK2 : Hid (Kept w.heap.size (w.heap.size + 1) (W0M w k) w2) := HK1.out.trans hk2
  clear hst2 hk2
  go_wp2_with fail
  refine (enterMap_none _ w.heap.size _ _ _ _ _ _ _ _ HS2.out (by omega) (Plain.kept (plainMw w k _) HK2.out (by simp; omega) (by simp <;> omega)) (by omega) (by omega) hc0 hc1 (by first | rfl | omega)).mono ?_
  rintro e w3 ⟨rfl, hst3, hk3⟩
  have HS3 : Hid _ := hst3
  have HK3 : Hid (Kept w.heap.size (w.heap.size + 1) (W0M w k) w3) := HK2.out.trans hk3
  clear hst3 hk3
  go_wp2_with fail
  refine (enterMap_new _ w.heap.size _ _ _ _ _ _ _ _ HS3.out (by omega) (Plain.kept (plainMf w k _) HK3.out (by simp; omega) (by simp <;> omega)) (by omega) (by omega) hc0 hc1 (by omega) (by simp <;> omega)).mono ?_
  rintro e w4 ⟨rfl, hst4, hk4⟩
  have HS4 : Hid _ := hst4
  have HK4 : Hid (Kept w.heap.size (w.heap.size + 1) (W0M w k) w4) := HK3.out.trans hk4
  clear hst4 hk4
  go_wp2_with fail
  refine (enterMap_ok _ w.heap.size _ _ _ _ _ _ _ _ HS4.out (by omega) (Plain.kept (plainMw w k _) HK4.out (by simp; omega) (by simp <;> omega)) (by omega) (by omega) hc0 hc1 (by omega) (by simp) (by omega)).mono ?_
  rintro e w5 ⟨rfl, hst5, hk5⟩
  have HK5 : Hid (Kept w.heap.size (w.heap.size + 1) (W0M w k) w5) := HK4.out.trans hk5
  clear hst5 hk5
  go_wp2
  go_ret
  exact ⟨by first | rfl | exact ret_bool (by simp; omega), (HK5.out).below (belowM w k) (Nat.le_refl _) (Nat.le_succ _)⟩

set_option maxRecDepth 100000 in
set_option maxHeartbeats 1000000 in
theorem map_b2_1 (k : Nat) (cost : Int) (w : World) (hk : k ≤ 65536) (hc0 : 0 ≤ cost) (hc1 : cost ≤ 1152921504606846976) (h0 : 0 < k) (hc : cost ≤ 65536) :
    Calls Tryf.prog 3 #[.int .i64 k, .int .i64 0, .int .i64 0, .int .i64 cost, .bool true] w fun e w' => e = .returned (.bool true) ∧ Below w.heap.size w w' := by
  have hmk := make25 k hk
  go_enter Tryf.func3, Tryf.ntmps3
  go_wp2_with (go_at_call 4; refine (newRepeats _).mono ?_; rintro e w' ⟨rfl, rfl⟩)
  refine (enterMap_new _ w.heap.size _ _ _ _ _ _ _ _ (startM w k) (by omega) (plainMw w k _) (by omega) (by omega) hc0 hc1 (by omega) (by simp <;> omega)).mono ?_
  rintro e w1 ⟨rfl, hst1, hk1⟩
  have HS1 : Hid _ := hst1
  have HK1 : Hid (Kept w.heap.size (w.heap.size + 1) (W0M w k) w1) := hk1
  clear hst1 hk1
  go_wp2_with fail
  refine (enterMap_none _ w.heap.size _ _ _ _ _ _ _ _ HS1.out (by omega) (Plain.kept (plainMw w k _) HK1.out (by simp; omega) (by simp <;> omega)) (by omega) (by omega) hc0 hc1 (by first | rfl | omega)).mono ?_
  rintro e w2 ⟨rfl, hst2, hk2⟩
  have HS2 : Hid _ := hst2
  have HK2 : Hid (Kept w.heap.size (w.heap.size + 1) (W0M w k) w2) := HK1.out.trans hk2
  clear hst2 hk2
  go_wp2_with fail
  refine (enterMap_none _ w.heap.size _ _ _ _ _ _ _ _ HS2.out (by omega) (Plain.kept (plainMw w k _) HK2.out (by simp; omega) (by simp <;> omega)) (by omega) (by omega) hc0 hc1 (by first | rfl | omega)).mono ?_
  rintro e w3 ⟨rfl, hst3, hk3⟩
  have HS3 : Hid _ := hst3
  have HK3 : Hid (Kept w.heap.size (w.heap.size + 1) (W0M w k) w3) := HK2.out.trans hk3
  clear hst3 hk3
  go_wp2_with fail
  refine (enterMap_new _ w.heap.size _ _ _ _ _ _ _ _ HS3.out (by omega) (Plain.kept (plainMf w k _) HK3.out (by simp; omega) (by simp <;> omega)) (by omega) (by omega) hc0 hc1 (by omega) (by simp <;> omega)).mono ?_
  rintro e w4 ⟨rfl, hst4, hk4⟩
  have HS4 : Hid _ := hst4
  have HK4 : Hid (Kept w.heap.size (w.heap.size + 1) (W0M w k) w4) := HK3.out.trans hk4
  clear hst4 hk4
  go_wp2_with fail
  refine (enterMap_ok _ w.heap.size _ _ _ _ _ _ _ _ HS4.out (by omega) (Plain.kept (plainMw w k _) HK4.out (by simp; omega) (by simp <;> omega)) (by omega) (by omega) hc0 hc1 (by omega) (by simp) (by omega)).mono ?_
  rintro e w5 ⟨rfl, hst5, hk5⟩
  have HK5 : Hid (Kept w.heap.size (w.heap.size + 1) (W0M w k) w5) := HK4.out.trans hk5
  clear hst5 hk5
  go_wp2
  go_ret
  exact ⟨by first | rfl | exact ret_bool (by simp; omega), (HK5.out).below (belowM w k) (Nat.le_refl _) (Nat.le_succ _)⟩

set_option maxRecDepth 100000 in
set_option maxHeartbeats 1000000 in
theorem map_b3_1 (k lo : Nat) (cost : Int) (w : World) (hk : k ≤ 65536) (hc0 : 0 ≤ cost) (hc1 : cost ≤ 1152921504606846976) (h0 : 0 < lo) (h1 : lo < k) (hc : cost ≤ 65536) :
    Calls Tryf.prog 3 #[.int .i64 k, .int .i64 lo, .int .i64 lo, .int .i64 cost, .bool true] w fun e w' => e = .returned (.bool true) ∧ Below w.heap.size w w' := by
  have hmk := make25 k hk
  go_enter Tryf.func3, Tryf.ntmps3
  go_wp2_with (go_at_call 4; refine (newRepeats _).mono ?_; rintro e w' ⟨rfl, rfl⟩)
  refine (enterMap_new _ w.heap.size _ _ _ _ _ _ _ _ (startM w k) (by omega) (plainMw w k _) (by omega) (by omega) hc0 hc1 (by omega) (by simp <;> omega)).mono ?_
  rintro e w1 ⟨rfl, hst1, hk1⟩
  have HS1 : Hid _ := hst1
  have HK1 : Hid (Kept w.heap.size (w.heap.size + 1) (W0M w k) w1) := hk1
  clear hst1 hk1
  go_wp2_with fail
  refine (enterMap_none _ w.heap.size _ _ _ _ _ _ _ _ HS1.out (by omega) (Plain.kept (plainMw w k _) HK1.out (by simp; omega) (by simp <;> omega)) (by omega) (by omega) hc0 hc1 (by first | rfl | omega)).mono ?_
  rintro e w2 ⟨rfl, hst2, hk2⟩
  have HS2 : Hid _ := hst2
  have HK2 : Hid (Kept w.heap.size (w.heap.size + 1) (W0M w k) w2) := HK1.out.trans hk2
  clear hst2 hk2
  go_wp2_with fail
  refine (enterMap_none _ w.heap.size _ _ _ _ _ _ _ _ HS2.out (by omega) (Plain.kept (plainMw w k _) HK2.out (by simp; omega) (by simp <;> omega)) (by omega) (by omega) hc0 hc1 (by first | rfl | omega)).mono ?_
  rintro e w3 ⟨rfl, hst3, hk3⟩
  have HS3 : Hid _ := hst3
  have HK3 : Hid (Kept w.heap.size (w.heap.size + 1) (W0M w k) w3) := HK2.out.trans hk3
  clear hst3 hk3
  go_wp2_with fail
  refine (enterMap_new _ w.heap.size _ _ _ _ _ _ _ _ HS3.out (by omega) (Plain.kept (plainMf w k _) HK3.out (by simp; omega) (by simp <;> omega)) (by omega) (by omega) hc0 hc1 (by omega) (by simp <;> omega)).mono ?_
  rintro e w4 ⟨rfl, hst4, hk4⟩
  have HS4 : Hid _ := hst4
  have HK4 : Hid (Kept w.heap.size (w.heap.size + 1) (W0M w k) w4) := HK3.out.trans hk4
  clear hst4 hk4
  go_wp2_with fail
  refine (enterMap_ok _ w.heap.size _ _ _ _ _ _ _ _ HS4.out (by omega) (Plain.kept (plainMw w k _) HK4.out (by simp; omega) (by simp <;> omega)) (by omega) (by omega) hc0 hc1 (by omega) (by simp) (by omega)).mono ?_
  rintro e w5 ⟨rfl, hst5, hk5⟩
  have HK5 : Hid (Kept w.heap.size (w.heap.size + 1) (W0M w k) w5) := HK4.out.trans hk5
  clear hst5 hk5
  go_wp2
  go_ret
  exact ⟨by first | rfl | exact ret_bool (by simp; omega), (HK5.out).below (belowM w k) (Nat.le_refl _) (Nat.le_succ _)⟩

set_option maxRecDepth 100000 in
set_option maxHeartbeats 1000000 in
theorem map_c_0 (k : Nat) (cost : Int) (w : World) (hk : k ≤ 65536) (hc0 : 0 ≤ cost) (hc1 : cost ≤ 1152921504606846976) (h0 : 0 < k) (hc : 65536 < cost) :
    Calls Tryf.prog 3 #[.int .i64 k, .int .i64 0, .int .i64 k, .int .i64 cost, .bool true] w fun e w' => e = .returned (.bool true) ∧ Below w.heap.size w w' := by
  have hmk := make25 k hk
  go_enter Tryf.func3, Tryf.ntmps3
  go_wp2_with (go_at_call 4; refine (newRepeats _).mono ?_; rintro e w' ⟨rfl, rfl⟩)
  refine (enterMap_new _ w.heap.size _ _ _ _ _ _ _ _ (startM w k) (by omega) (plainMw w k _) (by omega) (by omega) hc0 hc1 (by omega) (by simp <;> omega)).mono ?_
  rintro e w1 ⟨rfl, hst1, hk1⟩
  have HS1 : Hid _ := hst1
  have HK1 : Hid (Kept w.heap.size (w.heap.size + 1) (W0M w k) w1) := hk1
  clear hst1 hk1
  go_wp2_with fail
  refine (enterMap_err _ w.heap.size _ _ _ _ _ _ _ _ HS1.out (by omega) (Plain.kept (plainMw w k _) HK1.out (by simp; omega) (by simp <;> omega)) (by omega) (by omega) hc0 hc1 (by omega) (by simp) (by omega)).mono ?_
  rintro e w2 ⟨p2, rfl, hst2, hk2⟩
  have HS2 : Hid _ := hst2
  have HK2 : Hid (Kept w.heap.size (w.heap.size + 1) (W0M w k) w2) := HK1.out.trans hk2
  clear hst2 hk2
  go_wp2_with fail
  refine (enterMap_err _ w.heap.size _ _ _ _ _ _ _ _ HS2.out (by omega) (Plain.kept (plainMw w k _) HK2.out (by simp; omega) (by simp <;> omega)) (by omega) (by omega) hc0 hc1 (by omega) (by simp) (by omega)).mono ?_
  rintro e w3 ⟨p3, rfl, hst3, hk3⟩
  have HS3 : Hid _ := hst3
  have HK3 : Hid (Kept w.heap.size (w.heap.size + 1) (W0M w k) w3) := HK2.out.trans hk3
  clear hst3 hk3
  go_wp2_with fail
  refine (enterMap_new _ w.heap.size _ _ _ _ _ _ _ _ HS3.out (by omega) (Plain.kept (plainMf w k _) HK3.out (by simp; omega) (by simp <;> omega)) (by omega) (by omega) hc0 hc1 (by omega) (by simp <;> omega)).mono ?_
  rintro e w4 ⟨rfl, hst4, hk4⟩
  have HS4 : Hid _ := hst4
  have HK4 : Hid (Kept w.heap.size (w.heap.size + 1) (W0M w k) w4) := HK3.out.trans hk4
  clear hst4 hk4
  go_wp2_with fail
  refine (enterMap_err _ w.heap.size _ _ _ _ _ _ _ _ HS4.out (by omega) (Plain.kept (plainMw w k _) HK4.out (by simp; omega) (by simp <;> omega)) (by omega) (by omega) hc0 hc1 (by omega) (by simp) (by omega)).mono ?_
  rintro e w5 ⟨p5, rfl, hst5, hk5⟩
  have HK5 : Hid (Kept w.heap.size (w.heap.size + 1) (W0M w k) w5) := HK4.out.trans hk5
  clear hst5 hk5
  go_wp2
  go_ret
  exact ⟨by first | rfl | exact ret_bool (by simp; omega), (HK5.out).below (belowM w k) (Nat.le_refl _) (Nat.le_succ _)⟩

set_option maxRecDepth 100000 in
set_option maxHeartbeats 1000000 in
theorem map_c_1 (k : Nat) (cost : Int) (w : World) (hk : k ≤ 65536) (hc0 : 0 ≤ cost) (hc1 : cost ≤ 1152921504606846976) (h0 : 0 < k) (hc : cost ≤ 65536) (hd : 65536 < cost + cost) :
    Calls Tryf.prog 3 #[.int .i64 k, .int .i64 0, .int .i64 k, .int .i64 cost, .bool true] w fun e w' => e = .returned (.bool true) ∧ Below w.heap.size w w' := by
  have hmk := make25 k hk
  go_enter Tryf.func3, Tryf.ntmps3
  go_wp2_with (go_at_call 4; refine (newRepeats _).mono ?_; rintro e w' ⟨rfl, rfl⟩)
  refine (enterMap_new _ w.heap.size _ _ _ _ _ _ _ _ (startM w k) (by omega) (plainMw w k _) (by omega) (by omega) hc0 hc1 (by omega) (by simp <;> omega)).mono ?_
  rintro e w1 ⟨rfl, hst1, hk1⟩
  have HS1 : Hid _ := hst1
  have HK1 : Hid (Kept w.heap.size (w.heap.size + 1) (W0M w k) w1) := hk1
  clear hst1 hk1
  go_wp2_with fail
  refine (enterMap_ok _ w.heap.size _ _ _ _ _ _ _ _ HS1.out (by omega) (Plain.kept (plainMw w k _) HK1.out (by simp; omega) (by simp <;> omega)) (by omega) (by omega) hc0 hc1 (by omega) (by simp) (by omega)).mono ?_
  rintro e w2 ⟨rfl, hst2, hk2⟩
  have HS2 : Hid _ := hst2
  have HK2 : Hid (Kept w.heap.size (w.heap.size + 1) (W0M w k) w2) := HK1.out.trans hk2
  clear hst2 hk2
  go_wp2_with fail
  refine (enterMap_err _ w.heap.size _ _ _ _ _ _ _ _ HS2.out (by omega) (Plain.kept (plainMw w k _) HK2.out (by simp; omega) (by simp <;> omega)) (by omega) (by omega) hc0 hc1 (by omega) (by simp) (by omega)).mono ?_
  rintro e w3 ⟨p3, rfl, hst3, hk3⟩
  have HS3 : Hid _ := hst3
  have HK3 : Hid (Kept w.heap.size (w.heap.size + 1) (W0M w k) w3) := HK2.out.trans hk3
  clear hst3 hk3
  go_wp2_with fail
  refine (enterMap_new _ w.heap.size _ _ _ _ _ _ _ _ HS3.out (by omega) (Plain.kept (plainMf w k _) HK3.out (by simp; omega) (by simp <;> omega)) (by omega) (by omega) hc0 hc1 (by omega) (by simp <;> omega)).mono ?_
  rintro e w4 ⟨rfl, hst4, hk4⟩
  have HS4 : Hid _ := hst4
  have HK4 : Hid (Kept w.heap.size (w.heap.size + 1) (W0M w k) w4) := HK3.out.trans hk4
  clear hst4 hk4
  go_wp2_with fail
  refine (enterMap_err _ w.heap.size _ _ _ _ _ _ _ _ HS4.out (by omega) (Plain.kept (plainMw w k _) HK4.out (by simp; omega) (by simp <;> omega)) (by omega) (by omega) hc0 hc1 (by omega) (by simp) (by omega)).mono ?_
  rintro e w5 ⟨p5, rfl, hst5, hk5⟩
  have HK5 : Hid (Kept w.heap.size (w.heap.size + 1) (W0M w k) w5) := HK4.out.trans hk5
  clear hst5 hk5
  go_wp2
  go_ret
  exact ⟨by first | rfl | exact ret_bool (by simp; omega), (HK5.out).below (belowM w k) (Nat.le_refl _) (Nat.le_succ _)⟩

set_option maxRecDepth 100000 in
set_option maxHeartbeats 1000000 in
theorem map_c_2 (k : Nat) (cost : Int) (w : World) (hk : k ≤ 65536) (hc0 : 0 ≤ cost) (hc1 : cost ≤ 1152921504606846976) (h0 : 0 < k) (hd : cost + cost ≤ 65536) (he : 65536 < cost + cost + cost) :
    Calls Tryf.prog 3 #[.int .i64 k, .int .i64 0, .int .i64 k, .int .i64 cost, .bool true] w fun e w' => e = .returned (.bool true) ∧ Below w.heap.size w w' := by
  have hmk := make25 k hk
  go_enter Tryf.func3, Tryf.ntmps3
  go_wp2_with (go_at_call 4; refine (newRepeats _).mono ?_; rintro e w' ⟨rfl, rfl⟩)
  refine (enterMap_new _ w.heap.size _ _ _ _ _ _ _ _ (startM w k) (by omega) (plainMw w k _) (by omega) (by omega) hc0 hc1 (by omega) (by simp <;> omega)).mono ?_
  rintro e w1 ⟨rfl, hst1, hk1⟩
  have HS1 : Hid _ := hst1
  have HK1 : Hid (Kept w.heap.size (w.heap.size + 1) (W0M w k) w1) := hk1
  clear hst1 hk1
  go_wp2_with fail
  refine (enterMap_ok _ w.heap.size _ _ _ _ _ _ _ _ HS1.out (by omega) (Plain.kept (plainMw w k _) HK1.out (by simp; omega) (by simp <;> omega)) (by omega) (by omega) hc0 hc1 (by omega) (by simp) (by omega)).mono ?_
  rintro e w2 ⟨rfl, hst2, hk2⟩
  have HS2 : Hid _ := hst2
  have HK2 : Hid (Kept w.heap.size (w.heap.size + 1) (W0M w k) w2) := HK1.out.trans hk2
  clear hst2 hk2
  go_wp2_with fail
  refine (enterMap_ok _ w.heap.size _ _ _ _ _ _ _ _ HS2.out (by omega) (Plain.kept (plainMw w k _) HK2.out (by simp; omega) (by simp <;> omega)) (by omega) (by omega) hc0 hc1 (by omega) (by simp) (by omega)).mono ?_
  rintro e w3 ⟨rfl, hst3, hk3⟩
  have HS3 : Hid _ := hst3
  have HK3 : Hid (Kept w.heap.size (w.heap.size + 1) (W0M w k) w3) := HK2.out.trans hk3
  clear hst3 hk3
  go_wp2_with fail
  refine (enterMap_new _ w.heap.size _ _ _ _ _ _ _ _ HS3.out (by omega) (Plain.kept (plainMf w k _) HK3.out (by simp; omega) (by simp <;> omega)) (by omega) (by omega) hc0 hc1 (by omega) (by simp <;> omega)).mono ?_
  rintro e w4 ⟨rfl, hst4, hk4⟩
  have HS4 : Hid _ := hst4
  have HK4 : Hid (Kept w.heap.size (w.heap.size + 1) (W0M w k) w4) := HK3.out.trans hk4
  clear hst4 hk4
  go_wp2_with fail
  refine (enterMap_err _ w.heap.size _ _ _ _ _ _ _ _ HS4.out (by omega) (Plain.kept (plainMw w k _) HK4.out (by simp; omega) (by simp <;> omega)) (by omega) (by omega) hc0 hc1 (by omega) (by simp) (by omega)).mono ?_
  rintro e w5 ⟨p5, rfl, hst5, hk5⟩
  have HK5 : Hid (Kept w.heap.size (w.heap.size + 1) (W0M w k) w5) := HK4.out.trans hk5
  clear hst5 hk5
  go_wp2
  go_ret
  exact ⟨by first | rfl | exact ret_bool (by simp; omega), (HK5.out).below (belowM w k) (Nat.le_refl _) (Nat.le_succ _)⟩

set_option maxRecDepth 100000 in
set_option maxHeartbeats 1000000 in
theorem map_c_3 (k : Nat) (cost : Int) (w : World) (hk : k ≤ 65536) (hc0 : 0 ≤ cost) (hc1 : cost ≤ 1152921504606846976) (h0 : 0 < k) (he : cost + cost + cost ≤ 65536) :
    Calls Tryf.prog 3 #[.int .i64 k, .int .i64 0, .int .i64 k, .int .i64 cost, .bool true] w fun e w' => e = .returned (.bool true) ∧ Below w.heap.size w w' := by
  have hmk := make25 k hk
  go_enter Tryf.func3, Tryf.ntmps3
  go_wp2_with (go_at_call 4; refine (newRepeats _).mono ?_; rintro e w' ⟨rfl, rfl⟩)
  refine (enterMap_new _ w.heap.size _ _ _ _ _ _ _ _ (startM w k) (by omega) (plainMw w k _) (by omega) (by omega) hc0 hc1 (by omega) (by simp <;> omega)).mono ?_
  rintro e w1 ⟨rfl, hst1, hk1⟩
  have HS1 : Hid _ := hst1
  have HK1 : Hid (Kept w.heap.size (w.heap.size + 1) (W0M w k) w1) := hk1
  clear hst1 hk1
  go_wp2_with fail
  refine (enterMap_ok _ w.heap.size _ _ _ _ _ _ _ _ HS1.out (by omega) (Plain.kept (plainMw w k _) HK1.out (by simp; omega) (by simp <;> omega)) (by omega) (by omega) hc0 hc1 (by omega) (by simp) (by omega)).mono ?_
  rintro e w2 ⟨rfl, hst2, hk2⟩
  have HS2 : Hid _ := hst2
  have HK2 : Hid (Kept w.heap.size (w.heap.size + 1) (W0M w k) w2) := HK1.out.trans hk2
  clear hst2 hk2
  go_wp2_with fail
  refine (enterMap_ok _ w.heap.size _ _ _ _ _ _ _ _ HS2.out (by omega) (Plain.kept (plainMw w k _) HK2.out (by simp; omega) (by simp <;> omega)) (by omega) (by omega) hc0 hc1 (by omega) (by simp) (by omega)).mono ?_
  rintro e w3 ⟨rfl, hst3, hk3⟩
  have HS3 : Hid _ := hst3
  have HK3 : Hid (Kept w.heap.size (w.heap.size + 1) (W0M w k) w3) := HK2.out.trans hk3
  clear hst3 hk3
  go_wp2_with fail
  refine (enterMap_new _ w.heap.size _ _ _ _ _ _ _ _ HS3.out (by omega) (Plain.kept (plainMf w k _) HK3.out (by simp; omega) (by simp <;> omega)) (by omega) (by omega) hc0 hc1 (by omega) (by simp <;> omega)).mono ?_
  rintro e w4 ⟨rfl, hst4, hk4⟩
  have HS4 : Hid _ := hst4
  have HK4 : Hid (Kept w.heap.size (w.heap.size + 1) (W0M w k) w4) := HK3.out.trans hk4
  clear hst4 hk4
  go_wp2_with fail
  refine (enterMap_ok _ w.heap.size _ _ _ _ _ _ _ _ HS4.out (by omega) (Plain.kept (plainMw w k _) HK4.out (by simp; omega) (by simp <;> omega)) (by omega) (by omega) hc0 hc1 (by omega) (by simp) (by omega)).mono ?_
  rintro e w5 ⟨rfl, hst5, hk5⟩
  have HK5 : Hid (Kept w.heap.size (w.heap.size + 1) (W0M w k) w5) := HK4.out.trans hk5
  clear hst5 hk5
  go_wp2
  go_ret
  exact ⟨by first | rfl | exact ret_bool (by simp; omega), (HK5.out).below (belowM w k) (Nat.le_refl _) (Nat.le_succ _)⟩

set_option maxRecDepth 100000 in
set_option maxHeartbeats 1000000 in
theorem map_d1_0 (k lo hi : Nat) (cost : Int) (w : World) (hk : k ≤ 65536) (hc0 : 0 ≤ cost) (hc1 : cost ≤ 1152921504606846976) (h0 : 0 < lo) (h1 : lo < hi) (h2 : hi ≤ k) (hc : 65536 < cost) :
    Calls Tryf.prog 3 #[.int .i64 k, .int .i64 lo, .int .i64 hi, .int .i64 cost, .bool true] w fun e w' => e = .returned (.bool true) ∧ Below w.heap.size w w' := by
  have hmk := make25 k hk
  go_enter Tryf.func3, Tryf.ntmps3
  go_wp2_with (go_at_call 4; refine (newRepeats _).mono ?_; rintro e w' ⟨rfl, rfl⟩)
  refine (enterMap_new _ w.heap.size _ _ _ _ _ _ _ _ (startM w k) (by omega) (plainMw w k _) (by omega) (by omega) hc0 hc1 (by omega) (by simp <;> omega)).mono ?_
  rintro e w1 ⟨rfl, hst1, hk1⟩
  have HS1 : Hid _ := hst1
  have HK1 : Hid (Kept w.heap.size (w.heap.size + 1) (W0M w k) w1) := hk1
  clear hst1 hk1
  go_wp2_with fail
  refine (enterMap_new _ w.heap.size _ _ _ _ _ _ _ _ HS1.out (by omega) (Plain.kept (plainMw w k _) HK1.out (by simp; omega) (by simp <;> omega)) (by omega) (by omega) hc0 hc1 (by omega) (by simp <;> omega)).mono ?_
  rintro e w2 ⟨rfl, hst2, hk2⟩
  have HS2 : Hid _ := hst2
  have HK2 : Hid (Kept w.heap.size (w.heap.size + 1) (W0M w k) w2) := HK1.out.trans hk2
  clear hst2 hk2
  go_wp2_with fail
  refine (enterMap_err _ w.heap.size _ _ _ _ _ _ _ _ HS2.out (by omega) (Plain.kept (plainMw w k _) HK2.out (by simp; omega) (by simp <;> omega)) (by omega) (by omega) hc0 hc1 (by omega) (by simp) (by omega)).mono ?_
  rintro e w3 ⟨p3, rfl, hst3, hk3⟩
  have HS3 : Hid _ := hst3
  have HK3 : Hid (Kept w.heap.size (w.heap.size + 1) (W0M w k) w3) := HK2.out.trans hk3
  clear hst3 hk3
  go_wp2_with fail
  refine (enterMap_new _ w.heap.size _ _ _ _ _ _ _ _ HS3.out (by omega) (Plain.kept (plainMf w k _) HK3.out (by simp; omega) (by simp <;> omega)) (by omega) (by omega) hc0 hc1 (by omega) (by simp <;> omega)).mono ?_
  rintro e w4 ⟨rfl, hst4, hk4⟩
  have HS4 : Hid _ := hst4
  have HK4 : Hid (Kept w.heap.size (w.heap.size + 1) (W0M w k) w4) := HK3.out.trans hk4
  clear hst4 hk4
  go_wp2_with fail
  refine (enterMap_err _ w.heap.size _ _ _ _ _ _ _ _ HS4.out (by omega) (Plain.kept (plainMw w k _) HK4.out (by simp; omega) (by simp <;> omega)) (by omega) (by omega) hc0 hc1 (by omega) (by simp) (by omega)).mono ?_
  rintro e w5 ⟨p5, rfl, hst5, hk5⟩
  have HK5 : Hid (Kept w.heap.size (w.heap.size + 1) (W0M w k) w5) := HK4.out.trans hk5
  clear hst5 hk5
  go_wp2
  go_ret
  exact ⟨by first | rfl | exact ret_bool (by simp; omega), (HK5.out).below (belowM w k) (Nat.le_refl _) (Nat.le_succ _)⟩

set_option maxRecDepth 100000 in
set_option maxHeartbeats 1000000 in
theorem map_d2_0 (k hi : Nat) (cost : Int) (w : World) (hk : k ≤ 65536) (hc0 : 0 ≤ cost) (hc1 : cost ≤ 1152921504606846976) (h0 : 0 < hi) (h1 : hi < k) (hc : 65536 < cost) :
    Calls Tryf.prog 3 #[.int .i64 k, .int .i64 0, .int .i64 hi, .int .i64 cost, .bool true] w fun e w' => e = .returned (.bool true) ∧ Below w.heap.size w w' := by
  have hmk := make25 k hk
  go_enter Tryf.func3, Tryf.ntmps3
  go_wp2_with (go_at_call 4; refine (newRepeats _).mono ?_; rintro e w' ⟨rfl, rfl⟩)
  refine (enterMap_new _ w.heap.size _ _ _ _ _ _ _ _ (startM w k) (by omega) (plainMw w k _) (by omega) (by omega) hc0 hc1 (by omega) (by simp <;> omega)).mono ?_
  rintro e w1 ⟨rfl, hst1, hk1⟩
  have HS1 : Hid _ := hst1
  have HK1 : Hid (Kept w.heap.size (w.heap.size + 1) (W0M w k) w1) := hk1
  clear hst1 hk1
  go_wp2_with fail
  refine (enterMap_new _ w.heap.size _ _ _ _ _ _ _ _ HS1.out (by omega) (Plain.kept (plainMw w k _) HK1.out (by simp; omega) (by simp <;> omega)) (by omega) (by omega) hc0 hc1 (by omega) (by simp <;> omega)).mono ?_
  rintro e w2 ⟨rfl, hst2, hk2⟩
  have HS2 : Hid _ := hst2
  have HK2 : Hid (Kept w.heap.size (w.heap.size + 1) (W0M w k) w2) := HK1.out.trans hk2
  clear hst2 hk2
  go_wp2_with fail
  refine (enterMap_err _ w.heap.size _ _ _ _ _ _ _ _ HS2.out (by omega) (Plain.kept (plainMw w k _) HK2.out (by simp; omega) (by simp <;> omega)) (by omega) (by omega) hc0 hc1 (by omega) (by simp) (by omega)).mono ?_
  rintro e w3 ⟨p3, rfl, hst3, hk3⟩
  have HS3 : Hid _ := hst3
  have HK3 : Hid (Kept w.heap.size (w.heap.size + 1) (W0M w k) w3) := HK2.out.trans hk3
  clear hst3 hk3
  go_wp2_with fail
  refine (enterMap_new _ w.heap.size _ _ _ _ _ _ _ _ HS3.out (by omega) (Plain.kept (plainMf w k _) HK3.out (by simp; omega) (by simp <;> omega)) (by omega) (by omega) hc0 hc1 (by omega) (by simp <;> omega)).mono ?_
  rintro e w4 ⟨rfl, hst4, hk4⟩
  have HS4 : Hid _ := hst4
  have HK4 : Hid (Kept w.heap.size (w.heap.size + 1) (W0M w k) w4) := HK3.out.trans hk4
  clear hst4 hk4
  go_wp2_with fail
  refine (enterMap_err _ w.heap.size _ _ _ _ _ _ _ _ HS4.out (by omega) (Plain.kept (plainMw w k _) HK4.out (by simp; omega) (by simp <;> omega)) (by omega) (by omega) hc0 hc1 (by omega) (by simp) (by omega)).mono ?_
  rintro e w5 ⟨p5, rfl, hst5, hk5⟩
  have HK5 : Hid (Kept w.heap.size (w.heap.size + 1) (W0M w k) w5) := HK4.out.trans hk5
  clear hst5 hk5
  go_wp2
  go_ret
  exact ⟨by first | rfl | exact ret_bool (by simp; omega), (HK5.out).below (belowM w k) (Nat.le_refl _) (Nat.le_succ _)⟩

set_option maxRecDepth 100000 in
set_option maxHeartbeats 1000000 in
theorem map_d1_1 (k lo hi : Nat) (cost : Int) (w : World) (hk : k ≤ 65536) (hc0 : 0 ≤ cost) (hc1 : cost ≤ 1152921504606846976) (h0 : 0 < lo) (h1 : lo < hi) (h2 : hi ≤ k) (hc : cost ≤ 65536) (hd : 65536 < cost + cost) :
    Calls Tryf.prog 3 #[.int .i64 k, .int .i64 lo, .int .i64 hi, .int .i64 cost, .bool true] w fun e w' => e = .returned (.bool true) ∧ Below w.heap.size w w' := by
  have hmk := make25 k hk
  go_enter Tryf.func3, Tryf.ntmps3
  go_wp2_with (go_at_call 4; refine (newRepeats _).mono ?_; rintro e w' ⟨rfl, rfl⟩)
  refine (enterMap_new _ w.heap.size _ _ _ _ _ _ _ _ (startM w k) (by omega) (plainMw w k _) (by omega) (by omega) hc0 hc1 (by omega) (by simp <;> omega)).mono ?_
  rintro e w1 ⟨rfl, hst1, hk1⟩
  have HS1 : Hid _ := hst1
  have HK1 : Hid (Kept w.heap.size (w.heap.size + 1) (W0M w k) w1) := hk1
  clear hst1 hk1
  go_wp2_with fail
  refine (enterMap_new _ w.heap.size _ _ _ _ _ _ _ _ HS1.out (by omega) (Plain.kept (plainMw w k _) HK1.out (by simp; omega) (by simp <;> omega)) (by omega) (by omega) hc0 hc1 (by omega) (by simp <;> omega)).mono ?_
  rintro e w2 ⟨rfl, hst2, hk2⟩
  have HS2 : Hid _ := hst2
  have HK2 : Hid (Kept w.heap.size (w.heap.size + 1) (W0M w k) w2) := HK1.out.trans hk2
  clear hst2 hk2
  go_wp2_with fail
  refine (enterMap_ok _ w.heap.size _ _ _ _ _ _ _ _ HS2.out (by omega) (Plain.kept (plainMw w k _) HK2.out (by simp; omega) (by simp <;> omega)) (by omega) (by omega) hc0 hc1 (by omega) (by simp) (by omega)).mono ?_
  rintro e w3 ⟨rfl, hst3, hk3⟩
  have HS3 : Hid _ := hst3
  have HK3 : Hid (Kept w.heap.size (w.heap.size + 1) (W0M w k) w3) := HK2.out.trans hk3
  clear hst3 hk3
  go_wp2_with fail
  refine (enterMap_new _ w.heap.size _ _ _ _ _ _ _ _ HS3.out (by omega) (Plain.kept (plainMf w k _) HK3.out (by simp; omega) (by simp <;> omega)) (by omega) (by omega) hc0 hc1 (by omega) (by simp <;> omega)).mono ?_
  rintro e w4 ⟨rfl, hst4, hk4⟩
  have HS4 : Hid _ := hst4
  have HK4 : Hid (Kept w.heap.size (w.heap.size + 1) (W0M w k) w4) := HK3.out.trans hk4
  clear hst4 hk4
  go_wp2_with fail
  refine (enterMap_err _ w.heap.size _ _ _ _ _ _ _ _ HS4.out (by omega) (Plain.kept (plainMw w k _) HK4.out (by simp; omega) (by simp <;> omega)) (by omega) (by omega) hc0 hc1 (by omega) (by simp) (by omega)).mono ?_
  rintro e w5 ⟨p5, rfl, hst5, hk5⟩
  have HK5 : Hid (Kept w.heap.size (w.heap.size + 1) (W0M w k) w5) := HK4.out.trans hk5
  clear hst5 hk5
  go_wp2
  go_ret
  exact ⟨by first | rfl | exact ret_bool (by simp; omega), (HK5.out).below (belowM w k) (Nat.le_refl _) (Nat.le_succ _)⟩

set_option maxRecDepth 100000 in
set_option maxHeartbeats 1000000 in
theorem map_d2_1 (k hi : Nat) (cost : Int) (w : World) (hk : k ≤ 65536) (hc0 : 0 ≤ cost) (hc1 : cost ≤ 1152921504606846976) (h0 : 0 < hi) (h1 : hi < k) (hc : cost ≤ 65536) (hd : 65536 < cost + cost) :
    Calls Tryf.prog 3 #[.int .i64 k, .int .i64 0, .int .i64 hi, .int .i64 cost, .bool true] w fun e w' => e = .returned (.bool true) ∧ Below w.heap.size w w' := by
  have hmk := make25 k hk
  go_enter Tryf.func3, Tryf.ntmps3
  go_wp2_with (go_at_call 4; refine (newRepeats _).mono ?_; rintro e w' ⟨rfl, rfl⟩)
  refine (enterMap_new _ w.heap.size _ _ _ _ _ _ _ _ (startM w k) (by omega) (plainMw w k _) (by omega) (by omega) hc0 hc1 (by omega) (by simp <;> omega)).mono ?_
  rintro e w1 ⟨rfl, hst1, hk1⟩
  have HS1 : Hid _ := hst1
  have HK1 : Hid (Kept w.heap.size (w.heap.size + 1) (W0M w k) w1) := hk1
  clear hst1 hk1
  go_wp2_with fail
  refine (enterMap_new _ w.heap.size _ _ _ _ _ _ _ _ HS1.out (by omega) (Plain.kept (plainMw w k _) HK1.out (by simp; omega) (by simp <;> omega)) (by omega) (by omega) hc0 hc1 (by omega) (by simp <;> omega)).mono ?_
  rintro e w2 ⟨rfl, hst2, hk2⟩
  have HS2 : Hid _ := hst2
  have HK2 : Hid (Kept w.heap.size (w.heap.size + 1) (W0M w k) w2) := HK1.out.trans hk2
  clear hst2 hk2
  go_wp2_with fail
  refine (enterMap_ok _ w.heap.size _ _ _ _ _ _ _ _ HS2.out (by omega) (Plain.kept (plainMw w k _) HK2.out (by simp; omega) (by simp <;> omega)) (by omega) (by omega) hc0 hc1 (by omega) (by simp) (by omega)).mono ?_
  rintro e w3 ⟨rfl, hst3, hk3⟩
  have HS3 : Hid _ := hst3
  have HK3 : Hid (Kept w.heap.size (w.heap.size + 1) (W0M w k) w3) := HK2.out.trans hk3
  clear hst3 hk3
  go_wp2_with fail
  refine (enterMap_new _ w.heap.size _ _ _ _ _ _ _ _ HS3.out (by omega) (Plain.kept (plainMf w k _) HK3.out (by simp; omega) (by simp <;> omega)) (by omega) (by omega) hc0 hc1 (by omega) (by simp <;> omega)).mono ?_
  rintro e w4 ⟨rfl, hst4, hk4⟩
  have HS4 : Hid _ := hst4
  have HK4 : Hid (Kept w.heap.size (w.heap.size + 1) (W0M w k) w4) := HK3.out.trans hk4
  clear hst4 hk4
  go_wp2_with fail
  refine (enterMap_err _ w.heap.size _ _ _ _ _ _ _ _ HS4.out (by omega) (Plain.kept (plainMw w k _) HK4.out (by simp; omega) (by simp <;> omega)) (by omega) (by omega) hc0 hc1 (by omega) (by simp) (by omega)).mono ?_
  rintro e w5 ⟨p5, rfl, hst5, hk5⟩
  have HK5 : Hid (Kept w.heap.size (w.heap.size + 1) (W0M w k) w5) := HK4.out.trans hk5
  clear hst5 hk5
  go_wp2
  go_ret
  exact ⟨by first | rfl | exact ret_bool (by simp; omega), (HK5.out).below (belowM w k) (Nat.le_refl _) (Nat.le_succ _)⟩

set_option maxRecDepth 100000 in
set_option maxHeartbeats 1000000 in
theorem map_d1_2 (k lo hi : Nat) (cost : Int) (w : World) (hk : k ≤ 65536) (hc0 : 0 ≤ cost) (hc1 : cost ≤ 1152921504606846976) (h0 : 0 < lo) (h1 : lo < hi) (h2 : hi ≤ k) (hd : cost + cost ≤ 65536) :
    Calls Tryf.prog 3 #[.int .i64 k, .int .i64 lo, .int .i64 hi, .int .i64 cost, .bool true] w fun e w' => e = .returned (.bool true) ∧ Below w.heap.size w w' := by
  have hmk := make25 k hk
  go_enter Tryf.func3, Tryf.ntmps3
  go_wp2_with (go_at_call 4; refine (newRepeats _).mono ?_; rintro e w' ⟨rfl, rfl⟩)
  refine (enterMap_new _ w.heap.size _ _ _ _ _ _ _ _ (startM w k) (by omega) (plainMw w k _) (by omega) (by omega) hc0 hc1 (by omega) (by simp <;> omega)).mono ?_
  rintro e w1 ⟨rfl, hst1, hk1⟩
  have HS1 : Hid _ := hst1
  have HK1 : Hid (Kept w.heap.size (w.heap.size + 1) (W0M w k) w1) := hk1
  clear hst1 hk1
  go_wp2_with fail
  refine (enterMap_new _ w.heap.size _ _ _ _ _ _ _ _ HS1.out (by omega) (Plain.kept (plainMw w k _) HK1.out (by simp; omega) (by simp <;> omega)) (by omega) (by omega) hc0 hc1 (by omega) (by simp <;> omega)).mono ?_
  rintro e w2 ⟨rfl, hst2, hk2⟩
  have HS2 : Hid _ := hst2
  have HK2 : Hid (Kept w.heap.size (w.heap.size + 1) (W0M w k) w2) := HK1.out.trans hk2
  clear hst2 hk2
  go_wp2_with fail
  refine (enterMap_ok _ w.heap.size _ _ _ _ _ _ _ _ HS2.out (by omega) (Plain.kept (plainMw w k _) HK2.out (by simp; omega) (by simp <;> omega)) (by omega) (by omega) hc0 hc1 (by omega) (by simp) (by omega)).mono ?_
  rintro e w3 ⟨rfl, hst3, hk3⟩
  have HS3 : Hid _ := hst3
  have HK3 : Hid (Kept w.heap.size (w.heap.size + 1) (W0M w k) w3) := HK2.out.trans hk3
  clear hst3 hk3
  go_wp2_with fail
  refine (enterMap_new _ w.heap.size _ _ _ _ _ _ _ _ HS3.out (by omega) (Plain.kept (plainMf w k _) HK3.out (by simp; omega) (by simp <;> omega)) (by omega) (by omega) hc0 hc1 (by omega) (by simp <;> omega)).mono ?_
  rintro e w4 ⟨rfl, hst4, hk4⟩
  have HS4 : Hid _ := hst4
  have HK4 : Hid (Kept w.heap.size (w.heap.size + 1) (W0M w k) w4) := HK3.out.trans hk4
  clear hst4 hk4
  go_wp2_with fail
  refine (enterMap_ok _ w.heap.size _ _ _ _ _ _ _ _ HS4.out (by omega) (Plain.kept (plainMw w k _) HK4.out (by simp; omega) (by simp <;> omega)) (by omega) (by omega) hc0 hc1 (by omega) (by simp) (by omega)).mono ?_
  rintro e w5 ⟨rfl, hst5, hk5⟩
  have HK5 : Hid (Kept w.heap.size (w.heap.size + 1) (W0M w k) w5) := HK4.out.trans hk5
  clear hst5 hk5
  go_wp2
  go_ret
  exact ⟨by first | rfl | exact ret_bool (by simp; omega), (HK5.out).below (belowM w k) (Nat.le_refl _) (Nat.le_succ _)⟩

set_option maxRecDepth 100000 in
set_option maxHeartbeats 1000000 in
theorem map_d2_2 (k hi : Nat) (cost : Int) (w : World) (hk : k ≤ 65536) (hc0 : 0 ≤ cost) (hc1 : cost ≤ 1152921504606846976) (h0 : 0 < hi) (h1 : hi < k) (hd : cost + cost ≤ 65536) :
    Calls Tryf.prog 3 #[.int .i64 k, .int .i64 0, .int .i64 hi, .int .i64 cost, .bool true] w fun e w' => e = .returned (.bool true) ∧ Below w.heap.size w w' := by
  have hmk := make25 k hk
  go_enter Tryf.func3, Tryf.ntmps3
  go_wp2_with (go_at_call 4; refine (newRepeats _).mono ?_; rintro e w' ⟨rfl, rfl⟩)
  refine (enterMap_new _ w.heap.size _ _ _ _ _ _ _ _ (startM w k) (by omega) (plainMw w k _) (by omega) (by omega) hc0 hc1 (by omega) (by simp <;> omega)).mono ?_
  rintro e w1 ⟨rfl, hst1, hk1⟩
  have HS1 : Hid _ := hst1
  have HK1 : Hid (Kept w.heap.size (w.heap.size + 1) (W0M w k) w1) := hk1
  clear hst1 hk1
  go_wp2_with fail
  refine (enterMap_new _ w.heap.size _ _ _ _ _ _ _ _ HS1.out (by omega) (Plain.kept (plainMw w k _) HK1.out (by simp; omega) (by simp <;> omega)) (by omega) (by omega) hc0 hc1 (by omega) (by simp <;> omega)).mono ?_
  rintro e w2 ⟨rfl, hst2, hk2⟩
  have HS2 : Hid _ := hst2
  have HK2 : Hid (Kept w.heap.size (w.heap.size + 1) (W0M w k) w2) := HK1.out.trans hk2
  clear hst2 hk2
  go_wp2_with fail
  refine (enterMap_ok _ w.heap.size _ _ _ _ _ _ _ _ HS2.out (by omega) (Plain.kept (plainMw w k _) HK2.out (by simp; omega) (by simp <;> omega)) (by omega) (by omega) hc0 hc1 (by omega) (by simp) (by omega)).mono ?_
  rintro e w3 ⟨rfl, hst3, hk3⟩
  have HS3 : Hid _ := hst3
  have HK3 : Hid (Kept w.heap.size (w.heap.size + 1) (W0M w k) w3) := HK2.out.trans hk3
  clear hst3 hk3
  go_wp2_with fail
  refine (enterMap_new _ w.heap.size _ _ _ _ _ _ _ _ HS3.out (by omega) (Plain.kept (plainMf w k _) HK3.out (by simp; omega) (by simp <;> omega)) (by omega) (by omega) hc0 hc1 (by omega) (by simp <;> omega)).mono ?_
  rintro e w4 ⟨rfl, hst4, hk4⟩
  have HS4 : Hid _ := hst4
  have HK4 : Hid (Kept w.heap.size (w.heap.size + 1) (W0M w k) w4) := HK3.out.trans hk4
  clear hst4 hk4
  go_wp2_with fail
  refine (enterMap_ok _ w.heap.size _ _ _ _ _ _ _ _ HS4.out (by omega) (Plain.kept (plainMw w k _) HK4.out (by simp; omega) (by simp <;> omega)) (by omega) (by omega) hc0 hc1 (by omega) (by simp) (by omega)).mono ?_
  rintro e w5 ⟨rfl, hst5, hk5⟩
  have HK5 : Hid (Kept w.heap.size (w.heap.size + 1) (W0M w k) w5) := HK4.out.trans hk5
  clear hst5 hk5
  go_wp2
  go_ret
  exact ⟨by first | rfl | exact ret_bool (by simp; omega), (HK5.out).below (belowM w k) (Nat.le_refl _) (Nat.le_succ _)⟩
end Go.Proofs.Qxb6613733aFmt
