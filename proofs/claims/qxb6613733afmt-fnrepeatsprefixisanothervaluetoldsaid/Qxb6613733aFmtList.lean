/-
  FnRepeatsPrefixIsAnotherValue, lists: one walk a way through (made by a script of the prover's).
-/
import Derived.Test.Qxb6613733aFmtStart
namespace Go.Proofs.Qxb6613733aFmt
open Go.RowKit Go.Extern.Stop Go.Stop Go.Extern

theorem subListSame (b k lo : Nat) (hk : k ≤ 65536) (h3 : lo < k) (w : World) : Calls Tryf.prog 7 #[.agg #[.slice (some ⟨b, 0, none⟩) k k], .int .i64 lo, .int .i64 lo] w fun e w' =>
    e = .returned (.agg #[.slice (some ⟨b, lo, none⟩) 0 (k - lo)]) ∧ w' = (w.alloc (.cells #[.slice (some ⟨b, 0, none⟩) k k] 31)).alloc (.cells #[.slice (some ⟨b, lo, none⟩) 0 (k - lo)] 31) := by
  simpa using subList b k lo lo hk (Nat.le_refl _) (Nat.le_of_lt h3) h3 w

set_option maxRecDepth 100000 in
set_option maxHeartbeats 1000000 in
theorem list_a0 (cost : Int) (w : World) (hc0 : 0 ≤ cost) (hc1 : cost ≤ 1152921504606846976) :
    Calls Tryf.prog 3 #[.int .i64 0, .int .i64 0, .int .i64 0, .int .i64 cost, .bool false] w fun e w' => e = .returned (.bool true) ∧ Below w.heap.size w w' := by
  go_enter Tryf.func3, Tryf.ntmps3
  go_wp2_with (first | (go_at_call 4; refine (newRepeats _).mono ?_; rintro e w' ⟨rfl, rfl⟩) | (go_at_call 6; refine (newList0 _).mono ?_; rintro e w' ⟨rfl, rfl⟩) | (go_at_call 7; refine (subListNil _ _).mono ?_; rintro e w' ⟨rfl, rfl⟩))
  refine (enterList_none _ w.heap.size _ _ _ _ _ _ _ _ (startL w 0 0 0 0) (by omega) (plainLw w 0 0 0 0 _) (by omega) (by omega) hc0 hc1 (by first | rfl | omega)).mono ?_
  rintro e w1 ⟨rfl, hst1, hk1⟩
  have HS1 : Hid _ := hst1
  have HK1 : Hid (Kept w.heap.size (w.heap.size + 1) (W0L w 0 0 0 0) w1) := hk1
  clear hst1 hk1
  obtain ⟨c1, c2, c3⟩ := cellsL HK1.out
  go_wp2_with fail
  refine (enterList_none _ w.heap.size _ _ _ _ _ _ _ _ HS1.out (by omega) (Plain.kept (plainLw w 0 0 0 0 _) HK1.out (by simp; omega) (by simp <;> omega)) (by omega) (by omega) hc0 hc1 (by first | rfl | omega)).mono ?_
  rintro e w2 ⟨rfl, hst2, hk2⟩
  have HS2 : Hid _ := hst2
  have HK2 : Hid (Kept w.heap.size (w.heap.size + 1) (W0L w 0 0 0 0) w2) := HK1.out.trans hk2
  clear hst2 hk2
  clear c1 c2 c3
  obtain ⟨c1, c2, c3⟩ := cellsL HK2.out
  go_wp2_with fail
  refine (enterList_none _ w.heap.size _ _ _ _ _ _ _ _ HS2.out (by omega) (Plain.kept (plainLw w 0 0 0 0 _) HK2.out (by simp; omega) (by simp <;> omega)) (by omega) (by omega) hc0 hc1 (by first | rfl | omega)).mono ?_
  rintro e w3 ⟨rfl, hst3, hk3⟩
  have HS3 : Hid _ := hst3
  have HK3 : Hid (Kept w.heap.size (w.heap.size + 1) (W0L w 0 0 0 0) w3) := HK2.out.trans hk3
  clear hst3 hk3
  clear c1 c2 c3
  obtain ⟨c1, c2, c3⟩ := cellsL HK3.out
  go_wp2_with fail
  refine (enterList_none _ w.heap.size _ _ _ _ _ _ _ _ HS3.out (by omega) (Plain.kept (plainLf w 0 0 0 0 _) HK3.out (by simp; omega) (by simp <;> omega)) (by omega) (by omega) hc0 hc1 (by first | rfl | omega)).mono ?_
  rintro e w4 ⟨rfl, hst4, hk4⟩
  have HS4 : Hid _ := hst4
  have HK4 : Hid (Kept w.heap.size (w.heap.size + 1) (W0L w 0 0 0 0) w4) := HK3.out.trans hk4
  clear hst4 hk4
  clear c1 c2 c3
  obtain ⟨c1, c2, c3⟩ := cellsL HK4.out
  go_wp2_with fail
  refine (enterList_none _ w.heap.size _ _ _ _ _ _ _ _ HS4.out (by omega) (Plain.kept (plainLw w 0 0 0 0 _) HK4.out (by simp; omega) (by simp <;> omega)) (by omega) (by omega) hc0 hc1 (by first | rfl | omega)).mono ?_
  rintro e w5 ⟨rfl, hst5, hk5⟩
  have HK5 : Hid (Kept w.heap.size (w.heap.size + 1) (W0L w 0 0 0 0) w5) := HK4.out.trans hk5
  clear hst5 hk5
  go_wp2
  go_ret
  exact ⟨by first | rfl | exact ret_bool (by simp; omega), (HK5.out).below (belowL w 0 0 0 0) (Nat.le_refl _) (Nat.le_succ _)⟩

set_option maxRecDepth 100000 in
set_option maxHeartbeats 1000000 in
theorem list_b1_0 (k : Nat) (cost : Int) (w : World) (hk : k ≤ 65536) (hc0 : 0 ≤ cost) (hc1 : cost ≤ 1152921504606846976) (h0 : 0 < k) (hc : 65536 < cost) :
    Calls Tryf.prog 3 #[.int .i64 k, .int .i64 k, .int .i64 k, .int .i64 cost, .bool false] w fun e w' => e = .returned (.bool true) ∧ Below w.heap.size w w' := by
  go_enter Tryf.func3, Tryf.ntmps3
  go_wp2_with (first | (go_at_call 4; refine (newRepeats _).mono ?_; rintro e w' ⟨rfl, rfl⟩) | (go_at_call 6; refine (newList _ hk _).mono ?_; rintro e w' ⟨rfl, rfl⟩) | (go_at_call 7; refine (subListEnd _ _ hk _).mono ?_; rintro e w' ⟨rfl, rfl⟩))
  refine (enterList_new _ w.heap.size _ _ _ _ _ _ _ _ (startL w k 0 0 0) (by omega) (plainLw w k 0 0 0 _) (by omega) (by omega) hc0 hc1 (by omega) (by simp <;> omega)).mono ?_
  rintro e w1 ⟨rfl, hst1, hk1⟩
  have HS1 : Hid _ := hst1
  have HK1 : Hid (Kept w.heap.size (w.heap.size + 1) (W0L w k 0 0 0) w1) := hk1
  clear hst1 hk1
  obtain ⟨c1, c2, c3⟩ := cellsL HK1.out
  go_wp2_with fail
  refine (enterList_none _ w.heap.size _ _ _ _ _ _ _ _ HS1.out (by omega) (Plain.kept (plainLw w k 0 0 0 _) HK1.out (by simp; omega) (by simp <;> omega)) (by omega) (by omega) hc0 hc1 (by first | rfl | omega)).mono ?_
  rintro e w2 ⟨rfl, hst2, hk2⟩
  have HS2 : Hid _ := hst2
  have HK2 : Hid (Kept w.heap.size (w.heap.size + 1) (W0L w k 0 0 0) w2) := HK1.out.trans hk2
  clear hst2 hk2
  clear c1 c2 c3
  obtain ⟨c1, c2, c3⟩ := cellsL HK2.out
  go_wp2_with fail
  refine (enterList_none _ w.heap.size _ _ _ _ _ _ _ _ HS2.out (by omega) (Plain.kept (plainLw w k 0 0 0 _) HK2.out (by simp; omega) (by simp <;> omega)) (by omega) (by omega) hc0 hc1 (by first | rfl | omega)).mono ?_
  rintro e w3 ⟨rfl, hst3, hk3⟩
  have HS3 : Hid _ := hst3
  have HK3 : Hid (Kept w.heap.size (w.heap.size + 1) (W0L w k 0 0 0) w3) := HK2.out.trans hk3
  clear hst3 hk3
  clear c1 c2 c3
  obtain ⟨c1, c2, c3⟩ := cellsL HK3.out
  go_wp2_with fail
  refine (enterList_new _ w.heap.size _ _ _ _ _ _ _ _ HS3.out (by omega) (Plain.kept (plainLf w k 0 0 0 _) HK3.out (by simp; omega) (by simp <;> omega)) (by omega) (by omega) hc0 hc1 (by omega) (by simp <;> omega)).mono ?_
  rintro e w4 ⟨rfl, hst4, hk4⟩
  have HS4 : Hid _ := hst4
  have HK4 : Hid (Kept w.heap.size (w.heap.size + 1) (W0L w k 0 0 0) w4) := HK3.out.trans hk4
  clear hst4 hk4
  clear c1 c2 c3
  obtain ⟨c1, c2, c3⟩ := cellsL HK4.out
  go_wp2_with fail
  refine (enterList_err _ w.heap.size _ _ _ _ _ _ _ _ HS4.out (by omega) (Plain.kept (plainLw w k 0 0 0 _) HK4.out (by simp; omega) (by simp <;> omega)) (by omega) (by omega) hc0 hc1 (by omega) (by simp) (by omega)).mono ?_
  rintro e w5 ⟨p5, rfl, hst5, hk5⟩
  have HK5 : Hid (Kept w.heap.size (w.heap.size + 1) (W0L w k 0 0 0) w5) := HK4.out.trans hk5
  clear hst5 hk5
  go_wp2
  go_ret
  exact ⟨by first | rfl | exact ret_bool (by simp; omega), (HK5.out).below (belowL w k 0 0 0) (Nat.le_refl _) (Nat.le_succ _)⟩

set_option maxRecDepth 100000 in
set_option maxHeartbeats 1000000 in
theorem list_b2_0 (k : Nat) (cost : Int) (w : World) (hk : k ≤ 65536) (hc0 : 0 ≤ cost) (hc1 : cost ≤ 1152921504606846976) (h0 : 0 < k) (hc : 65536 < cost) :
    Calls Tryf.prog 3 #[.int .i64 k, .int .i64 0, .int .i64 0, .int .i64 cost, .bool false] w fun e w' => e = .returned (.bool true) ∧ Below w.heap.size w w' := by
  go_enter Tryf.func3, Tryf.ntmps3
  go_wp2_with (first | (go_at_call 4; refine (newRepeats _).mono ?_; rintro e w' ⟨rfl, rfl⟩) | (go_at_call 6; refine (newList _ hk _).mono ?_; rintro e w' ⟨rfl, rfl⟩) | (go_at_call 7; refine (subList00 _ _ hk h0 _).mono ?_; rintro e w' ⟨rfl, rfl⟩))
  refine (enterList_new _ w.heap.size _ _ _ _ _ _ _ _ (startL w k 0 0 k) (by omega) (plainLw w k 0 0 k _) (by omega) (by omega) hc0 hc1 (by omega) (by simp <;> omega)).mono ?_
  rintro e w1 ⟨rfl, hst1, hk1⟩
  have HS1 : Hid _ := hst1
  have HK1 : Hid (Kept w.heap.size (w.heap.size + 1) (W0L w k 0 0 k) w1) := hk1
  clear hst1 hk1
  obtain ⟨c1, c2, c3⟩ := cellsL HK1.out
  go_wp2_with fail
  refine (enterList_none _ w.heap.size _ _ _ _ _ _ _ _ HS1.out (by omega) (Plain.kept (plainLw w k 0 0 k _) HK1.out (by simp; omega) (by simp <;> omega)) (by omega) (by omega) hc0 hc1 (by first | rfl | omega)).mono ?_
  rintro e w2 ⟨rfl, hst2, hk2⟩
  have HS2 : Hid _ := hst2
  have HK2 : Hid (Kept w.heap.size (w.heap.size + 1) (W0L w k 0 0 k) w2) := HK1.out.trans hk2
  clear hst2 hk2
  clear c1 c2 c3
  obtain ⟨c1, c2, c3⟩ := cellsL HK2.out
  go_wp2_with fail
  refine (enterList_none _ w.heap.size _ _ _ _ _ _ _ _ HS2.out (by omega) (Plain.kept (plainLw w k 0 0 k _) HK2.out (by simp; omega) (by simp <;> omega)) (by omega) (by omega) hc0 hc1 (by first | rfl | omega)).mono ?_
  rintro e w3 ⟨rfl, hst3, hk3⟩
  have HS3 : Hid _ := hst3
  have HK3 : Hid (Kept w.heap.size (w.heap.size + 1) (W0L w k 0 0 k) w3) := HK2.out.trans hk3
  clear hst3 hk3
  clear c1 c2 c3
  obtain ⟨c1, c2, c3⟩ := cellsL HK3.out
  go_wp2_with fail
  refine (enterList_new _ w.heap.size _ _ _ _ _ _ _ _ HS3.out (by omega) (Plain.kept (plainLf w k 0 0 k _) HK3.out (by simp; omega) (by simp <;> omega)) (by omega) (by omega) hc0 hc1 (by omega) (by simp <;> omega)).mono ?_
  rintro e w4 ⟨rfl, hst4, hk4⟩
  have HS4 : Hid _ := hst4
  have HK4 : Hid (Kept w.heap.size (w.heap.size + 1) (W0L w k 0 0 k) w4) := HK3.out.trans hk4
  clear hst4 hk4
  clear c1 c2 c3
  obtain ⟨c1, c2, c3⟩ := cellsL HK4.out
  go_wp2_with fail
  refine (enterList_err _ w.heap.size _ _ _ _ _ _ _ _ HS4.out (by omega) (Plain.kept (plainLw w k 0 0 k _) HK4.out (by simp; omega) (by simp <;> omega)) (by omega) (by omega) hc0 hc1 (by omega) (by simp) (by omega)).mono ?_
  rintro e w5 ⟨p5, rfl, hst5, hk5⟩
  have HK5 : Hid (Kept w.heap.size (w.heap.size + 1) (W0L w k 0 0 k) w5) := HK4.out.trans hk5
  clear hst5 hk5
  go_wp2
  go_ret
  exact ⟨by first | rfl | exact ret_bool (by simp; omega), (HK5.out).below (belowL w k 0 0 k) (Nat.le_refl _) (Nat.le_succ _)⟩

set_option maxRecDepth 100000 in
set_option maxHeartbeats 1000000 in
theorem list_b3_0 (k lo : Nat) (cost : Int) (w : World) (hk : k ≤ 65536) (hc0 : 0 ≤ cost) (hc1 : cost ≤ 1152921504606846976) (h0 : 0 < lo) (h1 : lo < k) (hc : 65536 < cost) :
    Calls Tryf.prog 3 #[.int .i64 k, .int .i64 lo, .int .i64 lo, .int .i64 cost, .bool false] w fun e w' => e = .returned (.bool true) ∧ Below w.heap.size w w' := by
  go_enter Tryf.func3, Tryf.ntmps3
  go_wp2_with (first | (go_at_call 4; refine (newRepeats _).mono ?_; rintro e w' ⟨rfl, rfl⟩) | (go_at_call 6; refine (newList _ hk _).mono ?_; rintro e w' ⟨rfl, rfl⟩) | (go_at_call 7; refine (subListSame _ _ _ hk h1 _).mono ?_; rintro e w' ⟨rfl, rfl⟩))
  refine (enterList_new _ w.heap.size _ _ _ _ _ _ _ _ (startL w k lo 0 (k - lo)) (by omega) (plainLw w k lo 0 (k - lo) _) (by omega) (by omega) hc0 hc1 (by omega) (by simp <;> omega)).mono ?_
  rintro e w1 ⟨rfl, hst1, hk1⟩
  have HS1 : Hid _ := hst1
  have HK1 : Hid (Kept w.heap.size (w.heap.size + 1) (W0L w k lo 0 (k - lo)) w1) := hk1
  clear hst1 hk1
  obtain ⟨c1, c2, c3⟩ := cellsL HK1.out
  go_wp2_with fail
  refine (enterList_none _ w.heap.size _ _ _ _ _ _ _ _ HS1.out (by omega) (Plain.kept (plainLw w k lo 0 (k - lo) _) HK1.out (by simp; omega) (by simp <;> omega)) (by omega) (by omega) hc0 hc1 (by first | rfl | omega)).mono ?_
  rintro e w2 ⟨rfl, hst2, hk2⟩
  have HS2 : Hid _ := hst2
  have HK2 : Hid (Kept w.heap.size (w.heap.size + 1) (W0L w k lo 0 (k - lo)) w2) := HK1.out.trans hk2
  clear hst2 hk2
  clear c1 c2 c3
  obtain ⟨c1, c2, c3⟩ := cellsL HK2.out
  go_wp2_with fail
  refine (enterList_none _ w.heap.size _ _ _ _ _ _ _ _ HS2.out (by omega) (Plain.kept (plainLw w k lo 0 (k - lo) _) HK2.out (by simp; omega) (by simp <;> omega)) (by omega) (by omega) hc0 hc1 (by first | rfl | omega)).mono ?_
  rintro e w3 ⟨rfl, hst3, hk3⟩
  have HS3 : Hid _ := hst3
  have HK3 : Hid (Kept w.heap.size (w.heap.size + 1) (W0L w k lo 0 (k - lo)) w3) := HK2.out.trans hk3
  clear hst3 hk3
  clear c1 c2 c3
  obtain ⟨c1, c2, c3⟩ := cellsL HK3.out
  go_wp2_with fail
  refine (enterList_new _ w.heap.size _ _ _ _ _ _ _ _ HS3.out (by omega) (Plain.kept (plainLf w k lo 0 (k - lo) _) HK3.out (by simp; omega) (by simp <;> omega)) (by omega) (by omega) hc0 hc1 (by omega) (by simp <;> omega)).mono ?_
  rintro e w4 ⟨rfl, hst4, hk4⟩
  have HS4 : Hid _ := hst4
  have HK4 : Hid (Kept w.heap.size (w.heap.size + 1) (W0L w k lo 0 (k - lo)) w4) := HK3.out.trans hk4
  clear hst4 hk4
  clear c1 c2 c3
  obtain ⟨c1, c2, c3⟩ := cellsL HK4.out
  go_wp2_with fail
  refine (enterList_err _ w.heap.size _ _ _ _ _ _ _ _ HS4.out (by omega) (Plain.kept (plainLw w k lo 0 (k - lo) _) HK4.out (by simp; omega) (by simp <;> omega)) (by omega) (by omega) hc0 hc1 (by omega) (by simp) (by omega)).mono ?_
  rintro e w5 ⟨p5, rfl, hst5, hk5⟩
  have HK5 : Hid (Kept w.heap.size (w.heap.size + 1) (W0L w k lo 0 (k - lo)) w5) := HK4.out.trans hk5
  clear hst5 hk5
  go_wp2
  go_ret
  exact ⟨by first | rfl | exact ret_bool (by simp; omega), (HK5.out).below (belowL w k lo 0 (k - lo)) (Nat.le_refl _) (Nat.le_succ _)⟩

set_option maxRecDepth 100000 in
set_option maxHeartbeats 1000000 in
theorem list_b1_1 (k : Nat) (cost : Int) (w : World) (hk : k ≤ 65536) (hc0 : 0 ≤ cost) (hc1 : cost ≤ 1152921504606846976) (h0 : 0 < k) (hc : cost ≤ 65536) :
    Calls Tryf.prog 3 #[.int .i64 k, .int .i64 k, .int .i64 k, .int .i64 cost, .bool false] w fun e w' => e = .returned (.bool true) ∧ Below w.heap.size w w' := by
  go_enter Tryf.func3, Tryf.ntmps3
  go_wp2_with (first | (go_at_call 4; refine (newRepeats _).mono ?_; rintro e w' ⟨rfl, rfl⟩) | (go_at_call 6; refine (newList _ hk _).mono ?_; rintro e w' ⟨rfl, rfl⟩) | (go_at_call 7; refine (subListEnd _ _ hk _).mono ?_; rintro e w' ⟨rfl, rfl⟩))
  refine (enterList_new _ w.heap.size _ _ _ _ _ _ _ _ (startL w k 0 0 0) (by omega) (plainLw w k 0 0 0 _) (by omega) (by omega) hc0 hc1 (by omega) (by simp <;> omega)).mono ?_
  rintro e w1 ⟨rfl, hst1, hk1⟩
  have HS1 : Hid _ := hst1
  have HK1 : Hid (Kept w.heap.size (w.heap.size + 1) (W0L w k 0 0 0) w1) := hk1
  clear hst1 hk1
  obtain ⟨c1, c2, c3⟩ := cellsL HK1.out
  go_wp2_with fail
  refine (enterList_none _ w.heap.size _ _ _ _ _ _ _ _ HS1.out (by omega) (Plain.kept (plainLw w k 0 0 0 _) HK1.out (by simp; omega) (by simp <;> omega)) (by omega) (by omega) hc0 hc1 (by first | rfl | omega)).mono ?_
  rintro e w2 ⟨rfl, hst2, hk2⟩
  have HS2 : Hid _ := hst2
  have HK2 : Hid (Kept w.heap.size (w.heap.size + 1) (W0L w k 0 0 0) w2) := HK1.out.trans hk2
  clear hst2 hk2
  clear c1 c2 c3
  obtain ⟨c1, c2, c3⟩ := cellsL HK2.out
  go_wp2_with fail
  refine (enterList_none _ w.heap.size _ _ _ _ _ _ _ _ HS2.out (by omega) (Plain.kept (plainLw w k 0 0 0 _) HK2.out (by simp; omega) (by simp <;> omega)) (by omega) (by omega) hc0 hc1 (by first | rfl | omega)).mono ?_
  rintro e w3 ⟨rfl, hst3, hk3⟩
  have HS3 : Hid _ := hst3
  have HK3 : Hid (Kept w.heap.size (w.heap.size + 1) (W0L w k 0 0 0) w3) := HK2.out.trans hk3
  clear hst3 hk3
  clear c1 c2 c3
  obtain ⟨c1, c2, c3⟩ := cellsL HK3.out
  go_wp2_with fail
  refine (enterList_new _ w.heap.size _ _ _ _ _ _ _ _ HS3.out (by omega) (Plain.kept (plainLf w k 0 0 0 _) HK3.out (by simp; omega) (by simp <;> omega)) (by omega) (by omega) hc0 hc1 (by omega) (by simp <;> omega)).mono ?_
  rintro e w4 ⟨rfl, hst4, hk4⟩
  have HS4 : Hid _ := hst4
  have HK4 : Hid (Kept w.heap.size (w.heap.size + 1) (W0L w k 0 0 0) w4) := HK3.out.trans hk4
  clear hst4 hk4
  clear c1 c2 c3
  obtain ⟨c1, c2, c3⟩ := cellsL HK4.out
  go_wp2_with fail
  refine (enterList_ok _ w.heap.size _ _ _ _ _ _ _ _ HS4.out (by omega) (Plain.kept (plainLw w k 0 0 0 _) HK4.out (by simp; omega) (by simp <;> omega)) (by omega) (by omega) hc0 hc1 (by omega) (by simp) (by omega)).mono ?_
  rintro e w5 ⟨rfl, hst5, hk5⟩
  have HK5 : Hid (Kept w.heap.size (w.heap.size + 1) (W0L w k 0 0 0) w5) := HK4.out.trans hk5
  clear hst5 hk5
  go_wp2
  go_ret
  exact ⟨by first | rfl | exact ret_bool (by simp; omega), (HK5.out).below (belowL w k 0 0 0) (Nat.le_refl _) (Nat.le_succ _)⟩

set_option maxRecDepth 100000 in
set_option maxHeartbeats 1000000 in
theorem list_b2_1 (k : Nat) (cost : Int) (w : World) (hk : k ≤ 65536) (hc0 : 0 ≤ cost) (hc1 : cost ≤ 1152921504606846976) (h0 : 0 < k) (hc : cost ≤ 65536) :
    Calls Tryf.prog 3 #[.int .i64 k, .int .i64 0, .int .i64 0, .int .i64 cost, .bool false] w fun e w' => e = .returned (.bool true) ∧ Below w.heap.size w w' := by
  go_enter Tryf.func3, Tryf.ntmps3
  go_wp2_with (first | (go_at_call 4; refine (newRepeats _).mono ?_; rintro e w' ⟨rfl, rfl⟩) | (go_at_call 6; refine (newList _ hk _).mono ?_; rintro e w' ⟨rfl, rfl⟩) | (go_at_call 7; refine (subList00 _ _ hk h0 _).mono ?_; rintro e w' ⟨rfl, rfl⟩))
  refine (enterList_new _ w.heap.size _ _ _ _ _ _ _ _ (startL w k 0 0 k) (by omega) (plainLw w k 0 0 k _) (by omega) (by omega) hc0 hc1 (by omega) (by simp <;> omega)).mono ?_
  rintro e w1 ⟨rfl, hst1, hk1⟩
  have HS1 : Hid _ := hst1
  have HK1 : Hid (Kept w.heap.size (w.heap.size + 1) (W0L w k 0 0 k) w1) := hk1
  clear hst1 hk1
  obtain ⟨c1, c2, c3⟩ := cellsL HK1.out
  go_wp2_with fail
  refine (enterList_none _ w.heap.size _ _ _ _ _ _ _ _ HS1.out (by omega) (Plain.kept (plainLw w k 0 0 k _) HK1.out (by simp; omega) (by simp <;> omega)) (by omega) (by omega) hc0 hc1 (by first | rfl | omega)).mono ?_
  rintro e w2 ⟨rfl, hst2, hk2⟩
  have HS2 : Hid _ := hst2
  have HK2 : Hid (Kept w.heap.size (w.heap.size + 1) (W0L w k 0 0 k) w2) := HK1.out.trans hk2
  clear hst2 hk2
  clear c1 c2 c3
  obtain ⟨c1, c2, c3⟩ := cellsL HK2.out
  go_wp2_with fail
  refine (enterList_none _ w.heap.size _ _ _ _ _ _ _ _ HS2.out (by omega) (Plain.kept (plainLw w k 0 0 k _) HK2.out (by simp; omega) (by simp <;> omega)) (by omega) (by omega) hc0 hc1 (by first | rfl | omega)).mono ?_
  rintro e w3 ⟨rfl, hst3, hk3⟩
  have HS3 : Hid _ := hst3
  have HK3 : Hid (Kept w.heap.size (w.heap.size + 1) (W0L w k 0 0 k) w3) := HK2.out.trans hk3
  clear hst3 hk3
  clear c1 c2 c3
  obtain ⟨c1, c2, c3⟩ := cellsL HK3.out
  go_wp2_with fail
  refine (enterList_new _ w.heap.size _ _ _ _ _ _ _ _ HS3.out (by omega) (Plain.kept (plainLf w k 0 0 k _) HK3.out (by simp; omega) (by simp <;> omega)) (by omega) (by omega) hc0 hc1 (by omega) (by simp <;> omega)).mono ?_
  rintro e w4 ⟨rfl, hst4, hk4⟩
  have HS4 : Hid _ := hst4
  have HK4 : Hid (Kept w.heap.size (w.heap.size + 1) (W0L w k 0 0 k) w4) := HK3.out.trans hk4
  clear hst4 hk4
  clear c1 c2 c3
  obtain ⟨c1, c2, c3⟩ := cellsL HK4.out
  go_wp2_with fail
  refine (enterList_ok _ w.heap.size _ _ _ _ _ _ _ _ HS4.out (by omega) (Plain.kept (plainLw w k 0 0 k _) HK4.out (by simp; omega) (by simp <;> omega)) (by omega) (by omega) hc0 hc1 (by omega) (by simp) (by omega)).mono ?_
  rintro e w5 ⟨rfl, hst5, hk5⟩
  have HK5 : Hid (Kept w.heap.size (w.heap.size + 1) (W0L w k 0 0 k) w5) := HK4.out.trans hk5
  clear hst5 hk5
  go_wp2
  go_ret
  exact ⟨by first | rfl | exact ret_bool (by simp; omega), (HK5.out).below (belowL w k 0 0 k) (Nat.le_refl _) (Nat.le_succ _)⟩

set_option maxRecDepth 100000 in
set_option maxHeartbeats 1000000 in
theorem list_b3_1 (k lo : Nat) (cost : Int) (w : World) (hk : k ≤ 65536) (hc0 : 0 ≤ cost) (hc1 : cost ≤ 1152921504606846976) (h0 : 0 < lo) (h1 : lo < k) (hc : cost ≤ 65536) :
    Calls Tryf.prog 3 #[.int .i64 k, .int .i64 lo, .int .i64 lo, .int .i64 cost, .bool false] w fun e w' => e = .returned (.bool true) ∧ Below w.heap.size w w' := by
  go_enter Tryf.func3, Tryf.ntmps3
  go_wp2_with (first | (go_at_call 4; refine (newRepeats _).mono ?_; rintro e w' ⟨rfl, rfl⟩) | (go_at_call 6; refine (newList _ hk _).mono ?_; rintro e w' ⟨rfl, rfl⟩) | (go_at_call 7; refine (subListSame _ _ _ hk h1 _).mono ?_; rintro e w' ⟨rfl, rfl⟩))
  refine (enterList_new _ w.heap.size _ _ _ _ _ _ _ _ (startL w k lo 0 (k - lo)) (by omega) (plainLw w k lo 0 (k - lo) _) (by omega) (by omega) hc0 hc1 (by omega) (by simp <;> omega)).mono ?_
  rintro e w1 ⟨rfl, hst1, hk1⟩
  have HS1 : Hid _ := hst1
  have HK1 : Hid (Kept w.heap.size (w.heap.size + 1) (W0L w k lo 0 (k - lo)) w1) := hk1
  clear hst1 hk1
  obtain ⟨c1, c2, c3⟩ := cellsL HK1.out
  go_wp2_with fail
  refine (enterList_none _ w.heap.size _ _ _ _ _ _ _ _ HS1.out (by omega) (Plain.kept (plainLw w k lo 0 (k - lo) _) HK1.out (by simp; omega) (by simp <;> omega)) (by omega) (by omega) hc0 hc1 (by first | rfl | omega)).mono ?_
  rintro e w2 ⟨rfl, hst2, hk2⟩
  have HS2 : Hid _ := hst2
  have HK2 : Hid (Kept w.heap.size (w.heap.size + 1) (W0L w k lo 0 (k - lo)) w2) := HK1.out.trans hk2
  clear hst2 hk2
  clear c1 c2 c3
  obtain ⟨c1, c2, c3⟩ := cellsL HK2.out
  go_wp2_with fail
  refine (enterList_none _ w.heap.size _ _ _ _ _ _ _ _ HS2.out (by omega) (Plain.kept (plainLw w k lo 0 (k - lo) _) HK2.out (by simp; omega) (by simp <;> omega)) (by omega) (by omega) hc0 hc1 (by first | rfl | omega)).mono ?_
  rintro e w3 ⟨rfl, hst3, hk3⟩
  have HS3 : Hid _ := hst3
  have HK3 : Hid (Kept w.heap.size (w.heap.size + 1) (W0L w k lo 0 (k - lo)) w3) := HK2.out.trans hk3
  clear hst3 hk3
  clear c1 c2 c3
  obtain ⟨c1, c2, c3⟩ := cellsL HK3.out
  go_wp2_with fail
  refine (enterList_new _ w.heap.size _ _ _ _ _ _ _ _ HS3.out (by omega) (Plain.kept (plainLf w k lo 0 (k - lo) _) HK3.out (by simp; omega) (by simp <;> omega)) (by omega) (by omega) hc0 hc1 (by omega) (by simp <;> omega)).mono ?_
  rintro e w4 ⟨rfl, hst4, hk4⟩
  have HS4 : Hid _ := hst4
  have HK4 : Hid (Kept w.heap.size (w.heap.size + 1) (W0L w k lo 0 (k - lo)) w4) := HK3.out.trans hk4
  clear hst4 hk4
  clear c1 c2 c3
  obtain ⟨c1, c2, c3⟩ := cellsL HK4.out
  go_wp2_with fail
  refine (enterList_ok _ w.heap.size _ _ _ _ _ _ _ _ HS4.out (by omega) (Plain.kept (plainLw w k lo 0 (k - lo) _) HK4.out (by simp; omega) (by simp <;> omega)) (by omega) (by omega) hc0 hc1 (by omega) (by simp) (by omega)).mono ?_
  rintro e w5 ⟨rfl, hst5, hk5⟩
  have HK5 : Hid (Kept w.heap.size (w.heap.size + 1) (W0L w k lo 0 (k - lo)) w5) := HK4.out.trans hk5
  clear hst5 hk5
  go_wp2
  go_ret
  exact ⟨by first | rfl | exact ret_bool (by simp; omega), (HK5.out).below (belowL w k lo 0 (k - lo)) (Nat.le_refl _) (Nat.le_succ _)⟩

set_option maxRecDepth 100000 in
set_option maxHeartbeats 1000000 in
theorem list_c_0 (k : Nat) (cost : Int) (w : World) (hk : k ≤ 65536) (hc0 : 0 ≤ cost) (hc1 : cost ≤ 1152921504606846976) (h0 : 0 < k) (hc : 65536 < cost) :
    Calls Tryf.prog 3 #[.int .i64 k, .int .i64 0, .int .i64 k, .int .i64 cost, .bool false] w fun e w' => e = .returned (.bool true) ∧ Below w.heap.size w w' := by
  go_enter Tryf.func3, Tryf.ntmps3
  go_wp2_with (first | (go_at_call 4; refine (newRepeats _).mono ?_; rintro e w' ⟨rfl, rfl⟩) | (go_at_call 6; refine (newList _ hk _).mono ?_; rintro e w' ⟨rfl, rfl⟩) | (go_at_call 7; refine (subList0 _ _ _ hk (Nat.le_refl _) h0 _).mono ?_; rintro e w' ⟨rfl, rfl⟩))
  refine (enterList_new _ w.heap.size _ _ _ _ _ _ _ _ (startL w k 0 k k) (by omega) (plainLw w k 0 k k _) (by omega) (by omega) hc0 hc1 (by omega) (by simp <;> omega)).mono ?_
  rintro e w1 ⟨rfl, hst1, hk1⟩
  have HS1 : Hid _ := hst1
  have HK1 : Hid (Kept w.heap.size (w.heap.size + 1) (W0L w k 0 k k) w1) := hk1
  clear hst1 hk1
  obtain ⟨c1, c2, c3⟩ := cellsL HK1.out
  go_wp2_with fail
  refine (enterList_err _ w.heap.size _ _ _ _ _ _ _ _ HS1.out (by omega) (Plain.kept (plainLw w k 0 k k _) HK1.out (by simp; omega) (by simp <;> omega)) (by omega) (by omega) hc0 hc1 (by omega) (by simp) (by omega)).mono ?_
  rintro e w2 ⟨p2, rfl, hst2, hk2⟩
  have HS2 : Hid _ := hst2
  have HK2 : Hid (Kept w.heap.size (w.heap.size + 1) (W0L w k 0 k k) w2) := HK1.out.trans hk2
  clear hst2 hk2
  clear c1 c2 c3
  obtain ⟨c1, c2, c3⟩ := cellsL HK2.out
  go_wp2_with fail
  refine (enterList_err _ w.heap.size _ _ _ _ _ _ _ _ HS2.out (by omega) (Plain.kept (plainLw w k 0 k k _) HK2.out (by simp; omega) (by simp <;> omega)) (by omega) (by omega) hc0 hc1 (by omega) (by simp) (by omega)).mono ?_
  rintro e w3 ⟨p3, rfl, hst3, hk3⟩
  have HS3 : Hid _ := hst3
  have HK3 : Hid (Kept w.heap.size (w.heap.size + 1) (W0L w k 0 k k) w3) := HK2.out.trans hk3
  clear hst3 hk3
  clear c1 c2 c3
  obtain ⟨c1, c2, c3⟩ := cellsL HK3.out
  go_wp2_with fail
  refine (enterList_new _ w.heap.size _ _ _ _ _ _ _ _ HS3.out (by omega) (Plain.kept (plainLf w k 0 k k _) HK3.out (by simp; omega) (by simp <;> omega)) (by omega) (by omega) hc0 hc1 (by omega) (by simp <;> omega)).mono ?_
  rintro e w4 ⟨rfl, hst4, hk4⟩
  have HS4 : Hid _ := hst4
  have HK4 : Hid (Kept w.heap.size (w.heap.size + 1) (W0L w k 0 k k) w4) := HK3.out.trans hk4
  clear hst4 hk4
  clear c1 c2 c3
  obtain ⟨c1, c2, c3⟩ := cellsL HK4.out
  go_wp2_with fail
  refine (enterList_err _ w.heap.size _ _ _ _ _ _ _ _ HS4.out (by omega) (Plain.kept (plainLw w k 0 k k _) HK4.out (by simp; omega) (by simp <;> omega)) (by omega) (by omega) hc0 hc1 (by omega) (by simp) (by omega)).mono ?_
  rintro e w5 ⟨p5, rfl, hst5, hk5⟩
  have HK5 : Hid (Kept w.heap.size (w.heap.size + 1) (W0L w k 0 k k) w5) := HK4.out.trans hk5
  clear hst5 hk5
  go_wp2
  go_ret
  exact ⟨by first | rfl | exact ret_bool (by simp; omega), (HK5.out).below (belowL w k 0 k k) (Nat.le_refl _) (Nat.le_succ _)⟩

set_option maxRecDepth 100000 in
set_option maxHeartbeats 1000000 in
theorem list_c_1 (k : Nat) (cost : Int) (w : World) (hk : k ≤ 65536) (hc0 : 0 ≤ cost) (hc1 : cost ≤ 1152921504606846976) (h0 : 0 < k) (hc : cost ≤ 65536) (hd : 65536 < cost + cost) :
    Calls Tryf.prog 3 #[.int .i64 k, .int .i64 0, .int .i64 k, .int .i64 cost, .bool false] w fun e w' => e = .returned (.bool true) ∧ Below w.heap.size w w' := by
  go_enter Tryf.func3, Tryf.ntmps3
  go_wp2_with (first | (go_at_call 4; refine (newRepeats _).mono ?_; rintro e w' ⟨rfl, rfl⟩) | (go_at_call 6; refine (newList _ hk _).mono ?_; rintro e w' ⟨rfl, rfl⟩) | (go_at_call 7; refine (subList0 _ _ _ hk (Nat.le_refl _) h0 _).mono ?_; rintro e w' ⟨rfl, rfl⟩))
  refine (enterList_new _ w.heap.size _ _ _ _ _ _ _ _ (startL w k 0 k k) (by omega) (plainLw w k 0 k k _) (by omega) (by omega) hc0 hc1 (by omega) (by simp <;> omega)).mono ?_
  rintro e w1 ⟨rfl, hst1, hk1⟩
  have HS1 : Hid _ := hst1
  have HK1 : Hid (Kept w.heap.size (w.heap.size + 1) (W0L w k 0 k k) w1) := hk1
  clear hst1 hk1
  obtain ⟨c1, c2, c3⟩ := cellsL HK1.out
  go_wp2_with fail
  refine (enterList_ok _ w.heap.size _ _ _ _ _ _ _ _ HS1.out (by omega) (Plain.kept (plainLw w k 0 k k _) HK1.out (by simp; omega) (by simp <;> omega)) (by omega) (by omega) hc0 hc1 (by omega) (by simp) (by omega)).mono ?_
  rintro e w2 ⟨rfl, hst2, hk2⟩
  have HS2 : Hid _ := hst2
  have HK2 : Hid (Kept w.heap.size (w.heap.size + 1) (W0L w k 0 k k) w2) := HK1.out.trans hk2
  clear hst2 hk2
  clear c1 c2 c3
  obtain ⟨c1, c2, c3⟩ := cellsL HK2.out
  go_wp2_with fail
  refine (enterList_err _ w.heap.size _ _ _ _ _ _ _ _ HS2.out (by omega) (Plain.kept (plainLw w k 0 k k _) HK2.out (by simp; omega) (by simp <;> omega)) (by omega) (by omega) hc0 hc1 (by omega) (by simp) (by omega)).mono ?_
  rintro e w3 ⟨p3, rfl, hst3, hk3⟩
  have HS3 : Hid _ := hst3
  have HK3 : Hid (Kept w.heap.size (w.heap.size + 1) (W0L w k 0 k k) w3) := HK2.out.trans hk3
  clear hst3 hk3
  clear c1 c2 c3
  obtain ⟨c1, c2, c3⟩ := cellsL HK3.out
  go_wp2_with fail
  refine (enterList_new _ w.heap.size _ _ _ _ _ _ _ _ HS3.out (by omega) (Plain.kept (plainLf w k 0 k k _) HK3.out (by simp; omega) (by simp <;> omega)) (by omega) (by omega) hc0 hc1 (by omega) (by simp <;> omega)).mono ?_
  rintro e w4 ⟨rfl, hst4, hk4⟩
  have HS4 : Hid _ := hst4
  have HK4 : Hid (Kept w.heap.size (w.heap.size + 1) (W0L w k 0 k k) w4) := HK3.out.trans hk4
  clear hst4 hk4
  clear c1 c2 c3
  obtain ⟨c1, c2, c3⟩ := cellsL HK4.out
  go_wp2_with fail
  refine (enterList_err _ w.heap.size _ _ _ _ _ _ _ _ HS4.out (by omega) (Plain.kept (plainLw w k 0 k k _) HK4.out (by simp; omega) (by simp <;> omega)) (by omega) (by omega) hc0 hc1 (by omega) (by simp) (by omega)).mono ?_
  rintro e w5 ⟨p5, rfl, hst5, hk5⟩
  have HK5 : Hid (Kept w.heap.size (w.heap.size + 1) (W0L w k 0 k k) w5) := HK4.out.trans hk5
  clear hst5 hk5
  go_wp2
  go_ret
  exact ⟨by first | rfl | exact ret_bool (by simp; omega), (HK5.out).below (belowL w k 0 k k) (Nat.le_refl _) (Nat.le_succ _)⟩

set_option maxRecDepth 100000 in
set_option maxHeartbeats 1000000 in
theorem list_c_2 (k : Nat) (cost : Int) (w : World) (hk : k ≤ 65536) (hc0 : 0 ≤ cost) (hc1 : cost ≤ 1152921504606846976) (h0 : 0 < k) (hd : cost + cost ≤ 65536) (he : 65536 < cost + cost + cost) :
    Calls Tryf.prog 3 #[.int .i64 k, .int .i64 0, .int .i64 k, .int .i64 cost, .bool false] w fun e w' => e = .returned (.bool true) ∧ Below w.heap.size w w' := by
  go_enter Tryf.func3, Tryf.ntmps3
  go_wp2_with (first | (go_at_call 4; refine (newRepeats _).mono ?_; rintro e w' ⟨rfl, rfl⟩) | (go_at_call 6; refine (newList _ hk _).mono ?_; rintro e w' ⟨rfl, rfl⟩) | (go_at_call 7; refine (subList0 _ _ _ hk (Nat.le_refl _) h0 _).mono ?_; rintro e w' ⟨rfl, rfl⟩))
  refine (enterList_new _ w.heap.size _ _ _ _ _ _ _ _ (startL w k 0 k k) (by omega) (plainLw w k 0 k k _) (by omega) (by omega) hc0 hc1 (by omega) (by simp <;> omega)).mono ?_
  rintro e w1 ⟨rfl, hst1, hk1⟩
  have HS1 : Hid _ := hst1
  have HK1 : Hid (Kept w.heap.size (w.heap.size + 1) (W0L w k 0 k k) w1) := hk1
  clear hst1 hk1
  obtain ⟨c1, c2, c3⟩ := cellsL HK1.out
  go_wp2_with fail
  refine (enterList_ok _ w.heap.size _ _ _ _ _ _ _ _ HS1.out (by omega) (Plain.kept (plainLw w k 0 k k _) HK1.out (by simp; omega) (by simp <;> omega)) (by omega) (by omega) hc0 hc1 (by omega) (by simp) (by omega)).mono ?_
  rintro e w2 ⟨rfl, hst2, hk2⟩
  have HS2 : Hid _ := hst2
  have HK2 : Hid (Kept w.heap.size (w.heap.size + 1) (W0L w k 0 k k) w2) := HK1.out.trans hk2
  clear hst2 hk2
  clear c1 c2 c3
  obtain ⟨c1, c2, c3⟩ := cellsL HK2.out
  go_wp2_with fail
  refine (enterList_ok _ w.heap.size _ _ _ _ _ _ _ _ HS2.out (by omega) (Plain.kept (plainLw w k 0 k k _) HK2.out (by simp; omega) (by simp <;> omega)) (by omega) (by omega) hc0 hc1 (by omega) (by simp) (by omega)).mono ?_
  rintro e w3 ⟨rfl, hst3, hk3⟩
  have HS3 : Hid _ := hst3
  have HK3 : Hid (Kept w.heap.size (w.heap.size + 1) (W0L w k 0 k k) w3) := HK2.out.trans hk3
  clear hst3 hk3
  clear c1 c2 c3
  obtain ⟨c1, c2, c3⟩ := cellsL HK3.out
  go_wp2_with fail
  refine (enterList_new _ w.heap.size _ _ _ _ _ _ _ _ HS3.out (by omega) (Plain.kept (plainLf w k 0 k k _) HK3.out (by simp; omega) (by simp <;> omega)) (by omega) (by omega) hc0 hc1 (by omega) (by simp <;> omega)).mono ?_
  rintro e w4 ⟨rfl, hst4, hk4⟩
  have HS4 : Hid _ := hst4
  have HK4 : Hid (Kept w.heap.size (w.heap.size + 1) (W0L w k 0 k k) w4) := HK3.out.trans hk4
  clear hst4 hk4
  clear c1 c2 c3
  obtain ⟨c1, c2, c3⟩ := cellsL HK4.out
  go_wp2_with fail
  refine (enterList_err _ w.heap.size _ _ _ _ _ _ _ _ HS4.out (by omega) (Plain.kept (plainLw w k 0 k k _) HK4.out (by simp; omega) (by simp <;> omega)) (by omega) (by omega) hc0 hc1 (by omega) (by simp) (by omega)).mono ?_
  rintro e w5 ⟨p5, rfl, hst5, hk5⟩
  have HK5 : Hid (Kept w.heap.size (w.heap.size + 1) (W0L w k 0 k k) w5) := HK4.out.trans hk5
  clear hst5 hk5
  go_wp2
  go_ret
  exact ⟨by first | rfl | exact ret_bool (by simp; omega), (HK5.out).below (belowL w k 0 k k) (Nat.le_refl _) (Nat.le_succ _)⟩

set_option maxRecDepth 100000 in
set_option maxHeartbeats 1000000 in
theorem list_c_3 (k : Nat) (cost : Int) (w : World) (hk : k ≤ 65536) (hc0 : 0 ≤ cost) (hc1 : cost ≤ 1152921504606846976) (h0 : 0 < k) (he : cost + cost + cost ≤ 65536) :
    Calls Tryf.prog 3 #[.int .i64 k, .int .i64 0, .int .i64 k, .int .i64 cost, .bool false] w fun e w' => e = .returned (.bool true) ∧ Below w.heap.size w w' := by
  go_enter Tryf.func3, Tryf.ntmps3
  go_wp2_with (first | (go_at_call 4; refine (newRepeats _).mono ?_; rintro e w' ⟨rfl, rfl⟩) | (go_at_call 6; refine (newList _ hk _).mono ?_; rintro e w' ⟨rfl, rfl⟩) | (go_at_call 7; refine (subList0 _ _ _ hk (Nat.le_refl _) h0 _).mono ?_; rintro e w' ⟨rfl, rfl⟩))
  refine (enterList_new _ w.heap.size _ _ _ _ _ _ _ _ (startL w k 0 k k) (by omega) (plainLw w k 0 k k _) (by omega) (by omega) hc0 hc1 (by omega) (by simp <;> omega)).mono ?_
  rintro e w1 ⟨rfl, hst1, hk1⟩
  have HS1 : Hid _ := hst1
  have HK1 : Hid (Kept w.heap.size (w.heap.size + 1) (W0L w k 0 k k) w1) := hk1
  clear hst1 hk1
  obtain ⟨c1, c2, c3⟩ := cellsL HK1.out
  go_wp2_with fail
  refine (enterList_ok _ w.heap.size _ _ _ _ _ _ _ _ HS1.out (by omega) (Plain.kept (plainLw w k 0 k k _) HK1.out (by simp; omega) (by simp <;> omega)) (by omega) (by omega) hc0 hc1 (by omega) (by simp) (by omega)).mono ?_
  rintro e w2 ⟨rfl, hst2, hk2⟩
  have HS2 : Hid _ := hst2
  have HK2 : Hid (Kept w.heap.size (w.heap.size + 1) (W0L w k 0 k k) w2) := HK1.out.trans hk2
  clear hst2 hk2
  clear c1 c2 c3
  obtain ⟨c1, c2, c3⟩ := cellsL HK2.out
  go_wp2_with fail
  refine (enterList_ok _ w.heap.size _ _ _ _ _ _ _ _ HS2.out (by omega) (Plain.kept (plainLw w k 0 k k _) HK2.out (by simp; omega) (by simp <;> omega)) (by omega) (by omega) hc0 hc1 (by omega) (by simp) (by omega)).mono ?_
  rintro e w3 ⟨rfl, hst3, hk3⟩
  have HS3 : Hid _ := hst3
  have HK3 : Hid (Kept w.heap.size (w.heap.size + 1) (W0L w k 0 k k) w3) := HK2.out.trans hk3
  clear hst3 hk3
  clear c1 c2 c3
  obtain ⟨c1, c2, c3⟩ := cellsL HK3.out
  go_wp2_with fail
  refine (enterList_new _ w.heap.size _ _ _ _ _ _ _ _ HS3.out (by omega) (Plain.kept (plainLf w k 0 k k _) HK3.out (by simp; omega) (by simp <;> omega)) (by omega) (by omega) hc0 hc1 (by omega) (by simp <;> omega)).mono ?_
  rintro e w4 ⟨rfl, hst4, hk4⟩
  have HS4 : Hid _ := hst4
  have HK4 : Hid (Kept w.heap.size (w.heap.size + 1) (W0L w k 0 k k) w4) := HK3.out.trans hk4
  clear hst4 hk4
  clear c1 c2 c3
  obtain ⟨c1, c2, c3⟩ := cellsL HK4.out
  go_wp2_with fail
  refine (enterList_ok _ w.heap.size _ _ _ _ _ _ _ _ HS4.out (by omega) (Plain.kept (plainLw w k 0 k k _) HK4.out (by simp; omega) (by simp <;> omega)) (by omega) (by omega) hc0 hc1 (by omega) (by simp) (by omega)).mono ?_
  rintro e w5 ⟨rfl, hst5, hk5⟩
  have HK5 : Hid (Kept w.heap.size (w.heap.size + 1) (W0L w k 0 k k) w5) := HK4.out.trans hk5
  clear hst5 hk5
  go_wp2
  go_ret
  exact ⟨by first | rfl | exact ret_bool (by simp; omega), (HK5.out).below (belowL w k 0 k k) (Nat.le_refl _) (Nat.le_succ _)⟩

set_option maxRecDepth 100000 in
set_option maxHeartbeats 1000000 in
theorem list_d1_0 (k lo hi : Nat) (cost : Int) (w : World) (hk : k ≤ 65536) (hc0 : 0 ≤ cost) (hc1 : cost ≤ 1152921504606846976) (h0 : 0 < lo) (h1 : lo < hi) (h2 : hi ≤ k) (hc : 65536 < cost) :
    Calls Tryf.prog 3 #[.int .i64 k, .int .i64 lo, .int .i64 hi, .int .i64 cost, .bool false] w fun e w' => e = .returned (.bool true) ∧ Below w.heap.size w w' := by
  go_enter Tryf.func3, Tryf.ntmps3
  go_wp2_with (first | (go_at_call 4; refine (newRepeats _).mono ?_; rintro e w' ⟨rfl, rfl⟩) | (go_at_call 6; refine (newList _ hk _).mono ?_; rintro e w' ⟨rfl, rfl⟩) | (go_at_call 7; refine (subList _ _ _ _ hk (Nat.le_of_lt h1) h2 (Nat.lt_of_lt_of_le h1 h2) _).mono ?_; rintro e w' ⟨rfl, rfl⟩))
  refine (enterList_new _ w.heap.size _ _ _ _ _ _ _ _ (startL w k lo (hi - lo) (k - lo)) (by omega) (plainLw w k lo (hi - lo) (k - lo) _) (by omega) (by omega) hc0 hc1 (by omega) (by simp <;> omega)).mono ?_
  rintro e w1 ⟨rfl, hst1, hk1⟩
  have HS1 : Hid _ := hst1
  have HK1 : Hid (Kept w.heap.size (w.heap.size + 1) (W0L w k lo (hi - lo) (k - lo)) w1) := hk1
  clear hst1 hk1
  obtain ⟨c1, c2, c3⟩ := cellsL HK1.out
  go_wp2_with fail
  refine (enterList_new _ w.heap.size _ _ _ _ _ _ _ _ HS1.out (by omega) (Plain.kept (plainLw w k lo (hi - lo) (k - lo) _) HK1.out (by simp; omega) (by simp <;> omega)) (by omega) (by omega) hc0 hc1 (by omega) (by simp <;> omega)).mono ?_
  rintro e w2 ⟨rfl, hst2, hk2⟩
  have HS2 : Hid _ := hst2
  have HK2 : Hid (Kept w.heap.size (w.heap.size + 1) (W0L w k lo (hi - lo) (k - lo)) w2) := HK1.out.trans hk2
  clear hst2 hk2
  clear c1 c2 c3
  obtain ⟨c1, c2, c3⟩ := cellsL HK2.out
  go_wp2_with fail
  refine (enterList_err _ w.heap.size _ _ _ _ _ _ _ _ HS2.out (by omega) (Plain.kept (plainLw w k lo (hi - lo) (k - lo) _) HK2.out (by simp; omega) (by simp <;> omega)) (by omega) (by omega) hc0 hc1 (by omega) (by simp) (by omega)).mono ?_
  rintro e w3 ⟨p3, rfl, hst3, hk3⟩
  have HS3 : Hid _ := hst3
  have HK3 : Hid (Kept w.heap.size (w.heap.size + 1) (W0L w k lo (hi - lo) (k - lo)) w3) := HK2.out.trans hk3
  clear hst3 hk3
  clear c1 c2 c3
  obtain ⟨c1, c2, c3⟩ := cellsL HK3.out
  go_wp2_with fail
  refine (enterList_new _ w.heap.size _ _ _ _ _ _ _ _ HS3.out (by omega) (Plain.kept (plainLf w k lo (hi - lo) (k - lo) _) HK3.out (by simp; omega) (by simp <;> omega)) (by omega) (by omega) hc0 hc1 (by omega) (by simp <;> omega)).mono ?_
  rintro e w4 ⟨rfl, hst4, hk4⟩
  have HS4 : Hid _ := hst4
  have HK4 : Hid (Kept w.heap.size (w.heap.size + 1) (W0L w k lo (hi - lo) (k - lo)) w4) := HK3.out.trans hk4
  clear hst4 hk4
  clear c1 c2 c3
  obtain ⟨c1, c2, c3⟩ := cellsL HK4.out
  go_wp2_with fail
  refine (enterList_err _ w.heap.size _ _ _ _ _ _ _ _ HS4.out (by omega) (Plain.kept (plainLw w k lo (hi - lo) (k - lo) _) HK4.out (by simp; omega) (by simp <;> omega)) (by omega) (by omega) hc0 hc1 (by omega) (by simp) (by omega)).mono ?_
  rintro e w5 ⟨p5, rfl, hst5, hk5⟩
  have HK5 : Hid (Kept w.heap.size (w.heap.size + 1) (W0L w k lo (hi - lo) (k - lo)) w5) := HK4.out.trans hk5
  clear hst5 hk5
  go_wp2
  go_ret
  exact ⟨by first | rfl | exact ret_bool (by simp; omega), (HK5.out).below (belowL w k lo (hi - lo) (k - lo)) (Nat.le_refl _) (Nat.le_succ _)⟩

set_option maxRecDepth 100000 in
set_option maxHeartbeats 1000000 in
theorem list_d2_0 (k hi : Nat) (cost : Int) (w : World) (hk : k ≤ 65536) (hc0 : 0 ≤ cost) (hc1 : cost ≤ 1152921504606846976) (h0 : 0 < hi) (h1 : hi < k) (hc : 65536 < cost) :
    Calls Tryf.prog 3 #[.int .i64 k, .int .i64 0, .int .i64 hi, .int .i64 cost, .bool false] w fun e w' => e = .returned (.bool true) ∧ Below w.heap.size w w' := by
  go_enter Tryf.func3, Tryf.ntmps3
  go_wp2_with (first | (go_at_call 4; refine (newRepeats _).mono ?_; rintro e w' ⟨rfl, rfl⟩) | (go_at_call 6; refine (newList _ hk _).mono ?_; rintro e w' ⟨rfl, rfl⟩) | (go_at_call 7; refine (subList0 _ _ _ hk (Nat.le_of_lt h1) (Nat.lt_trans h0 h1) _).mono ?_; rintro e w' ⟨rfl, rfl⟩))
  refine (enterList_new _ w.heap.size _ _ _ _ _ _ _ _ (startL w k 0 hi k) (by omega) (plainLw w k 0 hi k _) (by omega) (by omega) hc0 hc1 (by omega) (by simp <;> omega)).mono ?_
  rintro e w1 ⟨rfl, hst1, hk1⟩
  have HS1 : Hid _ := hst1
  have HK1 : Hid (Kept w.heap.size (w.heap.size + 1) (W0L w k 0 hi k) w1) := hk1
  clear hst1 hk1
  obtain ⟨c1, c2, c3⟩ := cellsL HK1.out
  go_wp2_with fail
  refine (enterList_new _ w.heap.size _ _ _ _ _ _ _ _ HS1.out (by omega) (Plain.kept (plainLw w k 0 hi k _) HK1.out (by simp; omega) (by simp <;> omega)) (by omega) (by omega) hc0 hc1 (by omega) (by simp <;> omega)).mono ?_
  rintro e w2 ⟨rfl, hst2, hk2⟩
  have HS2 : Hid _ := hst2
  have HK2 : Hid (Kept w.heap.size (w.heap.size + 1) (W0L w k 0 hi k) w2) := HK1.out.trans hk2
  clear hst2 hk2
  clear c1 c2 c3
  obtain ⟨c1, c2, c3⟩ := cellsL HK2.out
  go_wp2_with fail
  refine (enterList_err _ w.heap.size _ _ _ _ _ _ _ _ HS2.out (by omega) (Plain.kept (plainLw w k 0 hi k _) HK2.out (by simp; omega) (by simp <;> omega)) (by omega) (by omega) hc0 hc1 (by omega) (by simp) (by omega)).mono ?_
  rintro e w3 ⟨p3, rfl, hst3, hk3⟩
  have HS3 : Hid _ := hst3
  have HK3 : Hid (Kept w.heap.size (w.heap.size + 1) (W0L w k 0 hi k) w3) := HK2.out.trans hk3
  clear hst3 hk3
  clear c1 c2 c3
  obtain ⟨c1, c2, c3⟩ := cellsL HK3.out
  go_wp2_with fail
  refine (enterList_new _ w.heap.size _ _ _ _ _ _ _ _ HS3.out (by omega) (Plain.kept (plainLf w k 0 hi k _) HK3.out (by simp; omega) (by simp <;> omega)) (by omega) (by omega) hc0 hc1 (by omega) (by simp <;> omega)).mono ?_
  rintro e w4 ⟨rfl, hst4, hk4⟩
  have HS4 : Hid _ := hst4
  have HK4 : Hid (Kept w.heap.size (w.heap.size + 1) (W0L w k 0 hi k) w4) := HK3.out.trans hk4
  clear hst4 hk4
  clear c1 c2 c3
  obtain ⟨c1, c2, c3⟩ := cellsL HK4.out
  go_wp2_with fail
  refine (enterList_err _ w.heap.size _ _ _ _ _ _ _ _ HS4.out (by omega) (Plain.kept (plainLw w k 0 hi k _) HK4.out (by simp; omega) (by simp <;> omega)) (by omega) (by omega) hc0 hc1 (by omega) (by simp) (by omega)).mono ?_
  rintro e w5 ⟨p5, rfl, hst5, hk5⟩
  have HK5 : Hid (Kept w.heap.size (w.heap.size + 1) (W0L w k 0 hi k) w5) := HK4.out.trans hk5
  clear hst5 hk5
  go_wp2
  go_ret
  exact ⟨by first | rfl | exact ret_bool (by simp; omega), (HK5.out).below (belowL w k 0 hi k) (Nat.le_refl _) (Nat.le_succ _)⟩

set_option maxRecDepth 100000 in
set_option maxHeartbeats 1000000 in
theorem list_d1_1 (k lo hi : Nat) (cost : Int) (w : World) (hk : k ≤ 65536) (hc0 : 0 ≤ cost) (hc1 : cost ≤ 1152921504606846976) (h0 : 0 < lo) (h1 : lo < hi) (h2 : hi ≤ k) (hc : cost ≤ 65536) (hd : 65536 < cost + cost) :
    Calls Tryf.prog 3 #[.int .i64 k, .int .i64 lo, .int .i64 hi, .int .i64 cost, .bool false] w fun e w' => e = .returned (.bool true) ∧ Below w.heap.size w w' := by
  go_enter Tryf.func3, Tryf.ntmps3
  go_wp2_with (first | (go_at_call 4; refine (newRepeats _).mono ?_; rintro e w' ⟨rfl, rfl⟩) | (go_at_call 6; refine (newList _ hk _).mono ?_; rintro e w' ⟨rfl, rfl⟩) | (go_at_call 7; refine (subList _ _ _ _ hk (Nat.le_of_lt h1) h2 (Nat.lt_of_lt_of_le h1 h2) _).mono ?_; rintro e w' ⟨rfl, rfl⟩))
  refine (enterList_new _ w.heap.size _ _ _ _ _ _ _ _ (startL w k lo (hi - lo) (k - lo)) (by omega) (plainLw w k lo (hi - lo) (k - lo) _) (by omega) (by omega) hc0 hc1 (by omega) (by simp <;> omega)).mono ?_
  rintro e w1 ⟨rfl, hst1, hk1⟩
  have HS1 : Hid _ := hst1
  have HK1 : Hid (Kept w.heap.size (w.heap.size + 1) (W0L w k lo (hi - lo) (k - lo)) w1) := hk1
  clear hst1 hk1
  obtain ⟨c1, c2, c3⟩ := cellsL HK1.out
  go_wp2_with fail
  refine (enterList_new _ w.heap.size _ _ _ _ _ _ _ _ HS1.out (by omega) (Plain.kept (plainLw w k lo (hi - lo) (k - lo) _) HK1.out (by simp; omega) (by simp <;> omega)) (by omega) (by omega) hc0 hc1 (by omega) (by simp <;> omega)).mono ?_
  rintro e w2 ⟨rfl, hst2, hk2⟩
  have HS2 : Hid _ := hst2
  have HK2 : Hid (Kept w.heap.size (w.heap.size + 1) (W0L w k lo (hi - lo) (k - lo)) w2) := HK1.out.trans hk2
  clear hst2 hk2
  clear c1 c2 c3
  obtain ⟨c1, c2, c3⟩ := cellsL HK2.out
  go_wp2_with fail
  refine (enterList_ok _ w.heap.size _ _ _ _ _ _ _ _ HS2.out (by omega) (Plain.kept (plainLw w k lo (hi - lo) (k - lo) _) HK2.out (by simp; omega) (by simp <;> omega)) (by omega) (by omega) hc0 hc1 (by omega) (by simp) (by omega)).mono ?_
  rintro e w3 ⟨rfl, hst3, hk3⟩
  have HS3 : Hid _ := hst3
  have HK3 : Hid (Kept w.heap.size (w.heap.size + 1) (W0L w k lo (hi - lo) (k - lo)) w3) := HK2.out.trans hk3
  clear hst3 hk3
  clear c1 c2 c3
  obtain ⟨c1, c2, c3⟩ := cellsL HK3.out
  go_wp2_with fail
  refine (enterList_new _ w.heap.size _ _ _ _ _ _ _ _ HS3.out (by omega) (Plain.kept (plainLf w k lo (hi - lo) (k - lo) _) HK3.out (by simp; omega) (by simp <;> omega)) (by omega) (by omega) hc0 hc1 (by omega) (by simp <;> omega)).mono ?_
  rintro e w4 ⟨rfl, hst4, hk4⟩
  have HS4 : Hid _ := hst4
  have HK4 : Hid (Kept w.heap.size (w.heap.size + 1) (W0L w k lo (hi - lo) (k - lo)) w4) := HK3.out.trans hk4
  clear hst4 hk4
  clear c1 c2 c3
  obtain ⟨c1, c2, c3⟩ := cellsL HK4.out
  go_wp2_with fail
  refine (enterList_err _ w.heap.size _ _ _ _ _ _ _ _ HS4.out (by omega) (Plain.kept (plainLw w k lo (hi - lo) (k - lo) _) HK4.out (by simp; omega) (by simp <;> omega)) (by omega) (by omega) hc0 hc1 (by omega) (by simp) (by omega)).mono ?_
  rintro e w5 ⟨p5, rfl, hst5, hk5⟩
  have HK5 : Hid (Kept w.heap.size (w.heap.size + 1) (W0L w k lo (hi - lo) (k - lo)) w5) := HK4.out.trans hk5
  clear hst5 hk5
  go_wp2
  go_ret
  exact ⟨by first | rfl | exact ret_bool (by simp; omega), (HK5.out).below (belowL w k lo (hi - lo) (k - lo)) (Nat.le_refl _) (Nat.le_succ _)⟩

set_option maxRecDepth 100000 in
set_option maxHeartbeats 1000000 in
theorem list_d2_1 (k hi : Nat) (cost : Int) (w : World) (hk : k ≤ 65536) (hc0 : 0 ≤ cost) (hc1 : cost ≤ 1152921504606846976) (h0 : 0 < hi) (h1 : hi < k) (hc : cost ≤ 65536) (hd : 65536 < cost + cost) :
    Calls Tryf.prog 3 #[.int .i64 k, .int .i64 0, .int .i64 hi, .int .i64 cost, .bool false] w fun e w' => e = .returned (.bool true) ∧ Below w.heap.size w w' := by
  go_enter Tryf.func3, Tryf.ntmps3
  go_wp2_with (first | (go_at_call 4; refine (newRepeats _).mono ?_; rintro e w' ⟨rfl, rfl⟩) | (go_at_call 6; refine (newList _ hk _).mono ?_; rintro e w' ⟨rfl, rfl⟩) | (go_at_call 7; refine (subList0 _ _ _ hk (Nat.le_of_lt h1) (Nat.lt_trans h0 h1) _).mono ?_; rintro e w' ⟨rfl, rfl⟩))
  refine (enterList_new _ w.heap.size _ _ _ _ _ _ _ _ (startL w k 0 hi k) (by omega) (plainLw w k 0 hi k _) (by omega) (by omega) hc0 hc1 (by omega) (by simp <;> omega)).mono ?_
  rintro e w1 ⟨rfl, hst1, hk1⟩
  have HS1 : Hid _ := hst1
  have HK1 : Hid (Kept w.heap.size (w.heap.size + 1) (W0L w k 0 hi k) w1) := hk1
  clear hst1 hk1
  obtain ⟨c1, c2, c3⟩ := cellsL HK1.out
  go_wp2_with fail
  refine (enterList_new _ w.heap.size _ _ _ _ _ _ _ _ HS1.out (by omega) (Plain.kept (plainLw w k 0 hi k _) HK1.out (by simp; omega) (by simp <;> omega)) (by omega) (by omega) hc0 hc1 (by omega) (by simp <;> omega)).mono ?_
  rintro e w2 ⟨rfl, hst2, hk2⟩
  have HS2 : Hid _ := hst2
  have HK2 : Hid (Kept w.heap.size (w.heap.size + 1) (W0L w k 0 hi k) w2) := HK1.out.trans hk2
  clear hst2 hk2
  clear c1 c2 c3
  obtain ⟨c1, c2, c3⟩ := cellsL HK2.out
  go_wp2_with fail
  refine (enterList_ok _ w.heap.size _ _ _ _ _ _ _ _ HS2.out (by omega) (Plain.kept (plainLw w k 0 hi k _) HK2.out (by simp; omega) (by simp <;> omega)) (by omega) (by omega) hc0 hc1 (by omega) (by simp) (by omega)).mono ?_
  rintro e w3 ⟨rfl, hst3, hk3⟩
  have HS3 : Hid _ := hst3
  have HK3 : Hid (Kept w.heap.size (w.heap.size + 1) (W0L w k 0 hi k) w3) := HK2.out.trans hk3
  clear hst3 hk3
  clear c1 c2 c3
  obtain ⟨c1, c2, c3⟩ := cellsL HK3.out
  go_wp2_with fail
  refine (enterList_new _ w.heap.size _ _ _ _ _ _ _ _ HS3.out (by omega) (Plain.kept (plainLf w k 0 hi k _) HK3.out (by simp; omega) (by simp <;> omega)) (by omega) (by omega) hc0 hc1 (by omega) (by simp <;> omega)).mono ?_
  rintro e w4 ⟨rfl, hst4, hk4⟩
  have HS4 : Hid _ := hst4
  have HK4 : Hid (Kept w.heap.size (w.heap.size + 1) (W0L w k 0 hi k) w4) := HK3.out.trans hk4
  clear hst4 hk4
  clear c1 c2 c3
  obtain ⟨c1, c2, c3⟩ := cellsL HK4.out
  go_wp2_with fail
  refine (enterList_err _ w.heap.size _ _ _ _ _ _ _ _ HS4.out (by omega) (Plain.kept (plainLw w k 0 hi k _) HK4.out (by simp; omega) (by simp <;> omega)) (by omega) (by omega) hc0 hc1 (by omega) (by simp) (by omega)).mono ?_
  rintro e w5 ⟨p5, rfl, hst5, hk5⟩
  have HK5 : Hid (Kept w.heap.size (w.heap.size + 1) (W0L w k 0 hi k) w5) := HK4.out.trans hk5
  clear hst5 hk5
  go_wp2
  go_ret
  exact ⟨by first | rfl | exact ret_bool (by simp; omega), (HK5.out).below (belowL w k 0 hi k) (Nat.le_refl _) (Nat.le_succ _)⟩

set_option maxRecDepth 100000 in
set_option maxHeartbeats 1000000 in
theorem list_d1_2 (k lo hi : Nat) (cost : Int) (w : World) (hk : k ≤ 65536) (hc0 : 0 ≤ cost) (hc1 : cost ≤ 1152921504606846976) (h0 : 0 < lo) (h1 : lo < hi) (h2 : hi ≤ k) (hd : cost + cost ≤ 65536) :
    Calls Tryf.prog 3 #[.int .i64 k, .int .i64 lo, .int .i64 hi, .int .i64 cost, .bool false] w fun e w' => e = .returned (.bool true) ∧ Below w.heap.size w w' := by
  go_enter Tryf.func3, Tryf.ntmps3
  go_wp2_with (first | (go_at_call 4; refine (newRepeats _).mono ?_; rintro e w' ⟨rfl, rfl⟩) | (go_at_call 6; refine (newList _ hk _).mono ?_; rintro e w' ⟨rfl, rfl⟩) | (go_at_call 7; refine (subList _ _ _ _ hk (Nat.le_of_lt h1) h2 (Nat.lt_of_lt_of_le h1 h2) _).mono ?_; rintro e w' ⟨rfl, rfl⟩))
  refine (enterList_new _ w.heap.size _ _ _ _ _ _ _ _ (startL w k lo (hi - lo) (k - lo)) (by omega) (plainLw w k lo (hi - lo) (k - lo) _) (by omega) (by omega) hc0 hc1 (by omega) (by simp <;> omega)).mono ?_
  rintro e w1 ⟨rfl, hst1, hk1⟩
  have HS1 : Hid _ := hst1
  have HK1 : Hid (Kept w.heap.size (w.heap.size + 1) (W0L w k lo (hi - lo) (k - lo)) w1) := hk1
  clear hst1 hk1
  obtain ⟨c1, c2, c3⟩ := cellsL HK1.out
  go_wp2_with fail
  refine (enterList_new _ w.heap.size _ _ _ _ _ _ _ _ HS1.out (by omega) (Plain.kept (plainLw w k lo (hi - lo) (k - lo) _) HK1.out (by simp; omega) (by simp <;> omega)) (by omega) (by omega) hc0 hc1 (by omega) (by simp <;> omega)).mono ?_
  rintro e w2 ⟨rfl, hst2, hk2⟩
  have HS2 : Hid _ := hst2
  have HK2 : Hid (Kept w.heap.size (w.heap.size + 1) (W0L w k lo (hi - lo) (k - lo)) w2) := HK1.out.trans hk2
  clear hst2 hk2
  clear c1 c2 c3
  obtain ⟨c1, c2, c3⟩ := cellsL HK2.out
  go_wp2_with fail
  refine (enterList_ok _ w.heap.size _ _ _ _ _ _ _ _ HS2.out (by omega) (Plain.kept (plainLw w k lo (hi - lo) (k - lo) _) HK2.out (by simp; omega) (by simp <;> omega)) (by omega) (by omega) hc0 hc1 (by omega) (by simp) (by omega)).mono ?_
  rintro e w3 ⟨rfl, hst3, hk3⟩
  have HS3 : Hid _ := hst3
  have HK3 : Hid (Kept w.heap.size (w.heap.size + 1) (W0L w k lo (hi - lo) (k - lo)) w3) := HK2.out.trans hk3
  clear hst3 hk3
  clear c1 c2 c3
  obtain ⟨c1, c2, c3⟩ := cellsL HK3.out
  go_wp2_with fail
  refine (enterList_new _ w.heap.size _ _ _ _ _ _ _ _ HS3.out (by omega) (Plain.kept (plainLf w k lo (hi - lo) (k - lo) _) HK3.out (by simp; omega) (by simp <;> omega)) (by omega) (by omega) hc0 hc1 (by omega) (by simp <;> omega)).mono ?_
  rintro e w4 ⟨rfl, hst4, hk4⟩
  have HS4 : Hid _ := hst4
  have HK4 : Hid (Kept w.heap.size (w.heap.size + 1) (W0L w k lo (hi - lo) (k - lo)) w4) := HK3.out.trans hk4
  clear hst4 hk4
  clear c1 c2 c3
  obtain ⟨c1, c2, c3⟩ := cellsL HK4.out
  go_wp2_with fail
  refine (enterList_ok _ w.heap.size _ _ _ _ _ _ _ _ HS4.out (by omega) (Plain.kept (plainLw w k lo (hi - lo) (k - lo) _) HK4.out (by simp; omega) (by simp <;> omega)) (by omega) (by omega) hc0 hc1 (by omega) (by simp) (by omega)).mono ?_
  rintro e w5 ⟨rfl, hst5, hk5⟩
  have HK5 : Hid (Kept w.heap.size (w.heap.size + 1) (W0L w k lo (hi - lo) (k - lo)) w5) := HK4.out.trans hk5
  clear hst5 hk5
  go_wp2
  go_ret
  exact ⟨by first | rfl | exact ret_bool (by simp; omega), (HK5.out).below (belowL w k lo (hi - lo) (k - lo)) (Nat.le_refl _) (Nat.le_succ _)⟩

set_option maxRecDepth 100000 in
set_option maxHeartbeats 1000000 in
theorem list_d2_2 (k hi : Nat) (cost : Int) (w : World) (hk : k ≤ 65536) (hc0 : 0 ≤ cost) (hc1 : cost ≤ 1152921504606846976) (h0 : 0 < hi) (h1 : hi < k) (hd : cost + cost ≤ 65536) :
    Calls Tryf.prog 3 #[.int .i64 k, .int .i64 0, .int .i64 hi, .int .i64 cost, .bool false] w fun e w' => e = .returned (.bool true) ∧ Below w.heap.size w w' := by
  go_enter Tryf.func3, Tryf.ntmps3
  go_wp2_with (first | (go_at_call 4; refine (newRepeats _).mono ?_; rintro e w' ⟨rfl, rfl⟩) | (go_at_call 6; refine (newList _ hk _).mono ?_; rintro e w' ⟨rfl, rfl⟩) | (go_at_call 7; refine (subList0 _ _ _ hk (Nat.le_of_lt h1) (Nat.lt_trans h0 h1) _).mono ?_; rintro e w' ⟨rfl, rfl⟩))
  refine (enterList_new _ w.heap.size _ _ _ _ _ _ _ _ (startL w k 0 hi k) (by omega) (plainLw w k 0 hi k _) (by omega) (by omega) hc0 hc1 (by omega) (by simp <;> omega)).mono ?_
  rintro e w1 ⟨rfl, hst1, hk1⟩
  have HS1 : Hid _ := hst1
  have HK1 : Hid (Kept w.heap.size (w.heap.size + 1) (W0L w k 0 hi k) w1) := hk1
  clear hst1 hk1
  obtain ⟨c1, c2, c3⟩ := cellsL HK1.out
  go_wp2_with fail
  refine (enterList_new _ w.heap.size _ _ _ _ _ _ _ _ HS1.out (by omega) (Plain.kept (plainLw w k 0 hi k _) HK1.out (by simp; omega) (by simp <;> omega)) (by omega) (by omega) hc0 hc1 (by omega) (by simp <;> omega)).mono ?_
  rintro e w2 ⟨rfl, hst2, hk2⟩
  have HS2 : Hid _ := hst2
  have HK2 : Hid (Kept w.heap.size (w.heap.size + 1) (W0L w k 0 hi k) w2) := HK1.out.trans hk2
  clear hst2 hk2
  clear c1 c2 c3
  obtain ⟨c1, c2, c3⟩ := cellsL HK2.out
  go_wp2_with fail
  refine (enterList_ok _ w.heap.size _ _ _ _ _ _ _ _ HS2.out (by omega) (Plain.kept (plainLw w k 0 hi k _) HK2.out (by simp; omega) (by simp <;> omega)) (by omega) (by omega) hc0 hc1 (by omega) (by simp) (by omega)).mono ?_
  rintro e w3 ⟨rfl, hst3, hk3⟩
  have HS3 : Hid _ := hst3
  have HK3 : Hid (Kept w.heap.size (w.heap.size + 1) (W0L w k 0 hi k) w3) := HK2.out.trans hk3
  clear hst3 hk3
  clear c1 c2 c3
  obtain ⟨c1, c2, c3⟩ := cellsL HK3.out
  go_wp2_with fail
  refine (enterList_new _ w.heap.size _ _ _ _ _ _ _ _ HS3.out (by omega) (Plain.kept (plainLf w k 0 hi k _) HK3.out (by simp; omega) (by simp <;> omega)) (by omega) (by omega) hc0 hc1 (by omega) (by simp <;> omega)).mono ?_
  rintro e w4 ⟨rfl, hst4, hk4⟩
  have HS4 : Hid _ := hst4
  have HK4 : Hid (Kept w.heap.size (w.heap.size + 1) (W0L w k 0 hi k) w4) := HK3.out.trans hk4
  clear hst4 hk4
  clear c1 c2 c3
  obtain ⟨c1, c2, c3⟩ := cellsL HK4.out
  go_wp2_with fail
  refine (enterList_ok _ w.heap.size _ _ _ _ _ _ _ _ HS4.out (by omega) (Plain.kept (plainLw w k 0 hi k _) HK4.out (by simp; omega) (by simp <;> omega)) (by omega) (by omega) hc0 hc1 (by omega) (by simp) (by omega)).mono ?_
  rintro e w5 ⟨rfl, hst5, hk5⟩
  have HK5 : Hid (Kept w.heap.size (w.heap.size + 1) (W0L w k 0 hi k) w5) := HK4.out.trans hk5
  clear hst5 hk5
  go_wp2
  go_ret
  exact ⟨by first | rfl | exact ret_bool (by simp; omega), (HK5.out).below (belowL w k 0 hi k) (Nat.le_refl _) (Nat.le_succ _)⟩
end Go.Proofs.Qxb6613733aFmt
