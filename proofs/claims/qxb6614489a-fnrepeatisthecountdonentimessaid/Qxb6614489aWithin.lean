/-
  ZZwithin; FnWithinHoldsExactlyUpToTheBound: the walk.
-/
import Derived.Test.Qxb6614489aRows
import Derived.WalkKit
import Derived.WalkSpells
import Derived.WalkLawsBesides
import Derived.BigQuiet
import Derived.Deep.QuietTactic
namespace Go.Proofs.Qxb6614489a
open Go.RowKit

set_option maxHeartbeats 400000 in
theorem within (x : Int) (w : World) : Calls Try.prog 7 #[.int .i64 x] w fun e w' => e = .returned (.bool (decide (x ≤ 16777216))) ∧ w' = w.alloc (.cells #[.int .i64 x, .slice none 0 0] 33) := by
  go_enter Try.func7, Try.ntmps7
  go_wp2
  go_ret
  exact ⟨rfl, rfl⟩

/-- The four numbers. -/
def X (a b : Int) : Nat → Int
  | 0 => a
  | 1 => b
  | 2 => 16777216
  | _ => 16777217
/-- The world behind the first loop. -/
def W4 (w : World) (a b : Int) : World :=
  (((((w.alloc (.cells #[.int .i64 a, .int .i64 b, .int .i64 16777216, .int .i64 16777217] 27)).alloc (.cells #[.bool (decide (a ≤ 16777216)), .bool (decide (b ≤ 16777216)), .bool true, .bool false] 28)).alloc
    (.cells #[.int .i64 a, .slice none 0 0] 33)).alloc (.cells #[.int .i64 b, .slice none 0 0] 33)).alloc (.cells #[.int .i64 16777216, .slice none 0 0] 33)).alloc (.cells #[.int .i64 16777217, .slice none 0 0] 33)
theorem W4_below (w : World) (a b : Int) : Below w.heap.size w (W4 w a b) :=
  ((((((Below.refl _ _).alloc (Nat.le_refl _) _).alloc (by simp) _).alloc (by simp; omega) _).alloc (by simp; omega) _).alloc (by simp; omega) _).alloc (by simp; omega) _
theorem W4_x (w : World) (a b : Int) (p : Nat) (h : p < 4) : (W4 w a b).cell? ⟨w.heap.size, p, none⟩ = some (.int .i64 (X a b p)) := by
  match p, h with
  | 0, _ => unfold W4; go_simp; rfl
  | 1, _ => unfold W4; go_simp; rfl
  | 2, _ => unfold W4; go_simp; rfl
  | 3, _ => unfold W4; go_simp; rfl
theorem W4_y (w : World) (a b : Int) (p : Nat) (h : p < 4) : (W4 w a b).cell? ⟨w.heap.size + 1, p, none⟩ = some (.bool (decide (X a b p ≤ 16777216))) := by
  match p, h with
  | 0, _ => unfold W4; go_simp; rfl
  | 1, _ => unfold W4; go_simp; rfl
  | 2, _ => unfold W4; go_simp; exact Int.le_refl _
  | 3, _ => unfold W4; go_simp; simp [X]

set_option maxRecDepth 100000 in
set_option maxHeartbeats 1000000 in
theorem walk5 (a b : Int) (w : World) : Calls Try.prog 5 #[.int .i64 a, .int .i64 b] w fun e w' => e = .returned (.bool true) ∧ Below w.heap.size w w' := by
  go_enter Try.func5, Try.ntmps5
  go_wp2
  refine wp_loop_rounds 5 ?_
  rw [rounds_succ]
  go_wp2_with (go_at_call 7; refine (within _ _).mono ?_; rintro e w' ⟨rfl, rfl⟩)
  rw [rounds_succ]
  go_wp2_with (go_at_call 7; refine (within _ _).mono ?_; rintro e w' ⟨rfl, rfl⟩)
  rw [rounds_succ]
  go_wp2_with (go_at_call 7; refine (within _ _).mono ?_; rintro e w' ⟨rfl, rfl⟩)
  rw [rounds_succ]
  go_wp2_with (go_at_call 7; refine (within _ _).mono ?_; rintro e w' ⟨rfl, rfl⟩)
  rw [rounds_succ]
  go_wp2_with fail
  go_loopw [8] (fun i wr => ∃ (p nd : Nat), p ≤ 4 ∧ i = .int .i64 p ∧ wr = (W4 w a b).drewN nd) (fun i _ => 4 - (intOf i).toNat)
  case atStart => exact ⟨0, 0, by omega, rfl, rfl⟩
  case round =>
    obtain ⟨p, nd, hp, rfl, rfl⟩ := hrel
    by_cases hp4 : p < 4
    · have x1 := W4_x w a b p hp4
      have y1 := W4_y w a b p hp4
      have hpd : decide ((p : Int) < 4) = true := decide_eq_true (by omega)
      go_wp2_with fail
      go_loopw [9] (fun i wr => ∃ (q nd : Nat), q ≤ 4 ∧ i = .int .i64 q ∧ wr = (W4 w a b).drewN nd) (fun i _ => 4 - (intOf i).toNat)
      case atStart => exact ⟨0, nd, by omega, rfl, rfl⟩
      case round =>
        obtain ⟨q, nd, hq, rfl, rfl⟩ := hrel
        by_cases hq4 : q < 4
        · have x2 := W4_x w a b q hq4
          have y2 := W4_y w a b q hq4
          generalize X a b p = xp at x1 y1
          generalize X a b q = xq at x2 y2
          by_cases h1 : xp ≤ xq
          · by_cases h2 : xq ≤ 16777216
            · have h3 : xp ≤ 16777216 := by omega
              rw [decide_eq_true h2] at y2
              rw [decide_eq_true h3] at y1
              go_wp2_with fail
              go_quiet (fail)
              go_wp2
              go_roundw
              case rel => first | exact ⟨q + 1, _, by omega, by go_num, rfl⟩ | ((repeat apply Exists.intro); exact ⟨⟨q + 1, _, by omega, by go_num, rfl⟩, rfl⟩)
              case measure => simp [intOf]; omega
            · rw [decide_eq_false h2] at y2
              go_wp2_with fail
              go_quiet (fail)
              go_wp2
              go_roundw
              case rel => first | exact ⟨q + 1, _, by omega, by go_num, rfl⟩ | ((repeat apply Exists.intro); exact ⟨⟨q + 1, _, by omega, by go_num, rfl⟩, rfl⟩)
              case measure => simp [intOf]; omega
          · have h1' : decide (xp ≤ xq) = false := decide_eq_false h1
            go_wp2_with fail
            go_quiet (fail)
            go_wp2
            go_roundw
            case rel => first | exact ⟨q + 1, _, by omega, by go_num, rfl⟩ | ((repeat apply Exists.intro); exact ⟨⟨q + 1, _, by omega, by go_num, rfl⟩, rfl⟩)
            case measure => simp [intOf]; omega
        · go_wp2_with fail
          go_roundw
          case rel => exact ⟨p + 1, _, by omega, by go_num, rfl⟩
          case measure => simp [intOf]; omega
    · go_wp2
      go_ret
      exact ⟨rfl, (W4_below w a b).trans ⟨rfl, rfl, rfl, Nat.le_refl _, fun _ _ => rfl⟩⟩
end Go.Proofs.Qxb6614489a
