/-
  ZZskipPos over two like tokens; ZZopens; zzBytes.
-/
import Derived.Test.Qxb6615028aSkip
import Derived.BigRegion
namespace Go.Proofs.Qxb6615028a
open Go.RowKit

theorem make40 (w : World) : (Instr.makeSlice 40 (.int .i64 2) (.int .i64 2)).run Try.prog w = .ok (.slice (some ⟨w.heap.size, 0, none⟩) 2 2) (w.alloc (.cells #[.int .i64 0, .string ⟨#[]⟩, .int .i64 0, .int .i64 0, .string ⟨#[]⟩, .int .i64 0] 43)) := by kernel_rfl
attribute [local go_sem] make40

/-- What ZZskipPos leaves. -/
structure IntPost (x : Int) (w : World) (e : Ending) (w' : World) : Prop where
  ret : e = .returned (.int .i64 x)
  below : Below w.heap.size w w'

theorem cur0 (w : World) (k : Int) (t : ByteArray) (ln : Int) : Cur ((w.alloc (.cells #[.int .i64 k, .string t, .int .i64 ln, .int .i64 k, .string t, .int .i64 ln] 43)).alloc (.cells #[.slice (some ⟨w.heap.size, 0, none⟩) 2 2, .int .i64 0] 47)).drew.drew (w.heap.size + 1) w.heap.size k t ln 0 := by
  refine ⟨?_, ?_, by omega⟩
  · show ((w.heap.push _).push _)[w.heap.size + 1]? = _
    rw [Array.getElem?_push]
    simp
  · show ((w.heap.push _).push _)[w.heap.size]? = _
    rw [Array.getElem?_push, if_neg (by simp), Array.getElem?_push]
    simp
theorem below0 (w : World) (a b : Obj) : Below w.heap.size w ((w.alloc a).alloc b).drew.drew :=
  below_dn (below_dn (((Below.refl _ _).alloc (Nat.le_refl _) _).alloc (by simp) _) 1) 1

set_option maxRecDepth 100000 in
set_option maxHeartbeats 2000000 in
theorem skipPos (A S C : Nat) (k : Int) (t : ByteArray) (ln : Int) (q : Nat) (w : World)
    (hq : ∀ R T B w0 w1, Cur w1 R T k t ln 0 → Below B w0 w1 → B ≤ w0.heap.size → B ≤ R → Calls Try.prog 24 #[.pointer (some ⟨R, 0, none⟩)] w1 (SkipPost R T k t ln q B w0))
    (a0 : w.cell? ⟨A, 0, none⟩ = some (.int .i64 k)) (a1 : w.cell? ⟨A, 1, none⟩ = some (.int .i64 k)) (s0 : w.cell? ⟨S, 0, none⟩ = some (.string t)) (s1 : w.cell? ⟨S, 1, none⟩ = some (.string t)) (l0 : w.cell? ⟨C, 0, none⟩ = some (.int .i64 ln)) (l1 : w.cell? ⟨C, 1, none⟩ = some (.int .i64 ln)) :
    Calls Try.prog 14 #[.slice (some ⟨A, 0, none⟩) 2 2, .slice (some ⟨S, 0, none⟩) 2 2, .slice (some ⟨C, 0, none⟩) 2 2] w (IntPost q w) := by
  have hA := World.block_lt_of_cell? w _ a0
  have hS := World.block_lt_of_cell? w _ s0
  have hC := World.block_lt_of_cell? w _ l0
  have hA' : A < w.heap.size := hA
  have hS' : S < w.heap.size := hS
  have hC' : C < w.heap.size := hC
  have HQ : Hid _ := hq
  clear hA hS hC hq
  go_enter Try.func14, Try.ntmps14
  go_wp2_with fail
  refine wp_loop_rounds 3 ?_
  rw [rounds_succ]
  go_wp2_with fail
  go_region
  go_wp2_with fail
  rw [rounds_succ]
  go_wp2_with fail
  go_region
  go_wp2_with fail
  rw [rounds_succ]
  go_wp2_with fail
  refine Calls.mono (HQ.out (w.heap.size + 1) w.heap.size w.heap.size w _ (cur0 w k t ln) (below0 w _ _) (Nat.le_refl _) (by omega)) ?_
  rintro e w1 ⟨hr, hc, hb⟩
  obtain ⟨v, rfl⟩ := hr
  obtain ⟨c0, c1, fz⟩ := hc.facts
  have HB : Hid _ := hb
  clear hb hc HQ
  go_wp2_with fail
  go_ret
  exact ⟨rfl, HB.out⟩

set_option maxRecDepth 100000 in
theorem zzOpens (k : Int) (t : ByteArray) (ln : Int) (w : World) : Calls Try.prog 13 #[.int .i64 k, .string t, .int .i64 ln] w (BoolPost (opB k t) w.heap.size w) := by
  have HO : Hid _ := opens k t ln w.heap.size w w (Below.refl _ _) (Nat.le_refl _)
  go_enter Try.func13, Try.ntmps13
  go_wp2_with fail
  refine Calls.mono HO.out ?_
  rintro e w1 ⟨hr, hb⟩
  subst hr
  have HB : Hid _ := hb
  clear hb HO
  go_wp2_with fail
  go_ret
  exact ⟨rfl, HB.out⟩

set_option maxRecDepth 100000 in
theorem zzBytes (k : Int) (t : ByteArray) (ln : Int) (w : World) : Calls Try.prog 12 #[.int .i64 k, .string t, .int .i64 ln] w fun e w' => e = .returned (.bool (decide (t.size ≤ 1048576))) ∧ w' = w := by
  by_cases h : t.size ≤ 1048576
  · rw [decide_eq_true h]
    go_enter Try.func12, Try.ntmps12
    go_wp2
    go_ret
    exact ⟨rfl, rfl⟩
  · rw [decide_eq_false h]
    go_enter Try.func12, Try.ntmps12
    go_wp2
    go_ret
    exact ⟨rfl, rfl⟩
end Go.Proofs.Qxb6615028a
