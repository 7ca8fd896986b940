/-
  (*jsonDecoder).fail: a new error, not nil.
-/
import Derived.Test.Qxb6614489aFmtDigits
import Derived.Stop.CallBack
import Derived.Stop.IfaceNil
import Derived.Deep.RegionHeld3
import GoSem.ClaimData
namespace Go.Proofs.Qxb6614489aFmt
open Go.RowKit Go.Extern.Stop Go.Stop Go.Extern

theorem call12 (args : Array Value) (w : World) : (callFunc 12 args).run Tryf.prog w = ((FmtStop.errorf #[9, 27] #[31] args).run Tryf.prog w).andThen fun v w' => .ok (.value v) w' :=
  run_callFunc_extern Tryf.func12 (by kernel_rfl) (by kernel_rfl) (by kernel_rfl) (by kernel_rfl) args w
theorem guardF (name : String) (w : World) : (FmtStop.guard name).run Tryf.prog w = .ok () w := by kernel_rfl
theorem fmt0 : FmtStop.printed? ⟨#[117, 110, 101, 120, 112, 101, 99, 116, 101, 100, 32, 101, 110, 100, 32, 111, 102, 32, 74, 83, 79, 78, 32, 105, 110, 112, 117, 116, 32, 37, 115]⟩ 1 = some [(0, 115, false)] := by kernel_rfl
theorem fmt0r (w : World) : (FmtDoors.printed ⟨#[117, 110, 101, 120, 112, 101, 99, 116, 101, 100, 32, 101, 110, 100, 32, 111, 102, 32, 74, 83, 79, 78, 32, 105, 110, 112, 117, 116, 32, 37, 115]⟩ 1).run Tryf.prog w = .ok [(0, 115, false)] w := by kernel_rfl
theorem fmt1 : FmtStop.printed? ⟨#[105, 110, 118, 97, 108, 105, 100, 32, 99, 104, 97, 114, 97, 99, 116, 101, 114, 32, 37, 113, 32, 37, 115, 44, 32, 97, 116, 32, 111, 102, 102, 115, 101, 116, 32, 37, 100]⟩ 3 = some [(0, 113, false), (1, 115, false), (2, 100, false)] := by kernel_rfl
theorem fmt1r (w : World) : (FmtDoors.printed ⟨#[105, 110, 118, 97, 108, 105, 100, 32, 99, 104, 97, 114, 97, 99, 116, 101, 114, 32, 37, 113, 32, 37, 115, 44, 32, 97, 116, 32, 111, 102, 102, 115, 101, 116, 32, 37, 100]⟩ 3).run Tryf.prog w = .ok [(0, 113, false), (1, 115, false), (2, 100, false)] w := by kernel_rfl
def shape9 : List UInt8 := [12, 6, 0, 0, 0, 0, 0, 0, 0, 115, 116, 114, 105, 110, 103]
def shape3 : List UInt8 := [5, 3, 0, 0, 0, 0, 0, 0, 0, 105, 110, 116]
def shape5 : List UInt8 := [6, 5, 0, 0, 0, 0, 0, 0, 0, 117, 105, 110, 116, 56]
theorem op9_115w (name : String) (x : ByteArray) (w : World) : (FmtStop.operand name true 115 false (.iface 9 (.string x))).run Tryf.prog w = .ok (shape9, FmtStop.pack x.data.toList) w := by kernel_rfl
theorem op3_100w (name : String) (x : Int) (w : World) : (FmtStop.operand name true 100 false (.iface 3 (.int .i64 x))).run Tryf.prog w = .ok (shape3, Go.Extern.Stop.digits 8 (x % 2 ^ 64).toNat) w := by kernel_rfl
theorem op5_113w (name : String) (x : Int) (w : World) : (FmtStop.operand name true 113 false (.iface 5 (.int .u8 x))).run Tryf.prog w = .ok (shape5, Go.Extern.Stop.digits 8 (x % 2 ^ 64).toNat) w := by kernel_rfl
theorem ptr39 (w : World) : (FmtStop.ptrTo "errors.errorString").run Tryf.prog w = .ok 39 w := by kernel_rfl
theorem elem39 (w : World) : (elemOf 39).run Tryf.prog w = .ok 41 w := by kernel_rfl
theorem isError39 (w : World) : (FmtDoors.textMethod 39 "Error").run Tryf.prog w = .ok true w := by kernel_rfl
attribute [local go_sem] call12 guardF fmt0 fmt0r fmt1 fmt1r op9_115w op3_100w op5_113w ptr39 elem39 isError39

/-- A new error comes back; what was there is as it was. -/
structure NewErr (w : World) (e : Ending) (w' : World) : Prop where
  ret : e = .returned (.iface 39 (.pointer (some ⟨w.heap.size, 0, none⟩)))
  below : Below w.heap.size w w'

set_option maxHeartbeats 400000 in
theorem errorf1 (blk : Nat) (s : ByteArray) (w : World) (hc : w.cell? ⟨blk, 0, none⟩ = some (.iface 9 (.string s))) :
    Calls Tryf.prog 11 #[.string ⟨#[117, 110, 101, 120, 112, 101, 99, 116, 101, 100, 32, 101, 110, 100, 32, 111, 102, 32, 74, 83, 79, 78, 32, 105, 110, 112, 117, 116, 32, 37, 115]⟩, .slice (some ⟨blk, 0, none⟩) 1 1] w (NewErr w) := by
  go_enter Tryf.func11, Tryf.ntmps11
  go_wp2
  go_ret
  exact ⟨rfl, ((Below.refl _ _).alloc (Nat.le_refl _) _).drew⟩

set_option maxHeartbeats 400000 in
theorem errorf3 (blk : Nat) (x y : Int) (s : ByteArray) (w : World) (hc0 : w.cell? ⟨blk, 0, none⟩ = some (.iface 5 (.int .u8 x))) (hc1 : w.cell? ⟨blk, 1, none⟩ = some (.iface 9 (.string s))) (hc2 : w.cell? ⟨blk, 2, none⟩ = some (.iface 3 (.int .i64 y))) :
    Calls Tryf.prog 11 #[.string ⟨#[105, 110, 118, 97, 108, 105, 100, 32, 99, 104, 97, 114, 97, 99, 116, 101, 114, 32, 37, 113, 32, 37, 115, 44, 32, 97, 116, 32, 111, 102, 102, 115, 101, 116, 32, 37, 100]⟩, .slice (some ⟨blk, 0, none⟩) 3 3] w (NewErr w) := by
  go_enter Tryf.func11, Tryf.ntmps11
  go_wp2
  go_ret
  exact ⟨rfl, ((Below.refl _ _).alloc (Nat.le_refl _) _).drew⟩

theorem cellN (w : World) (c : Array Value) (e : Nat) (v : Value) (j : Nat) (h : c[j]? = some v) : (w.alloc (.cells c e)).cell? ⟨w.heap.size, j, none⟩ = some v := by
  unfold World.cell?
  rw [show (w.alloc (.cells c e)).heap[w.heap.size]? = some (.cells c e) from by show (w.heap.push _)[w.heap.size]? = _; simp]
  exact h

/-- fail answers an error that is not nil. -/
structure Fails (w : World) (e : Ending) (w' : World) : Prop where
  ret : ∃ p, e = .returned (.iface 39 (.pointer (some p)))
  below : Below w.heap.size w w'

set_option maxHeartbeats 400000 in
theorem fail_any (R T cap : Nat) (l : List UInt8) (i : Nat) (s : ByteArray) (w : World) (hd : Dec w R T cap l i) (hi : i ≤ l.length) (_hn : l.length ≤ 2097152) :
    Calls Tryf.prog 10 #[.pointer (some ⟨R, 0, none⟩), .string s] w (Fails w) := by
  have HD : Hid (Dec w R T cap l i) := hd
  obtain ⟨c0, c1, fz⟩ := hd.facts
  have hRl := hd.lt
  clear hd
  by_cases hlt : i < l.length
  · have ct := HD.out.txt i hlt
    have hTl : T < w.heap.size := World.block_lt_of_cell? w _ ct
    generalize l.getD i 0 = c at ct
    have H3 : Hid (∀ n, Calls Tryf.prog 11 #[.string ⟨#[105, 110, 118, 97, 108, 105, 100, 32, 99, 104, 97, 114, 97, 99, 116, 101, 114, 32, 37, 113, 32, 37, 115, 44, 32, 97, 116, 32, 111, 102, 102, 115, 101, 116, 32, 37, 100]⟩, .slice (some ⟨w.heap.size, 0, none⟩) 3 3] ((w.drewN n).alloc (.cells #[.iface 5 (.int .u8 (c.toNat : Int)), .iface 9 (.string s), .iface 3 (.int .i64 (i : Int))] 20)) (NewErr ((w.drewN n).alloc (.cells #[.iface 5 (.int .u8 (c.toNat : Int)), .iface 9 (.string s), .iface 3 (.int .i64 (i : Int))] 20)))) :=
      fun n => errorf3 w.heap.size (c.toNat : Int) (i : Int) s _ (cellN (w.drewN n) _ 20 _ 0 rfl) (cellN (w.drewN n) _ 20 _ 1 rfl) (cellN (w.drewN n) _ 20 _ 2 rfl)
    go_enter Tryf.func10, Tryf.ntmps10
    go_wp2_with fail
    go_quiet (fail)
    go_wp2_with fail
    go_region_held3 (fun w' => w'.cell? ⟨R, 0, none⟩ = some (.slice (some ⟨T, 0, none⟩) l.length cap) ∧ w'.cell? ⟨R, 1, none⟩ = some (.int .i64 (i : Int)) ∧ w'.cell? ⟨T, i, none⟩ = some (.int .u8 (c.toNat : Int))) (go_keep) (first | (go_at_call 11; refine Calls.mono (H3.out _) ?_; rintro e w1 ⟨rfl, hb⟩; have q0 := hb.cell (p := ⟨R, 0, none⟩) (by simp; omega); have q1 := hb.cell (p := ⟨R, 1, none⟩) (by simp; omega); have q2 := hb.cell (p := ⟨T, i, none⟩) (by simp; omega); have HB1 : Hid _ := hb; clear hb))
    all_goals go_wp2
    all_goals go_ret
    all_goals exact ⟨⟨_, rfl⟩, ((below_drewN _ _).alloc (Nat.le_refl _) _).trans (HB1.out.mono (by simp))⟩
  · have H1 : Hid (∀ n, Calls Tryf.prog 11 #[.string ⟨#[117, 110, 101, 120, 112, 101, 99, 116, 101, 100, 32, 101, 110, 100, 32, 111, 102, 32, 74, 83, 79, 78, 32, 105, 110, 112, 117, 116, 32, 37, 115]⟩, .slice (some ⟨w.heap.size, 0, none⟩) 1 1] ((w.drewN n).alloc (.cells #[.iface 9 (.string s)] 20)) (NewErr ((w.drewN n).alloc (.cells #[.iface 9 (.string s)] 20)))) :=
      fun n => errorf1 w.heap.size s _ (cellN (w.drewN n) _ 20 _ 0 rfl)
    go_enter Tryf.func10, Tryf.ntmps10
    go_wp2_with fail
    go_quiet (fail)
    go_wp2_with fail
    refine Calls.mono (H1.out _) ?_
    rintro e w' ⟨rfl, hb⟩
    go_wp2
    go_ret
    exact ⟨⟨_, rfl⟩, ((below_drewN _ _).alloc (Nat.le_refl _) _).trans (hb.mono (by simp))⟩
end Go.Proofs.Qxb6614489aFmt
