/-
  fmt.Errorf at the one format of Enter: a new error, not nil, in one new block.
-/
import Derived.Test.Qxb6613733aFmtKeys
import Derived.Stop.CallBack
import Derived.Stop.IfaceNil
import GoSem.ClaimData
namespace Go.Proofs.Qxb6613733aFmt
open Go.RowKit Go.Extern.Stop Go.Stop Go.Extern

theorem call11 (args : Array Value) (w : World) : (callFunc 11 args).run Tryf.prog w = ((FmtStop.errorf #[9, 48] #[27] args).run Tryf.prog w).andThen fun v w' => .ok (.value v) w' :=
  run_callFunc_extern Tryf.func11 (by kernel_rfl) (by kernel_rfl) (by kernel_rfl) (by kernel_rfl) args w
theorem guardF (name : String) (w : World) : (FmtStop.guard name).run Tryf.prog w = .ok () w := by kernel_rfl
def fmtB : ByteArray := ⟨#[105, 116, 115, 32, 97, 108, 105, 97, 115, 101, 115, 32, 114, 101, 112, 101, 97, 116, 32, 109, 111, 114, 101, 32, 116, 104, 97, 110, 32, 37, 100, 32, 118, 97, 108, 117, 101, 115]⟩
theorem fmt0 : FmtStop.printed? ⟨#[105, 116, 115, 32, 97, 108, 105, 97, 115, 101, 115, 32, 114, 101, 112, 101, 97, 116, 32, 109, 111, 114, 101, 32, 116, 104, 97, 110, 32, 37, 100, 32, 118, 97, 108, 117, 101, 115]⟩ 1 = some [(0, 100, false)] := by kernel_rfl
theorem fmt0r (w : World) : (FmtDoors.printed ⟨#[105, 116, 115, 32, 97, 108, 105, 97, 115, 101, 115, 32, 114, 101, 112, 101, 97, 116, 32, 109, 111, 114, 101, 32, 116, 104, 97, 110, 32, 37, 100, 32, 118, 97, 108, 117, 101, 115]⟩ 1).run Tryf.prog w = .ok [(0, 100, false)] w := by kernel_rfl
def shape3 : List UInt8 := [5, 3, 0, 0, 0, 0, 0, 0, 0, 105, 110, 116]
theorem op3_118 (name : String) (x : Int) (w : World) : (FmtStop.operand name false 118 false (.iface 3 (.int .i64 x))).run Tryf.prog w = .ok (shape3, Go.Extern.Stop.digits 8 (x % 2 ^ 64).toNat) w := by kernel_rfl
theorem op3_100 (name : String) (x : Int) (w : World) : (FmtStop.operand name false 100 false (.iface 3 (.int .i64 x))).run Tryf.prog w = .ok (shape3, Go.Extern.Stop.digits 8 (x % 2 ^ 64).toNat) w := by kernel_rfl
theorem op3_118w (name : String) (x : Int) (w : World) : (FmtStop.operand name true 118 false (.iface 3 (.int .i64 x))).run Tryf.prog w = .ok (shape3, Go.Extern.Stop.digits 8 (x % 2 ^ 64).toNat) w := by kernel_rfl
theorem op3_100w (name : String) (x : Int) (w : World) : (FmtStop.operand name true 100 false (.iface 3 (.int .i64 x))).run Tryf.prog w = .ok (shape3, Go.Extern.Stop.digits 8 (x % 2 ^ 64).toNat) w := by kernel_rfl
theorem ptr51 (w : World) : (FmtStop.ptrTo "errors.errorString").run Tryf.prog w = .ok 51 w := by kernel_rfl
theorem elem51 (w : World) : (elemOf 51).run Tryf.prog w = .ok 53 w := by kernel_rfl
theorem isError51 (w : World) : (FmtDoors.textMethod 51 "Error").run Tryf.prog w = .ok true w := by kernel_rfl
attribute [local go_sem] call11 guardF fmt0 fmt0r op3_118 op3_100 op3_118w op3_100w ptr51 elem51 isError51

set_option maxHeartbeats 400000 in
theorem errorf_any (blk : Nat) (x : Int) (w : World) (hc : w.cell? ⟨blk, 0, none⟩ = some (.iface 3 (.int .i64 x))) :
    Calls Tryf.prog 10 #[.string ⟨#[105, 116, 115, 32, 97, 108, 105, 97, 115, 101, 115, 32, 114, 101, 112, 101, 97, 116, 32, 109, 111, 114, 101, 32, 116, 104, 97, 110, 32, 37, 100, 32, 118, 97, 108, 117, 101, 115]⟩, .slice (some ⟨blk, 0, none⟩) 1 1] w fun e w' =>
      e = .returned (.iface 51 (.pointer (some ⟨w.heap.size, 0, none⟩))) ∧ Below w.heap.size w w' := by
  go_enter Tryf.func10, Tryf.ntmps10
  go_wp2
  go_ret
  exact ⟨rfl, ((Below.refl _ _).alloc (Nat.le_refl _) _).drew⟩

end Go.Proofs.Qxb6613733aFmt
