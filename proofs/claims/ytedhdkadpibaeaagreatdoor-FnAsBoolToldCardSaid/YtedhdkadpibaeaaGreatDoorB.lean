/- Walks: floats: noFloat, IsNaN, IsInf. -/
import Derived.Test.YtedhdkadpibaeaaGreatDoorA
namespace Go.Proofs.YtedhdkadpibaeaaGreatDoor
open Go.RowKit
set_option linter.unusedVariables false

theorem find_bits : Extern.find Tryz.f30 = some Extern.MathFloatBits.float64bits := by kernel_rfl
theorem find_frombits : Extern.find Tryz.f51 = some Extern.MathFloatBits.float64frombits := by kernel_rfl
theorem call_bits (b : Nat) (w : World) : (callFunc 30 #[.float .f64 b]).run Tryz.prog w = .ok (.value (.int .u64 b)) w := by
  rw [run_callFunc_extern Tryz.func30 (by kernel_rfl) (by kernel_rfl) (by kernel_rfl) find_bits]
  rfl
theorem call_frombits (n : Int) (w : World) : (callFunc 51 #[.int .u64 n]).run Tryz.prog w = .ok (.value (.float .f64 n.toNat)) w := by
  rw [run_callFunc_extern Tryz.func51 (by kernel_rfl) (by kernel_rfl) (by kernel_rfl) find_frombits]
  rfl

theorem ret_bool {a b : Bool} (h : a = b) : Ending.returned (.bool a) = .returned (.bool b) := by rw [h]

set_option maxHeartbeats 400000 in
theorem noFloat_any (b : Nat) (w : World) :
    Calls Tryz.prog 22 #[.float .f64 b] w fun e w' => e = .returned (.bool (b == 0)) ∧ w = w' := by
  have hc := call_bits
  go_enter Tryz.func22, Tryz.ntmps22
  go_wp2
  go_ret
  exact ⟨ret_bool (by rw [Bool.eq_iff_iff]; simp only [beq_iff_eq]; omega), rfl⟩

def nanB (b : Nat) : Bool := FloatKind.f64.format.order b b != some Ordering.eq

set_option maxHeartbeats 400000 in
theorem isNaN_any (b : Nat) (w : World) :
    Calls Tryz.prog 27 #[.float .f64 b] w fun e w' => e = .returned (.bool (nanB b)) ∧ w = w' := by
  go_enter Tryz.func27, Tryz.ntmps27
  go_wp2
  go_ret
  exact ⟨rfl, rfl⟩

def infB (b : Nat) : Bool := FloatKind.f64.format.order (bits BinOp.andNot IntKind.u64 (↑b) 9223372036854775808).toNat 9218868437227405311 == some Ordering.gt

set_option maxHeartbeats 400000 in
theorem isInf_any (b : Nat) (w : World) :
    Calls Tryz.prog 28 #[.float .f64 b, .int .i64 0] w fun e w' => e = .returned (.bool (infB b)) ∧ w = w' := by
  have hc := call_bits
  have hd := call_frombits
  go_enter Tryz.func28, Tryz.ntmps28
  go_wp2
  go_ret
  exact ⟨rfl, rfl⟩
end Go.Proofs.YtedhdkadpibaeaaGreatDoor
