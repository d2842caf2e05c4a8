/- Type assertions with comma-ok to types that are no interfaces. -/
import Derived.Test.YtedhdkadpibaeaaGreatDoorK
namespace Go.Proofs.YtedhdkadpibaeaaGreatDoor
open Go.RowKit
set_option linter.unusedVariables false

section
variable {P : Program}
/-- whether a type is one with methods to be had -/
def noIface (u : TypeDesc) : Bool := match u with | .interface _ => false | _ => true
theorem run_ta_iface (t a xT : TypeId) (v z : Value) (w : World) (u : TypeDesc) (hu : P.underlying a = some u) (hni : noIface u = true) (hz : (zeroValue a).run P w = .ok z w) :
    (Instr.typeAssert (.iface t v) xT a true).run P w = if t = a then .ok (.tuple #[v, .bool true]) w else .ok (.tuple #[z, .bool false]) w := by
  by_cases h : t = a
  · cases u <;> simp [noIface] at hni <;> simp [Instr.typeAssert, run_underlying hu, h, Result.andThen]
  · cases u <;> simp [noIface] at hni <;> simp [Instr.typeAssert, run_underlying hu, h, hz, Result.andThen]
end

@[go_sem] theorem Tryz.ta_nil_1 (xT : TypeId) (w : World) : (Instr.typeAssert .nilIface xT 2 true).run Tryz.prog w = .ok (.tuple #[.int .i64 0, .bool false]) w := by kernel_rfl
@[go_sem] theorem Tryz.ta_iface_1 (t xT : TypeId) (v : Value) (w : World) : (Instr.typeAssert (.iface t v) xT 2 true).run Tryz.prog w = if t = 2 then .ok (.tuple #[v, .bool true]) w else .ok (.tuple #[.int .i64 0, .bool false]) w :=
  run_ta_iface t _ xT v _ w _ Tryz.underlying2 rfl (by kernel_rfl)

@[go_sem] theorem Tryz.ta_nil_2 (xT : TypeId) (w : World) : (Instr.typeAssert .nilIface xT 3 true).run Tryz.prog w = .ok (.tuple #[.int .i64 0, .bool false]) w := by kernel_rfl
@[go_sem] theorem Tryz.ta_iface_2 (t xT : TypeId) (v : Value) (w : World) : (Instr.typeAssert (.iface t v) xT 3 true).run Tryz.prog w = if t = 3 then .ok (.tuple #[v, .bool true]) w else .ok (.tuple #[.int .i64 0, .bool false]) w :=
  run_ta_iface t _ xT v _ w _ Tryz.underlying3 rfl (by kernel_rfl)

@[go_sem] theorem Tryz.ta_nil_3 (xT : TypeId) (w : World) : (Instr.typeAssert .nilIface xT 64 true).run Tryz.prog w = .ok (.tuple #[.int .i8 0, .bool false]) w := by kernel_rfl
@[go_sem] theorem Tryz.ta_iface_3 (t xT : TypeId) (v : Value) (w : World) : (Instr.typeAssert (.iface t v) xT 64 true).run Tryz.prog w = if t = 64 then .ok (.tuple #[v, .bool true]) w else .ok (.tuple #[.int .i8 0, .bool false]) w :=
  run_ta_iface t _ xT v _ w _ Tryz.underlying64 rfl (by kernel_rfl)

@[go_sem] theorem Tryz.ta_nil_4 (xT : TypeId) (w : World) : (Instr.typeAssert .nilIface xT 65 true).run Tryz.prog w = .ok (.tuple #[.int .i16 0, .bool false]) w := by kernel_rfl
@[go_sem] theorem Tryz.ta_iface_4 (t xT : TypeId) (v : Value) (w : World) : (Instr.typeAssert (.iface t v) xT 65 true).run Tryz.prog w = if t = 65 then .ok (.tuple #[v, .bool true]) w else .ok (.tuple #[.int .i16 0, .bool false]) w :=
  run_ta_iface t _ xT v _ w _ Tryz.underlying65 rfl (by kernel_rfl)

@[go_sem] theorem Tryz.ta_nil_5 (xT : TypeId) (w : World) : (Instr.typeAssert .nilIface xT 21 true).run Tryz.prog w = .ok (.tuple #[.int .i32 0, .bool false]) w := by kernel_rfl
@[go_sem] theorem Tryz.ta_iface_5 (t xT : TypeId) (v : Value) (w : World) : (Instr.typeAssert (.iface t v) xT 21 true).run Tryz.prog w = if t = 21 then .ok (.tuple #[v, .bool true]) w else .ok (.tuple #[.int .i32 0, .bool false]) w :=
  run_ta_iface t _ xT v _ w _ Tryz.underlying21 rfl (by kernel_rfl)

@[go_sem] theorem Tryz.ta_nil_6 (xT : TypeId) (w : World) : (Instr.typeAssert .nilIface xT 66 true).run Tryz.prog w = .ok (.tuple #[.int .u64 0, .bool false]) w := by kernel_rfl
@[go_sem] theorem Tryz.ta_iface_6 (t xT : TypeId) (v : Value) (w : World) : (Instr.typeAssert (.iface t v) xT 66 true).run Tryz.prog w = if t = 66 then .ok (.tuple #[v, .bool true]) w else .ok (.tuple #[.int .u64 0, .bool false]) w :=
  run_ta_iface t _ xT v _ w _ Tryz.underlying66 rfl (by kernel_rfl)

@[go_sem] theorem Tryz.ta_nil_7 (xT : TypeId) (w : World) : (Instr.typeAssert .nilIface xT 5 true).run Tryz.prog w = .ok (.tuple #[.int .u8 0, .bool false]) w := by kernel_rfl
@[go_sem] theorem Tryz.ta_iface_7 (t xT : TypeId) (v : Value) (w : World) : (Instr.typeAssert (.iface t v) xT 5 true).run Tryz.prog w = if t = 5 then .ok (.tuple #[v, .bool true]) w else .ok (.tuple #[.int .u8 0, .bool false]) w :=
  run_ta_iface t _ xT v _ w _ Tryz.underlying5 rfl (by kernel_rfl)

@[go_sem] theorem Tryz.ta_nil_8 (xT : TypeId) (w : World) : (Instr.typeAssert .nilIface xT 67 true).run Tryz.prog w = .ok (.tuple #[.int .u16 0, .bool false]) w := by kernel_rfl
@[go_sem] theorem Tryz.ta_iface_8 (t xT : TypeId) (v : Value) (w : World) : (Instr.typeAssert (.iface t v) xT 67 true).run Tryz.prog w = if t = 67 then .ok (.tuple #[v, .bool true]) w else .ok (.tuple #[.int .u16 0, .bool false]) w :=
  run_ta_iface t _ xT v _ w _ Tryz.underlying67 rfl (by kernel_rfl)

@[go_sem] theorem Tryz.ta_nil_9 (xT : TypeId) (w : World) : (Instr.typeAssert .nilIface xT 68 true).run Tryz.prog w = .ok (.tuple #[.int .u32 0, .bool false]) w := by kernel_rfl
@[go_sem] theorem Tryz.ta_iface_9 (t xT : TypeId) (v : Value) (w : World) : (Instr.typeAssert (.iface t v) xT 68 true).run Tryz.prog w = if t = 68 then .ok (.tuple #[v, .bool true]) w else .ok (.tuple #[.int .u32 0, .bool false]) w :=
  run_ta_iface t _ xT v _ w _ Tryz.underlying68 rfl (by kernel_rfl)

@[go_sem] theorem Tryz.ta_nil_10 (xT : TypeId) (w : World) : (Instr.typeAssert .nilIface xT 56 true).run Tryz.prog w = .ok (.tuple #[.int .u64 0, .bool false]) w := by kernel_rfl
@[go_sem] theorem Tryz.ta_iface_10 (t xT : TypeId) (v : Value) (w : World) : (Instr.typeAssert (.iface t v) xT 56 true).run Tryz.prog w = if t = 56 then .ok (.tuple #[v, .bool true]) w else .ok (.tuple #[.int .u64 0, .bool false]) w :=
  run_ta_iface t _ xT v _ w _ Tryz.underlying56 rfl (by kernel_rfl)

@[go_sem] theorem Tryz.ta_nil_11 (xT : TypeId) (w : World) : (Instr.typeAssert .nilIface xT 69 true).run Tryz.prog w = .ok (.tuple #[.float .f32 0, .bool false]) w := by kernel_rfl
@[go_sem] theorem Tryz.ta_iface_11 (t xT : TypeId) (v : Value) (w : World) : (Instr.typeAssert (.iface t v) xT 69 true).run Tryz.prog w = if t = 69 then .ok (.tuple #[v, .bool true]) w else .ok (.tuple #[.float .f32 0, .bool false]) w :=
  run_ta_iface t _ xT v _ w _ Tryz.underlying69 rfl (by kernel_rfl)

@[go_sem] theorem Tryz.ta_nil_12 (xT : TypeId) (w : World) : (Instr.typeAssert .nilIface xT 22 true).run Tryz.prog w = .ok (.tuple #[.float .f64 0, .bool false]) w := by kernel_rfl
@[go_sem] theorem Tryz.ta_iface_12 (t xT : TypeId) (v : Value) (w : World) : (Instr.typeAssert (.iface t v) xT 22 true).run Tryz.prog w = if t = 22 then .ok (.tuple #[v, .bool true]) w else .ok (.tuple #[.float .f64 0, .bool false]) w :=
  run_ta_iface t _ xT v _ w _ Tryz.underlying22 rfl (by kernel_rfl)

@[go_sem] theorem Tryz.ta_nil_13 (xT : TypeId) (w : World) : (Instr.typeAssert .nilIface xT 4 true).run Tryz.prog w = .ok (.tuple #[.bool false, .bool false]) w := by kernel_rfl
@[go_sem] theorem Tryz.ta_iface_13 (t xT : TypeId) (v : Value) (w : World) : (Instr.typeAssert (.iface t v) xT 4 true).run Tryz.prog w = if t = 4 then .ok (.tuple #[v, .bool true]) w else .ok (.tuple #[.bool false, .bool false]) w :=
  run_ta_iface t _ xT v _ w _ Tryz.underlying4 rfl (by kernel_rfl)

@[go_sem] theorem Tryz.ta_nil_14 (xT : TypeId) (w : World) : (Instr.typeAssert .nilIface xT 9 true).run Tryz.prog w = .ok (.tuple #[.string ByteArray.empty, .bool false]) w := by kernel_rfl
@[go_sem] theorem Tryz.ta_iface_14 (t xT : TypeId) (v : Value) (w : World) : (Instr.typeAssert (.iface t v) xT 9 true).run Tryz.prog w = if t = 9 then .ok (.tuple #[v, .bool true]) w else .ok (.tuple #[.string ByteArray.empty, .bool false]) w :=
  run_ta_iface t _ xT v _ w _ Tryz.underlying9 rfl (by kernel_rfl)

@[go_sem] theorem Tryz.ta_nil_15 (xT : TypeId) (w : World) : (Instr.typeAssert .nilIface xT 50 true).run Tryz.prog w = .ok (.tuple #[.slice none 0 0, .bool false]) w := by kernel_rfl
@[go_sem] theorem Tryz.ta_iface_15 (t xT : TypeId) (v : Value) (w : World) : (Instr.typeAssert (.iface t v) xT 50 true).run Tryz.prog w = if t = 50 then .ok (.tuple #[v, .bool true]) w else .ok (.tuple #[.slice none 0 0, .bool false]) w :=
  run_ta_iface t _ xT v _ w _ Tryz.underlying50 rfl (by kernel_rfl)

@[go_sem] theorem Tryz.ta_nil_16 (xT : TypeId) (w : World) : (Instr.typeAssert .nilIface xT 51 true).run Tryz.prog w = .ok (.tuple #[.map none, .bool false]) w := by kernel_rfl
@[go_sem] theorem Tryz.ta_iface_16 (t xT : TypeId) (v : Value) (w : World) : (Instr.typeAssert (.iface t v) xT 51 true).run Tryz.prog w = if t = 51 then .ok (.tuple #[v, .bool true]) w else .ok (.tuple #[.map none, .bool false]) w :=
  run_ta_iface t _ xT v _ w _ Tryz.underlying51 rfl (by kernel_rfl)

@[go_sem] theorem Tryz.ta_nil_17 (xT : TypeId) (w : World) : (Instr.typeAssert .nilIface xT 76 true).run Tryz.prog w = .ok (.tuple #[.int .i64 0, .bool false]) w := by kernel_rfl
@[go_sem] theorem Tryz.ta_iface_17 (t xT : TypeId) (v : Value) (w : World) : (Instr.typeAssert (.iface t v) xT 76 true).run Tryz.prog w = if t = 76 then .ok (.tuple #[v, .bool true]) w else .ok (.tuple #[.int .i64 0, .bool false]) w :=
  run_ta_iface t _ xT v _ w _ Tryz.underlying76 rfl (by kernel_rfl)

@[go_sem] theorem Tryz.ta_nil_18 (xT : TypeId) (w : World) : (Instr.typeAssert .nilIface xT 77 true).run Tryz.prog w = .ok (.tuple #[.float .f64 0, .bool false]) w := by kernel_rfl
@[go_sem] theorem Tryz.ta_iface_18 (t xT : TypeId) (v : Value) (w : World) : (Instr.typeAssert (.iface t v) xT 77 true).run Tryz.prog w = if t = 77 then .ok (.tuple #[v, .bool true]) w else .ok (.tuple #[.float .f64 0, .bool false]) w :=
  run_ta_iface t _ xT v _ w _ Tryz.underlying77 rfl (by kernel_rfl)
theorem Ext.drew {a w : World} (h : Ext a w) : Ext a w.drew := Below.drew h
end Go.Proofs.YtedhdkadpibaeaaGreatDoor
