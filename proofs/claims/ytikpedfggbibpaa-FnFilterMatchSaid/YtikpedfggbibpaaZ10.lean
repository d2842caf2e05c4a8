/- Walks: light, plainData. Type assertions with comma-ok to types that are no interfaces. Walks: asInt. -/
import Derived.Test.YtikpedfggbibpaaZ09
namespace Go.Proofs.Ytikpedfggbibpaa
open Go.RowKit
set_option linter.unusedVariables false

theorem wt_pos (x : V) : 0 < x.wt := by cases x; unfold V.wt; omega

def LightPost (x : V) (most : Int) (w : World) (e : Ending) (w' : World) : Prop :=
  ∃ b : Bool, e = .returned (.bool b) ∧ (b = true → ∃ j, x = V.ofJ j ∧ j.ok ∧ (NoKind 4 x → j.nofl) ∧ (x.wt : Int) ≤ most) ∧ Ext w w'

set_option maxHeartbeats 1000000 in
theorem light_any (x : V) (v : Value) (w : World) (most : Int) (h : RV w x v) (h0 : 0 ≤ most) (h1 : most ≤ 1000) :
    Calls Try.prog 33 #[v, .int .i64 most] w (LightPost x most w) := by
  have hsh : ∃ k n f s al ll lc ak kl kc, v = .agg #[.int .i64 k, .int .i64 n, .float .f64 f, .string s, .slice al ll lc, .slice ak kl kc] := by
    cases x; unfold RV at h; obtain ⟨al, lc, ak, kc, e, _⟩ := h; exact ⟨_, _, _, _, _, _, _, _, _, _, e⟩
  obtain ⟨k, n, f, s, al, ll, lc, ak, kl, kc, rfl⟩ := hsh
  have HR := Lib.hid h
  clear h
  have H1 : Hid (∀ (w1 : World), Ext w w1 → Calls Try.prog 74 #[.agg #[.int .i64 k, .int .i64 n, .float .f64 f, .string s, .slice al ll lc, .slice ak kl kc], .int .i64 most] w1 (WtPost x most w1)) :=
    fun w1 he => weight_any x.nodes x (Nat.le_refl _) _ w1 most (HR.out.keep he.keep) h0 h1
  have H2 : Hid (∀ (w1 : World), Ext w w1 → Calls Try.prog 75 #[.agg #[.int .i64 k, .int .i64 n, .float .f64 f, .string s, .slice al ll lc, .slice ak kl kc]] w1 (CleanPost x w1)) :=
    fun w1 he => cleanValue_any x.nodes x (Nat.le_refl _) _ w1 (HR.out.keep he.keep)
  have H3 : Hid (∀ (w1 : World), Ext w w1 → Calls Try.prog 76 #[.agg #[.int .i64 k, .int .i64 n, .float .f64 f, .string s, .slice al ll lc, .slice ak kl kc]] w1 (WholePost x w1)) :=
    fun w1 he => whole_any x.nodes x (Nat.le_refl _) _ w1 (HR.out.keep he.keep)
  have H4 : Hid (∀ (w1 : World), Ext w w1 → Calls Try.prog 17 #[.agg #[.int .i64 k, .int .i64 n, .float .f64 f, .string s, .slice al ll lc, .slice ak kl kc], .int .i64 6] w1 (HoldsPost 6 x w1)) :=
    fun w1 he => holds_any 6 x.nodes x (Nat.le_refl _) _ w1 (HR.out.keep he.keep)
  have hsz : ∀ w1 : World, Ext w w1 → w.heap.size ≤ w1.heap.size := fun w1 h => h.size
  clear HR
  go_enter Try.func33, Try.ntmps33
  go_wp2_with (go_at_call 74; refine (H1.out _ ((Ext.refl _).alloc _)).mono ?_; rintro e w2 ⟨r, rfl, r1, r2, r3, hb2⟩; obtain ⟨b0, b1, b2, b3, b4, b5⟩ := box_cells (hb2.mono (by simp)); have R3 := Lib.hid r3; have B2 : Hid (Ext w w2) := ((Ext.refl w).alloc _).trans hb2; clear r3 hb2; by_cases hr : r < 0)
  · clear H1 H2 H3 H4
    go_wp2
    go_ret
    exact ⟨false, rfl, fun h => (by cases h), B2.out⟩
  clear H1
  go_wp2_with (go_at_call 75; refine (H2.out _ B2.out).mono ?_; rintro e w3 ⟨b, rfl, hcl, hb3⟩; have KK : Keep w2 w3 := hb3.keep; have b0 := KK _ _ b0; have b1 := KK _ _ b1; have b2 := KK _ _ b2; have b3 := KK _ _ b3; have b4 := KK _ _ b4; have b5 := KK _ _ b5; have HCL := Lib.hid hcl; have B3 : Hid (Ext w w3) := B2.out.trans hb3; clear hcl hb3 KK B2; cases b)
  · clear H2 H3 H4
    go_wp2
    go_ret
    exact ⟨false, rfl, fun h => (by cases h), B3.out⟩
  clear H2
  go_wp2_with (go_at_call 76; refine (H3.out _ B3.out).mono ?_; rintro e w4 ⟨b, rfl, hwl, hb4⟩; have KK : Keep w3 w4 := hb4.keep; have b0 := KK _ _ b0; have b1 := KK _ _ b1; have b2 := KK _ _ b2; have b3 := KK _ _ b3; have b4 := KK _ _ b4; have b5 := KK _ _ b5; have HWL := Lib.hid hwl; have B4 : Hid (Ext w w4) := B3.out.trans hb4; clear hwl hb4 KK B3; cases b)
  · clear H3 H4
    go_wp2
    go_ret
    exact ⟨false, rfl, fun h => (by cases h), B4.out⟩
  clear H3
  go_wp2_with (go_at_call 17; refine (H4.out _ B4.out).mono ?_; rintro e w5 ⟨b, rfl, hno, hb5⟩; have HNO := Lib.hid hno; have B5 : Hid (Ext w w5) := B4.out.trans hb5; clear hno hb5 B4; cases b)
  · go_wp2
    go_ret
    refine ⟨true, rfl, fun _ => ?_, B5.out⟩
    obtain ⟨j, e1, e2, e3⟩ := V.toJ x (HCL.out (by first | rfl | trivial)) (HWL.out (by first | rfl | trivial)) (HNO.out (by first | rfl | trivial))
    exact ⟨j, e1, e2, e3, by have := R3.out (by omega); omega⟩
  · go_wp2
    go_ret
    exact ⟨false, rfl, fun h => (by cases h), B5.out⟩

def DataPost (x : V) (w : World) (e : Ending) (w' : World) : Prop :=
  ∃ b : Bool, e = .returned (.bool b) ∧ (b = true → ∃ j, x = V.ofJ j ∧ j.ok ∧ j.nofl ∧ (x.wt : Int) ≤ 150) ∧ Ext w w'

set_option maxHeartbeats 1000000 in
theorem plainData_any (x : V) (v : Value) (w : World) (h : RV w x v) :
    Calls Try.prog 8 #[v] w (DataPost x w) := by
  have hsh : ∃ k n f s al ll lc ak kl kc, v = .agg #[.int .i64 k, .int .i64 n, .float .f64 f, .string s, .slice al ll lc, .slice ak kl kc] := by
    cases x; unfold RV at h; obtain ⟨al, lc, ak, kc, e, _⟩ := h; exact ⟨_, _, _, _, _, _, _, _, _, _, e⟩
  obtain ⟨k, n, f, s, al, ll, lc, ak, kl, kc, rfl⟩ := hsh
  have HR := Lib.hid h
  clear h
  have H1 : Hid (∀ (w1 : World), Ext w w1 → Calls Try.prog 33 #[.agg #[.int .i64 k, .int .i64 n, .float .f64 f, .string s, .slice al ll lc, .slice ak kl kc], .int .i64 150] w1 (LightPost x 150 w1)) :=
    fun w1 he => light_any x _ w1 150 (HR.out.keep he.keep) (by omega) (by omega)
  have H4 : Hid (∀ (w1 : World), Ext w w1 → Calls Try.prog 17 #[.agg #[.int .i64 k, .int .i64 n, .float .f64 f, .string s, .slice al ll lc, .slice ak kl kc], .int .i64 4] w1 (HoldsPost 4 x w1)) :=
    fun w1 he => holds_any 4 x.nodes x (Nat.le_refl _) _ w1 (HR.out.keep he.keep)
  clear HR
  go_enter Try.func8, Try.ntmps8
  go_wp2_with (go_at_call 33; refine (H1.out _ ((Ext.refl _).alloc _)).mono ?_; rintro e w2 ⟨b, rfl, r3, hb2⟩; obtain ⟨b0, b1, b2, b3, b4, b5⟩ := box_cells (hb2.mono (by simp)); have R3 := Lib.hid r3; have B2 : Hid (Ext w w2) := ((Ext.refl w).alloc _).trans hb2; clear r3 hb2; cases b)
  · clear H1 H4
    go_wp2
    go_ret
    exact ⟨false, rfl, fun h => (by cases h), B2.out⟩
  clear H1
  go_wp2_with (go_at_call 17; refine (H4.out _ B2.out).mono ?_; rintro e w5 ⟨b, rfl, hno, hb5⟩; have HNO := Lib.hid hno; have B5 : Hid (Ext w w5) := B2.out.trans hb5; clear hno hb5 B2; cases b)
  · go_wp2
    go_ret
    refine ⟨true, rfl, fun _ => ?_, B5.out⟩
    obtain ⟨j, e1, e2, e3, e4⟩ := R3.out (by first | rfl | trivial)
    exact ⟨j, e1, e2, e3 (HNO.out (by first | rfl | trivial)), e4⟩
  · go_wp2
    go_ret
    exact ⟨false, rfl, fun h => (by cases h), B5.out⟩
end Go.Proofs.Ytikpedfggbibpaa
namespace Go.Proofs.Ytikpedfggbibpaa
open Go.RowKit
set_option linter.unusedVariables false

section
variable {P : Program}
/-- whether a type is one with methods to be had -/
def noIface (u : TypeDesc) : Bool := match u with | .interface _ => false | _ => true
theorem run_ta_iface (t a xT : TypeId) (v z : Value) (w : World) (u : TypeDesc) (hu : P.underlying a = some u) (hni : noIface u = true) (hz : (zeroValue a).run P w = .ok z w) :
    (Instr.typeAssert (.iface t v) xT a true).run P w = if t = a then .ok (.tuple #[v, .bool true]) w else .ok (.tuple #[z, .bool false]) w := by
  by_cases h : t = a
  · cases u <;> simp [noIface] at hni <;> simp [Instr.typeAssert, run_underlying hu, h, Result.andThen]
  · cases u <;> simp [noIface] at hni <;> simp [Instr.typeAssert, run_underlying hu, h, hz, Result.andThen]
end

@[go_sem] theorem Try.ta_nil_1 (xT : TypeId) (w : World) : (Instr.typeAssert .nilIface xT 2 true).run Try.prog w = .ok (.tuple #[.int .i64 0, .bool false]) w := by kernel_rfl
@[go_sem] theorem Try.ta_iface_1 (t xT : TypeId) (v : Value) (w : World) : (Instr.typeAssert (.iface t v) xT 2 true).run Try.prog w = if t = 2 then .ok (.tuple #[v, .bool true]) w else .ok (.tuple #[.int .i64 0, .bool false]) w :=
  run_ta_iface t _ xT v _ w _ Try.underlying2 rfl (by kernel_rfl)

@[go_sem] theorem Try.ta_nil_2 (xT : TypeId) (w : World) : (Instr.typeAssert .nilIface xT 3 true).run Try.prog w = .ok (.tuple #[.int .i64 0, .bool false]) w := by kernel_rfl
@[go_sem] theorem Try.ta_iface_2 (t xT : TypeId) (v : Value) (w : World) : (Instr.typeAssert (.iface t v) xT 3 true).run Try.prog w = if t = 3 then .ok (.tuple #[v, .bool true]) w else .ok (.tuple #[.int .i64 0, .bool false]) w :=
  run_ta_iface t _ xT v _ w _ Try.underlying3 rfl (by kernel_rfl)

@[go_sem] theorem Try.ta_nil_3 (xT : TypeId) (w : World) : (Instr.typeAssert .nilIface xT 100 true).run Try.prog w = .ok (.tuple #[.int .i8 0, .bool false]) w := by kernel_rfl
@[go_sem] theorem Try.ta_iface_3 (t xT : TypeId) (v : Value) (w : World) : (Instr.typeAssert (.iface t v) xT 100 true).run Try.prog w = if t = 100 then .ok (.tuple #[v, .bool true]) w else .ok (.tuple #[.int .i8 0, .bool false]) w :=
  run_ta_iface t _ xT v _ w _ Try.underlying100 rfl (by kernel_rfl)

@[go_sem] theorem Try.ta_nil_4 (xT : TypeId) (w : World) : (Instr.typeAssert .nilIface xT 101 true).run Try.prog w = .ok (.tuple #[.int .i16 0, .bool false]) w := by kernel_rfl
@[go_sem] theorem Try.ta_iface_4 (t xT : TypeId) (v : Value) (w : World) : (Instr.typeAssert (.iface t v) xT 101 true).run Try.prog w = if t = 101 then .ok (.tuple #[v, .bool true]) w else .ok (.tuple #[.int .i16 0, .bool false]) w :=
  run_ta_iface t _ xT v _ w _ Try.underlying101 rfl (by kernel_rfl)

@[go_sem] theorem Try.ta_nil_5 (xT : TypeId) (w : World) : (Instr.typeAssert .nilIface xT 21 true).run Try.prog w = .ok (.tuple #[.int .i32 0, .bool false]) w := by kernel_rfl
@[go_sem] theorem Try.ta_iface_5 (t xT : TypeId) (v : Value) (w : World) : (Instr.typeAssert (.iface t v) xT 21 true).run Try.prog w = if t = 21 then .ok (.tuple #[v, .bool true]) w else .ok (.tuple #[.int .i32 0, .bool false]) w :=
  run_ta_iface t _ xT v _ w _ Try.underlying21 rfl (by kernel_rfl)

@[go_sem] theorem Try.ta_nil_6 (xT : TypeId) (w : World) : (Instr.typeAssert .nilIface xT 102 true).run Try.prog w = .ok (.tuple #[.int .u64 0, .bool false]) w := by kernel_rfl
@[go_sem] theorem Try.ta_iface_6 (t xT : TypeId) (v : Value) (w : World) : (Instr.typeAssert (.iface t v) xT 102 true).run Try.prog w = if t = 102 then .ok (.tuple #[v, .bool true]) w else .ok (.tuple #[.int .u64 0, .bool false]) w :=
  run_ta_iface t _ xT v _ w _ Try.underlying102 rfl (by kernel_rfl)

@[go_sem] theorem Try.ta_nil_7 (xT : TypeId) (w : World) : (Instr.typeAssert .nilIface xT 5 true).run Try.prog w = .ok (.tuple #[.int .u8 0, .bool false]) w := by kernel_rfl
@[go_sem] theorem Try.ta_iface_7 (t xT : TypeId) (v : Value) (w : World) : (Instr.typeAssert (.iface t v) xT 5 true).run Try.prog w = if t = 5 then .ok (.tuple #[v, .bool true]) w else .ok (.tuple #[.int .u8 0, .bool false]) w :=
  run_ta_iface t _ xT v _ w _ Try.underlying5 rfl (by kernel_rfl)

@[go_sem] theorem Try.ta_nil_8 (xT : TypeId) (w : World) : (Instr.typeAssert .nilIface xT 27 true).run Try.prog w = .ok (.tuple #[.int .u16 0, .bool false]) w := by kernel_rfl
@[go_sem] theorem Try.ta_iface_8 (t xT : TypeId) (v : Value) (w : World) : (Instr.typeAssert (.iface t v) xT 27 true).run Try.prog w = if t = 27 then .ok (.tuple #[v, .bool true]) w else .ok (.tuple #[.int .u16 0, .bool false]) w :=
  run_ta_iface t _ xT v _ w _ Try.underlying27 rfl (by kernel_rfl)

@[go_sem] theorem Try.ta_nil_9 (xT : TypeId) (w : World) : (Instr.typeAssert .nilIface xT 103 true).run Try.prog w = .ok (.tuple #[.int .u32 0, .bool false]) w := by kernel_rfl
@[go_sem] theorem Try.ta_iface_9 (t xT : TypeId) (v : Value) (w : World) : (Instr.typeAssert (.iface t v) xT 103 true).run Try.prog w = if t = 103 then .ok (.tuple #[v, .bool true]) w else .ok (.tuple #[.int .u32 0, .bool false]) w :=
  run_ta_iface t _ xT v _ w _ Try.underlying103 rfl (by kernel_rfl)

@[go_sem] theorem Try.ta_nil_10 (xT : TypeId) (w : World) : (Instr.typeAssert .nilIface xT 104 true).run Try.prog w = .ok (.tuple #[.int .u64 0, .bool false]) w := by kernel_rfl
@[go_sem] theorem Try.ta_iface_10 (t xT : TypeId) (v : Value) (w : World) : (Instr.typeAssert (.iface t v) xT 104 true).run Try.prog w = if t = 104 then .ok (.tuple #[v, .bool true]) w else .ok (.tuple #[.int .u64 0, .bool false]) w :=
  run_ta_iface t _ xT v _ w _ Try.underlying104 rfl (by kernel_rfl)

@[go_sem] theorem Try.ta_nil_11 (xT : TypeId) (w : World) : (Instr.typeAssert .nilIface xT 107 true).run Try.prog w = .ok (.tuple #[.float .f32 0, .bool false]) w := by kernel_rfl
@[go_sem] theorem Try.ta_iface_11 (t xT : TypeId) (v : Value) (w : World) : (Instr.typeAssert (.iface t v) xT 107 true).run Try.prog w = if t = 107 then .ok (.tuple #[v, .bool true]) w else .ok (.tuple #[.float .f32 0, .bool false]) w :=
  run_ta_iface t _ xT v _ w _ Try.underlying107 rfl (by kernel_rfl)

@[go_sem] theorem Try.ta_nil_12 (xT : TypeId) (w : World) : (Instr.typeAssert .nilIface xT 22 true).run Try.prog w = .ok (.tuple #[.float .f64 0, .bool false]) w := by kernel_rfl
@[go_sem] theorem Try.ta_iface_12 (t xT : TypeId) (v : Value) (w : World) : (Instr.typeAssert (.iface t v) xT 22 true).run Try.prog w = if t = 22 then .ok (.tuple #[v, .bool true]) w else .ok (.tuple #[.float .f64 0, .bool false]) w :=
  run_ta_iface t _ xT v _ w _ Try.underlying22 rfl (by kernel_rfl)

@[go_sem] theorem Try.ta_nil_13 (xT : TypeId) (w : World) : (Instr.typeAssert .nilIface xT 4 true).run Try.prog w = .ok (.tuple #[.bool false, .bool false]) w := by kernel_rfl
@[go_sem] theorem Try.ta_iface_13 (t xT : TypeId) (v : Value) (w : World) : (Instr.typeAssert (.iface t v) xT 4 true).run Try.prog w = if t = 4 then .ok (.tuple #[v, .bool true]) w else .ok (.tuple #[.bool false, .bool false]) w :=
  run_ta_iface t _ xT v _ w _ Try.underlying4 rfl (by kernel_rfl)

@[go_sem] theorem Try.ta_nil_14 (xT : TypeId) (w : World) : (Instr.typeAssert .nilIface xT 9 true).run Try.prog w = .ok (.tuple #[.string ByteArray.empty, .bool false]) w := by kernel_rfl
@[go_sem] theorem Try.ta_iface_14 (t xT : TypeId) (v : Value) (w : World) : (Instr.typeAssert (.iface t v) xT 9 true).run Try.prog w = if t = 9 then .ok (.tuple #[v, .bool true]) w else .ok (.tuple #[.string ByteArray.empty, .bool false]) w :=
  run_ta_iface t _ xT v _ w _ Try.underlying9 rfl (by kernel_rfl)

@[go_sem] theorem Try.ta_nil_15 (xT : TypeId) (w : World) : (Instr.typeAssert .nilIface xT 85 true).run Try.prog w = .ok (.tuple #[.slice none 0 0, .bool false]) w := by kernel_rfl
@[go_sem] theorem Try.ta_iface_15 (t xT : TypeId) (v : Value) (w : World) : (Instr.typeAssert (.iface t v) xT 85 true).run Try.prog w = if t = 85 then .ok (.tuple #[v, .bool true]) w else .ok (.tuple #[.slice none 0 0, .bool false]) w :=
  run_ta_iface t _ xT v _ w _ Try.underlying85 rfl (by kernel_rfl)

@[go_sem] theorem Try.ta_nil_16 (xT : TypeId) (w : World) : (Instr.typeAssert .nilIface xT 77 true).run Try.prog w = .ok (.tuple #[.map none, .bool false]) w := by kernel_rfl
@[go_sem] theorem Try.ta_iface_16 (t xT : TypeId) (v : Value) (w : World) : (Instr.typeAssert (.iface t v) xT 77 true).run Try.prog w = if t = 77 then .ok (.tuple #[v, .bool true]) w else .ok (.tuple #[.map none, .bool false]) w :=
  run_ta_iface t _ xT v _ w _ Try.underlying77 rfl (by kernel_rfl)

@[go_sem] theorem Try.ta_nil_17 (xT : TypeId) (w : World) : (Instr.typeAssert .nilIface xT 125 true).run Try.prog w = .ok (.tuple #[.int .i64 0, .bool false]) w := by kernel_rfl
@[go_sem] theorem Try.ta_iface_17 (t xT : TypeId) (v : Value) (w : World) : (Instr.typeAssert (.iface t v) xT 125 true).run Try.prog w = if t = 125 then .ok (.tuple #[v, .bool true]) w else .ok (.tuple #[.int .i64 0, .bool false]) w :=
  run_ta_iface t _ xT v _ w _ Try.underlying125 rfl (by kernel_rfl)

@[go_sem] theorem Try.ta_nil_18 (xT : TypeId) (w : World) : (Instr.typeAssert .nilIface xT 126 true).run Try.prog w = .ok (.tuple #[.float .f64 0, .bool false]) w := by kernel_rfl
@[go_sem] theorem Try.ta_iface_18 (t xT : TypeId) (v : Value) (w : World) : (Instr.typeAssert (.iface t v) xT 126 true).run Try.prog w = if t = 126 then .ok (.tuple #[v, .bool true]) w else .ok (.tuple #[.float .f64 0, .bool false]) w :=
  run_ta_iface t _ xT v _ w _ Try.underlying126 rfl (by kernel_rfl)
end Go.Proofs.Ytikpedfggbibpaa
namespace Go.Proofs.Ytikpedfggbibpaa
open Go.RowKit
set_option linter.unusedVariables false

def asI : J → Int × Bool
  | .int n => (n, true)
  | _ => (0, false)

set_option maxRecDepth 100000 in
set_option maxHeartbeats 2000000 in
theorem asInt_any (lo : Nat) (j : J) (hj : j.nofl) (v : Value) (w : World) (h : RA w lo j v) :
    Calls Try.prog 83 #[v] w (Gives (.tuple #[.int .i64 (asI j).1, .bool (asI j).2]) w) := by
  cases j with
  | flt b => unfold J.nofl at hj; exact hj.elim
  | null =>
    unfold RA at h; subst h; clear hj
    go_enter Try.func83, Try.ntmps83
    go_wp2

    go_ret2
    exact .mk rfl (.refl _)
  | bool b =>
    unfold RA at h; subst h; clear hj
    go_enter Try.func83, Try.ntmps83
    go_wp2
    go_ret2
    exact .mk rfl (.refl _)
  | int n =>
    unfold RA at h; subst h; clear hj
    go_enter Try.func83, Try.ntmps83
    go_wp2
    go_ret2
    exact .mk rfl (.refl _)
  | str s =>
    unfold RA at h; subst h; clear hj
    go_enter Try.func83, Try.ntmps83
    go_wp2
    go_ret2
    exact .mk rfl (.refl _)
  | arr l =>
    unfold RA at h; obtain ⟨b, cap, rfl, _⟩ := h; clear hj
    go_enter Try.func83, Try.ntmps83
    go_wp2
    go_ret2
    exact .mk rfl (.refl _)
  | obj ks l =>
    unfold RA at h; obtain ⟨b, cap, rfl, _⟩ := h; clear hj
    go_enter Try.func83, Try.ntmps83
    go_wp2
    go_ret2
    exact .mk rfl (.refl _)
end Go.Proofs.Ytikpedfggbibpaa
