/- Walks: integer, alt.Int, AsInt, becomes. -/
import Derived.Test.YtedhdkadpibaeaaGreatDoorVb
namespace Go.Proofs.YtedhdkadpibaeaaGreatDoor
open Go.RowKit Go.Lib
set_option linter.unusedVariables false
set_option linter.unusedSimpArgs false

def intV (n : Int) : Value := .agg #[.int .i64 3, .int .i64 n, .float .f64 0, .string ByteArray.empty, .slice none 0 0, .slice none 0 0]
theorem integer_any (n : Int) (w : World) : Calls Tryz.prog 18 #[.int .i64 n] w (Gives (intV n) w) := by
  go_enter Tryz.func18, Tryz.ntmps18
  go_wp2
  refine bodyPost_ret (results_cell_row rfl _ _ w.heap.size 26 _ _ _ rfl (heap_alloc_new _ _) Tryz.underlying26 rfl (by kernel_rfl)) rfl ?_
  exact .mk rfl ((Ext.refl _).alloc _)
theorem intV_rv (n : Int) (hn : (Lit.int .i64 n).wf = true) (w : World) : RV w (V.ofJ (.int n)) (intV n) := by
  unfold V.ofJ RV intV
  exact ⟨none, 0, none, 0, rfl, ⟨rfl, hn, rfl, by unfold reachN; decide, by simp, by unfold reachN; simp, by simp, by unfold reachN; simp, by simp⟩, by simp, by intro h; exact absurd rfl h⟩

set_option maxRecDepth 100000 in
set_option maxHeartbeats 4000000 in
theorem altInt_int (n : Int) (w : World) : Calls Tryz.prog 26 #[.iface 2 (.int .i64 n), .slice none 0 0] w fun e w' => e = .returned (.int .i64 n) ∧ w = w' := by
  go_enter Tryz.func26, Tryz.ntmps26
  go_wp2
  go_ret
  exact ⟨rfl, rfl⟩

set_option maxRecDepth 20000 in
set_option maxHeartbeats 2000000 in
theorem asInt_int (n : Int) (hn : (Lit.int .i64 n).wf = true) (w : World) : Calls Tryz.prog 17 #[intV n, .slice none 0 0] w (Gives (.tuple #[.int .i64 n, .bool false]) w) := by
  have hok : (J.int n).ok := by unfold J.ok; first | trivial | exact hn
  have HS : Hid (∀ w1, Calls Tryz.prog 14 #[intV n, .int .i64 ((0 : Nat) : Int)] w1 (Gives (.bool true) w1)) := fun w1 => simple_any (.int n) hok 0 (by omega) _ w1 (intV_rv n hn w1)
  have HP : Hid (∀ w1, Calls Tryz.prog 16 #[intV n] w1 (PlainPost (.int n) w1)) := fun w1 => plain_any (J.int n).nodes (.int n) (Nat.le_refl _) hok _ w1 (intV_rv n hn w1)
  have HI := Lib.hid (fun w1 => altInt_int n w1)
  unfold intV at *
  clear hn hok
  go_enter Tryz.func17, Tryz.ntmps17
  go_wp2_with (go_at_call 14; refine (HS.out _).mono ?_; rintro e w1 ⟨rfl, hx1⟩; have HX1 := Lib.hid hx1; obtain ⟨b0, b1, b2, b3, b4, b5⟩ := box6 hx1.keep; clear hx1 HS)
  refine wp_loop_rounds 1 ?_
  rw [rounds_succ]
  go_wp2_with (first
    | (go_at_call 16; refine (HP.out _).mono ?_; rintro e w2 ⟨x, rfl, hx, hx2⟩; have HX2 := Lib.hid hx2; unfold RA at hx; subst hx; clear hx2 HP)
    | (go_at_call 26; refine (HI.out _).mono ?_; rintro e w3 ⟨rfl, rfl⟩; clear HI))
  go_ret2
  exact .mk rfl (((Ext.refl w).alloc _).trans (HX1.out.trans HX2.out))

set_option maxRecDepth 20000 in
set_option maxHeartbeats 2000000 in
theorem becomes_any (w : World) : Calls Tryz.prog 9 #[] w (Gives (.bool true) w) := by
  have HI := Lib.hid (fun w1 => integer_any 7 w1)
  have HA := Lib.hid (fun w1 => asInt_int 7 (by decide) w1)
  unfold intV at *
  go_enter Tryz.func9, Tryz.ntmps9
  go_wp2_with (first
    | (go_at_call 18; refine (HI.out _).mono ?_; rintro e w1 ⟨rfl, hx1⟩; have HX1 := Lib.hid hx1; clear hx1 HI)
    | (go_at_call 17; refine (HA.out _).mono ?_; rintro e w2 ⟨rfl, hx2⟩; have HX2 := Lib.hid hx2; clear hx2 HA))
  go_ret
  exact .mk rfl (HX1.out.trans HX2.out)
end Go.Proofs.YtedhdkadpibaeaaGreatDoor
