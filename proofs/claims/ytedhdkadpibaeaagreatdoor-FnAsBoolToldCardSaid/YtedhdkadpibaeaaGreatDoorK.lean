/- Walks: light, plainData. -/
import Derived.Test.YtedhdkadpibaeaaGreatDoorI
namespace Go.Proofs.YtedhdkadpibaeaaGreatDoor
open Go.RowKit
set_option linter.unusedVariables false

theorem wt_pos (x : V) : 0 < x.wt := by cases x; unfold V.wt; omega

def LightPost (x : V) (most : Int) (w : World) (e : Ending) (w' : World) : Prop :=
  ∃ b : Bool, e = .returned (.bool b) ∧ (b = true → ∃ j, x = V.ofJ j ∧ j.ok ∧ (NoKind 4 x → j.nofl) ∧ (x.wt : Int) ≤ most) ∧ Ext w w'

set_option maxHeartbeats 1000000 in
theorem light_any (x : V) (v : Value) (w : World) (most : Int) (h : RV w x v) (h0 : 0 ≤ most) (h1 : most ≤ 1000) :
    Calls Tryz.prog 11 #[v, .int .i64 most] w (LightPost x most w) := by
  have hsh : ∃ k n f s al ll lc ak kl kc, v = .agg #[.int .i64 k, .int .i64 n, .float .f64 f, .string s, .slice al ll lc, .slice ak kl kc] := by
    cases x; unfold RV at h; obtain ⟨al, lc, ak, kc, e, _⟩ := h; exact ⟨_, _, _, _, _, _, _, _, _, _, e⟩
  obtain ⟨k, n, f, s, al, ll, lc, ak, kl, kc, rfl⟩ := hsh
  have HR := Lib.hid h
  clear h
  have H1 : Hid (∀ (w1 : World), Ext w w1 → Calls Tryz.prog 19 #[.agg #[.int .i64 k, .int .i64 n, .float .f64 f, .string s, .slice al ll lc, .slice ak kl kc], .int .i64 most] w1 (WtPost x most w1)) :=
    fun w1 he => weight_any x.nodes x (Nat.le_refl _) _ w1 most (HR.out.keep he.keep) h0 h1
  have H2 : Hid (∀ (w1 : World), Ext w w1 → Calls Tryz.prog 13 #[.agg #[.int .i64 k, .int .i64 n, .float .f64 f, .string s, .slice al ll lc, .slice ak kl kc]] w1 (CleanPost x w1)) :=
    fun w1 he => cleanValue_any x.nodes x (Nat.le_refl _) _ w1 (HR.out.keep he.keep)
  have H3 : Hid (∀ (w1 : World), Ext w w1 → Calls Tryz.prog 20 #[.agg #[.int .i64 k, .int .i64 n, .float .f64 f, .string s, .slice al ll lc, .slice ak kl kc]] w1 (WholePost x w1)) :=
    fun w1 he => whole_any x.nodes x (Nat.le_refl _) _ w1 (HR.out.keep he.keep)
  have H4 : Hid (∀ (w1 : World), Ext w w1 → Calls Tryz.prog 21 #[.agg #[.int .i64 k, .int .i64 n, .float .f64 f, .string s, .slice al ll lc, .slice ak kl kc], .int .i64 6] w1 (HoldsPost 6 x w1)) :=
    fun w1 he => holds_any 6 x.nodes x (Nat.le_refl _) _ w1 (HR.out.keep he.keep)
  have hsz : ∀ w1 : World, Ext w w1 → w.heap.size ≤ w1.heap.size := fun w1 h => h.size
  clear HR
  go_enter Tryz.func11, Tryz.ntmps11
  go_wp2_with (go_at_call 19; refine (H1.out _ ((Ext.refl _).alloc _)).mono ?_; rintro e w2 ⟨r, rfl, r1, r2, r3, hb2⟩; obtain ⟨b0, b1, b2, b3, b4, b5⟩ := box_cells (hb2.mono (by simp)); have R3 := Lib.hid r3; have B2 : Hid (Ext w w2) := ((Ext.refl w).alloc _).trans hb2; clear r3 hb2; by_cases hr : r < 0)
  · clear H1 H2 H3 H4
    go_wp2
    go_ret
    exact ⟨false, rfl, fun h => (by cases h), B2.out⟩
  clear H1
  go_wp2_with (go_at_call 13; refine (H2.out _ B2.out).mono ?_; rintro e w3 ⟨b, rfl, hcl, hb3⟩; have KK : Keep w2 w3 := hb3.keep; have b0 := KK _ _ b0; have b1 := KK _ _ b1; have b2 := KK _ _ b2; have b3 := KK _ _ b3; have b4 := KK _ _ b4; have b5 := KK _ _ b5; have HCL := Lib.hid hcl; have B3 : Hid (Ext w w3) := B2.out.trans hb3; clear hcl hb3 KK B2; cases b)
  · clear H2 H3 H4
    go_wp2
    go_ret
    exact ⟨false, rfl, fun h => (by cases h), B3.out⟩
  clear H2
  go_wp2_with (go_at_call 20; refine (H3.out _ B3.out).mono ?_; rintro e w4 ⟨b, rfl, hwl, hb4⟩; have KK : Keep w3 w4 := hb4.keep; have b0 := KK _ _ b0; have b1 := KK _ _ b1; have b2 := KK _ _ b2; have b3 := KK _ _ b3; have b4 := KK _ _ b4; have b5 := KK _ _ b5; have HWL := Lib.hid hwl; have B4 : Hid (Ext w w4) := B3.out.trans hb4; clear hwl hb4 KK B3; cases b)
  · clear H3 H4
    go_wp2
    go_ret
    exact ⟨false, rfl, fun h => (by cases h), B4.out⟩
  clear H3
  go_wp2_with (go_at_call 21; refine (H4.out _ B4.out).mono ?_; rintro e w5 ⟨b, rfl, hno, hb5⟩; have HNO := Lib.hid hno; have B5 : Hid (Ext w w5) := B4.out.trans hb5; clear hno hb5 B4; cases b)
  · go_wp2
    go_ret
    refine ⟨true, rfl, fun _ => ?_, B5.out⟩
    obtain ⟨j, e1, e2, e3⟩ := V.toJ x (HCL.out (by first | rfl | trivial)) (HWL.out (by first | rfl | trivial)) (HNO.out (by first | rfl | trivial))
    exact ⟨j, e1, e2, e3, by have := R3.out (by omega); omega⟩
  · go_wp2
    go_ret
    exact ⟨false, rfl, fun h => (by cases h), B5.out⟩

end Go.Proofs.YtedhdkadpibaeaaGreatDoor
