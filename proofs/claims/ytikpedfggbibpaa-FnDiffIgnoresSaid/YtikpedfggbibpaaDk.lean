/- Walks: sameStep, samePlace. -/
import Derived.Test.YtikpedfggbibpaaDj
import Derived.BigQuiet
import Derived.Deep.QuietTactic
namespace Go.Proofs.Ytikpedfggbibpaa
open Go.RowKit Go.Lib
set_option linter.unusedVariables false
set_option linter.unusedSimpArgs false

def pathB : List Step → List Step → Bool
  | [], [] => true
  | a :: p, b :: q => a.eqb b && pathB p q
  | _, _ => false
theorem pathB_iff : ∀ {p q : List Step}, pathB p q = true ↔ p = q
  | [], [] => by simp [pathB]
  | [], b :: q => by simp [pathB]
  | a :: p, [] => by simp [pathB]
  | a :: p, b :: q => by
    rw [pathB, Bool.and_eq_true, Step.eqb_iff, pathB_iff]
    simp
theorem pathB_false {p q : List Step} (h : p ≠ q) : pathB p q = false := by
  rw [Bool.eq_false_iff]
  exact fun e => h (pathB_iff.1 e)

set_option maxRecDepth 20000 in
set_option maxHeartbeats 1000000 in
/-- slices.Equal of numbers, one each -/
theorem equal_one (b1 b2 c1 c2 : Nat) (n1 n2 : Int) (w : World) (h1 : w.cell? ⟨b1, 0, none⟩ = some (.int .i64 n1)) (h2 : w.cell? ⟨b2, 0, none⟩ = some (.int .i64 n2)) :
    Calls Try.prog 95 #[.slice (some ⟨b1, 0, none⟩) 1 c1, .slice (some ⟨b2, 0, none⟩) 1 c2] w (Gives (.bool (decide (n1 = n2))) w) := by
  by_cases hn : n1 = n2
  · subst hn
    go_enter Try.func95, Try.ntmps95
    go_wp2
    refine wp_loop_rounds 2 ?_
    rw [rounds_succ]
    go_wp2
    go_quiet (fail)
    go_wp2
    rw [rounds_succ]
    go_wp2
    go_ret
    exact .mk (by simp) ((Ext.refl _).drewN _)
  · have hne : (n1 == n2) = false := by simp [hn]
    have HN : Hid (¬ n1 = n2) := hn
    go_enter Try.func95, Try.ntmps95
    go_wp2
    refine wp_loop_rounds 2 ?_
    rw [rounds_succ]
    go_wp2
    go_quiet (fail)
    go_wp2
    go_ret
    exact .mk (by simp [HN.out]) ((Ext.refl _).drewN _)

/-- a fragment's value -/
def Fr.agg (f : Fr) : Value := .agg #[.int .i64 f.k, .string f.s, .slice f.a f.l f.c, .slice none 0 0, .int .i64 0, .int .i64 0, .int .i64 0, .float .f64 0, .string ByteArray.empty, .slice none 0 0, .slice none 0 0, .slice none 0 0, .slice none 0 0]

set_option maxRecDepth 20000 in
set_option maxHeartbeats 2000000 in
theorem sameStep_any (s1 s2 : Step) (f1 f2 : Fr) (w : World) (h1 : FrOk w s1 f1) (h2 : FrOk w s2 f2) :
    Calls Try.prog 73 #[.agg #[.int .i64 f1.k, .string f1.s, .slice f1.a f1.l f1.c, .slice none 0 0, .int .i64 0, .int .i64 0, .int .i64 0, .float .f64 0, .string ByteArray.empty, .slice none 0 0, .slice none 0 0, .slice none 0 0, .slice none 0 0],
      .agg #[.int .i64 f2.k, .string f2.s, .slice f2.a f2.l f2.c, .slice none 0 0, .int .i64 0, .int .i64 0, .int .i64 0, .float .f64 0, .string ByteArray.empty, .slice none 0 0, .slice none 0 0, .slice none 0 0, .slice none 0 0]] w (Gives (.bool (s1.eqb s2)) w) := by
  obtain ⟨k1, t1, a1, l1, c1⟩ := f1
  obtain ⟨k2, t2, a2, l2, c2⟩ := f2
  rcases s1 with x1 | x1 <;> rcases s2 with x2 | x2
  · obtain ⟨rfl, rfl⟩ := h1
    obtain ⟨rfl, rfl⟩ := h2
    by_cases hx : t1 = t2
    · subst hx
      go_enter Try.func73, Try.ntmps73
      go_wp2
      go_ret
      exact .mk (by simp [Step.eqb]) (((Ext.refl _).alloc _).alloc _)
    · go_enter Try.func73, Try.ntmps73
      go_wp2
      all_goals go_ret
      all_goals exact .mk (by simp_all [Step.eqb, bytes_eq, bytes_beq]) (((Ext.refl _).alloc _).alloc _)
  · obtain ⟨rfl, rfl⟩ := h1
    obtain ⟨h2, _⟩ := h2
    simp only at h2
    subst h2
    go_enter Try.func73, Try.ntmps73
    go_wp2
    go_ret
    exact .mk (by simp [Step.eqb]) (((Ext.refl _).alloc _).alloc _)
  · obtain ⟨rfl, rfl⟩ := h2
    obtain ⟨h1, _⟩ := h1
    simp only at h1
    subst h1
    go_enter Try.func73, Try.ntmps73
    go_wp2
    go_ret
    exact .mk (by simp [Step.eqb]) (((Ext.refl _).alloc _).alloc _)
  · obtain ⟨h3, h4, b1, h5, h6⟩ := h1
    obtain ⟨h7, h8, b2, h9, h10⟩ := h2
    simp only at h3 h4 h5 h7 h8 h9
    subst h3 h4 h5 h7 h8 h9
    have HE : Hid (∀ w1, Ext w w1 → Calls Try.prog 95 #[.slice (some ⟨b1, 0, none⟩) 1 c1, .slice (some ⟨b2, 0, none⟩) 1 c2] w1 (Gives (.bool (decide (x1 = x2))) w1)) := fun w1 hx =>
      equal_one b1 b2 c1 c2 x1 x2 w1 (hx.keep _ _ ((cell_of_row _ _ _ _ _ _ h6).trans rfl)) (hx.keep _ _ ((cell_of_row _ _ _ _ _ _ h10).trans rfl))
    clear h6 h10
    generalize hr : decide (x1 = x2) = r at HE
    have HR := Lib.hid hr
    clear hr
    go_enter Try.func73, Try.ntmps73
    go_wp2_with (go_at_call 95; refine (HE.out _ (((Ext.refl _).alloc _).alloc _)).mono ?_; rintro e w1 ⟨rfl, hx1⟩; have HX := Lib.hid hx1; clear hx1 HE; cases r)
    all_goals go_ret
    all_goals exact .mk (by simp [Step.eqb, HR.out]) ((((Ext.refl _).alloc _).alloc _).trans HX.out)
end Go.Proofs.Ytikpedfggbibpaa
