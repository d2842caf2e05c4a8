/- FnAsBoolTold: the plain law. -/
import Derived.Test.YtedhdkadpibaeaaGreatDoorVc
namespace Go.Proofs.YtedhdkadpibaeaaGreatDoor
open Go.RowKit Go.Lib
set_option linter.unusedVariables false
set_option linter.unusedSimpArgs false

theorem foldEq_low (x y : UInt8) (h1 : 97 ≤ y.toNat) (h2 : y.toNat ≤ 122) : foldEq x y = decide (lowB x = y) := by
  have hx := x.toNat_lt
  have e : lowB x = y ↔ (lowB x).toNat = y.toNat := UInt8.toNat_inj.symm
  unfold foldEq
  rw [decide_eq_decide, e]
  unfold lowB
  split
  · rename_i h
    rw [UInt8.toNat_add]
    have : (32 : UInt8).toNat = 32 := rfl
    omega
  · omega
theorem fold_low : ∀ (l m : List UInt8), (∀ y ∈ m, 97 ≤ y.toNat ∧ y.toNat ≤ 122) → equalFold l m = decide (l.map lowB = m)
  | [], [], _ => by simp [equalFold]
  | [], y :: m, _ => by simp [equalFold]
  | x :: l, [], _ => by simp [equalFold]
  | x :: l, y :: m, h => by
    rw [equalFold, foldEq_low x y (h y (by simp)).1 (h y (by simp)).2, fold_low l m (fun z hz => h z (by simp [hz]))]
    rw [Bool.eq_iff_iff]
    simp
theorem fold_trueB (l : List UInt8) : equalFold l trueB = decide (l.map lowB = trueB) := fold_low l trueB (by decide)
theorem fold_falseB (l : List UInt8) : equalFold l falseB = decide (l.map lowB = falseB) := fold_low l falseB (by decide)

theorem RV.six {w : World} {x : V} {v : Value} (h : RV w x v) : ∃ al lc ak kc, v = .agg #[.int .i64 x.kind, .int .i64 x.n, .float .f64 x.f, .string x.s, .slice al x.l.length lc, .slice ak x.keys.length kc] ∧ x.s.size ≤ reachN := by
  cases x
  unfold RV at h
  obtain ⟨al, lc, ak, kc, e, z, _⟩ := h
  exact ⟨al, lc, ak, kc, e, z.hs⟩
end Go.Proofs.YtedhdkadpibaeaaGreatDoor
