/- What Diff tells of two values are the places at which they differ: laws.FnDiff returns true. Conditions: none. -/
import Derived.Test.YtikpedfggbibpaaDx
namespace Go.Proofs.Ytikpedfggbibpaa
open Go.ChangeShapes Go.WideShapes Go.ChangeAt Go.RowKit
set_option linter.unusedVariables false

theorem own2 : ownKnob Try.prog.godebug = none := by kernel_rfl
theorem laidOut2 : laidOutB Try.prog = true := by kernel_rfl

set_option maxRecDepth 100000 in
theorem lifted2 (os : Os) (started : os.Started) (H : Type) (enc : TypeId × Value → H) :
    ReturnsInHanded {} Try.checked os 5 .any (Rows.fnDiffSpec.pre6 enc Try.prog Try.f5 Rows.fnDiffRow.domain false) (Rows.fnDiffSpec.post enc Try.prog Try.f5 false true false false) := by
  refine returnsInHanded_of_change_sized (C := Try.checked) own2 started (by kernel_rfl) Try.func5
    (ChangeSpec.witness6 (enc := enc) (C := Try.checked) false ⟨#[], #[.agg #[.int .i64 0, .int .i64 0, .float .f64 0, .string ByteArray.empty, .slice none 0 0, .slice none 0 0], .agg #[.int .i64 0, .int .i64 0, .float .f64 0, .string ByteArray.empty, .slice none 0 0, .slice none 0 0]], []⟩ 8 (by kernel_rfl) (by kernel_rfl) (by kernel_rfl) (by kernel_rfl)) ?_
  intro W base args ds gs before hval0 hW hcnd hsz0 _
  have hval : ∀ (j : Nat) t v, Try.f5.params[j]? = some t → args[j]? = some v → Value.okWide Try.prog W .any base t v := hval0
  have hsz1 : (DataW.weightsEach Try.prog (Try.f5.params.toList ++ Rows.fnDiffSpec.plain.varTypes Try.prog) (ds ++ gs)).all (· ≤ reachBytes) = true := hsz0
  have hW' := hW
  obtain ⟨p, q, hA0, hV, rfl, hfz, hnd⟩ := hW
  have hA : DataW.TrodAll enc Try.prog W 0 (fun _ => true) true Try.f5.params.toList args.toList ds p := hA0
  rw [Try.params5] at hA hval hsz1
  obtain ⟨v0, vs0, d0, ds0, p0, q0, hargs, rfl, rfl, h0, r0⟩ := trodAll_cons hA
  obtain ⟨v1, vs1, d1, ds1, p1, q1, rfl, rfl, rfl, h1, r1⟩ := trodAll_cons r0
  obtain ⟨rfl, rfl, rfl⟩ := trodAll_nil r1
  obtain rfl : args = #[v0, v1] := by cases args; simp_all
  obtain ⟨rfl, rfl⟩ := trodVars_none hV
  have sm : ∀ (j : Nat) (t : TypeId) (d : DataW H), [26, 26][j]? = some t → [d0, d1][j]? = some d → Small t d := fun j t d ht hd k hk => by
    have := List.all_eq_true.1 hsz1 k (DataW.weights_mem_each (j := j) (by simpa using List.getElem?_append_left (l₂ := Rows.fnDiffSpec.plain.varTypes Try.prog) (show j < [26, 26].length from (List.getElem?_eq_some_iff.1 ht).1) |>.trans ht) (by simpa using hd) k hk)
    simpa using this
  obtain ⟨x0, hx0⟩ := open_val (hval 0 26 v0 rfl rfl) h0 (sm 0 _ _ rfl rfl)
  obtain ⟨x1, hx1⟩ := open_val (hval 1 26 v1 rfl rfl) h1 (sm 1 _ _ rfl rfl)
  clear hA0 hval0
  have hW2 := hW'
  simp only [List.append_nil] at hW'
  refine (law_fnDiff x0 x1 v0 v1 W hx0 hx1).mono fun e W' ⟨he, bel⟩ => ?_
  subst he
  have hl0 : ∀ x ∈ p0, x.block < W.heap.size := fun x hx => hW'.lt x (by simp [hx])
  have hl1 : ∀ x ∈ p1, x.block < W.heap.size := fun x hx => hW'.lt x (by simp [hx])
  have t0 := Below.trod laidOut2 (by kernel_rfl) (of_decide_eq_true (by kernel_rfl)) h0 bel hl0
  have t1 := Below.trod laidOut2 (by kernel_rfl) (of_decide_eq_true (by kernel_rfl)) h1 bel hl1
  refine ⟨_, rfl, _, _, _, [], _, [], hW', trodAll_mk1 (shut_bool Try.underlying4 _), trodAll_cons_mk t0 (trodAll_cons_mk t1 trodAll_mk0), rfl, bel.frame _, fun h => by cases h⟩

theorem over2 : Rows.fnDiffRow.holds Try.pinned (OpenSpec.ofChange Rows.fnDiffSpec) :=
  OpenClaim.holds_of_wide 5 Try.f5 rfl rfl rfl rfl rfl rfl rfl ⟨rfl, rfl, rfl, rfl, rfl⟩ rfl rfl rfl rfl rfl (by kernel_rfl) Try.func5 (by kernel_rfl)
    (of_decide_eq_true (by kernel_rfl)) (by unfold Func.isWrapper; first | (rw [if_pos (by decide +kernel)]; kernel_rfl) | (rw [if_neg (by decide +kernel)]; exact ⟨rfl, rfl⟩))
    (fun os started H enc _ => lifted2 os started H enc)

theorem FnDiff_holds : Rows.FnDiffSaid := over2
#print axioms FnDiff_holds
end Go.Proofs.Ytikpedfggbibpaa
