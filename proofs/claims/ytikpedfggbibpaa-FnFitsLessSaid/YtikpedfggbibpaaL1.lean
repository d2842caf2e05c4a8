/- What fits a value fits it without one of its members, too (at a place that a number chooses): laws.FnFitsLess returns true. Conditions: none. -/
import Derived.Test.YtikpedfggbibpaaWm
namespace Go.Proofs.Ytikpedfggbibpaa
open Go.ChangeShapes Go.WideShapes Go.ChangeAt Go.RowKit
set_option linter.unusedVariables false

theorem own : ownKnob Try.prog.godebug = none := by kernel_rfl
theorem laidOut : laidOutB Try.prog = true := by kernel_rfl

set_option maxRecDepth 100000 in
theorem lifted1 (os : Os) (started : os.Started) (H : Type) (enc : TypeId × Value → H) :
    ReturnsInHanded {} Try.checked os 3 .any (Rows.fnFitsLessSpec.pre6 enc Try.prog Try.f3 Rows.fnFitsLessRow.domain false) (Rows.fnFitsLessSpec.post enc Try.prog Try.f3 false true false false) := by
  refine returnsInHanded_of_change_sized (C := Try.checked) own started (by kernel_rfl) Try.func3
    (ChangeSpec.witness6 (enc := enc) (C := Try.checked) false ⟨#[], #[.agg #[.int .i64 0, .int .i64 0, .float .f64 0, .string ByteArray.empty, .slice none 0 0, .slice none 0 0], .agg #[.int .i64 0, .int .i64 0, .float .f64 0, .string ByteArray.empty, .slice none 0 0, .slice none 0 0], .int .u16 0], []⟩ 8 (by kernel_rfl) (by kernel_rfl) (by kernel_rfl) (by kernel_rfl)) ?_
  intro W base args ds gs before hval0 hW hcnd hsz0 _
  have hval : ∀ (j : Nat) t v, Try.f3.params[j]? = some t → args[j]? = some v → Value.okWide Try.prog W .any base t v := hval0
  have hsz1 : (DataW.weightsEach Try.prog (Try.f3.params.toList ++ Rows.fnFitsLessSpec.plain.varTypes Try.prog) (ds ++ gs)).all (· ≤ reachBytes) = true := hsz0
  have hW' := hW
  obtain ⟨p, q, hA0, hV, rfl, hfz, hnd⟩ := hW
  have hA : DataW.TrodAll enc Try.prog W 0 (fun _ => true) true Try.f3.params.toList args.toList ds p := hA0
  rw [Try.params3] at hA hval hsz1
  obtain ⟨v0, vs0, d0, ds0, p0, q0, hargs, rfl, rfl, h0, r0⟩ := trodAll_cons hA
  obtain ⟨v1, vs1, d1, ds1, p1, q1, rfl, rfl, rfl, h1, r1⟩ := trodAll_cons r0
  obtain ⟨v2, vs2, d2, ds2, p2, q2, rfl, rfl, rfl, h2, r2⟩ := trodAll_cons r1
  obtain ⟨rfl, rfl, rfl⟩ := trodAll_nil r2
  obtain rfl : args = #[v0, v1, v2] := by cases args; simp_all
  obtain ⟨rfl, rfl⟩ := trodVars_none hV
  obtain ⟨n, rfl, rfl, rfl, wn⟩ := open_int Try.underlying27 (hval 2 27 v2 rfl rfl) h2
  have sm : ∀ (j : Nat) (t : TypeId) (d : DataW H), [26, 26, 27][j]? = some t → [d0, d1, .lit (.int .u16 n)][j]? = some d → Small t d := fun j t d ht hd k hk => by
    have := List.all_eq_true.1 hsz1 k (DataW.weights_mem_each (j := j) (by simpa using List.getElem?_append_left (l₂ := Rows.fnFitsLessSpec.plain.varTypes Try.prog) (show j < [26, 26, 27].length from (List.getElem?_eq_some_iff.1 ht).1) |>.trans ht) (by simpa using hd) k hk)
    simpa using this
  obtain ⟨x0, hx0⟩ := open_val (hval 0 26 v0 rfl rfl) h0 (sm 0 _ _ rfl rfl)
  obtain ⟨x1, hx1⟩ := open_val (hval 1 26 v1 rfl rfl) h1 (sm 1 _ _ rfl rfl)
  clear hA0 hval0
  obtain ⟨m, hm⟩ : ∃ m : Nat, n = (m : Int) ∧ m < 65536 := by
    simp [Lit.wf, IntKind.min, IntKind.max, IntKind.signed, IntKind.bits] at wn
    exact ⟨n.toNat, by omega, by omega⟩
  obtain ⟨rfl, hm⟩ := hm
  have hW2 := hW'
  simp only [List.append_nil] at hW'
  refine (law_fitsLess x0 x1 v0 v1 m hm W hx0 hx1).mono fun e W' ⟨he, bel⟩ => ?_
  subst he
  have hl0 : ∀ x ∈ p0, x.block < W.heap.size := fun x hx => hW'.lt x (by simp [hx])
  have hl1 : ∀ x ∈ p1, x.block < W.heap.size := fun x hx => hW'.lt x (by simp [hx])
  have t0 := Below.trod laidOut (by kernel_rfl) (of_decide_eq_true (by kernel_rfl)) h0 bel hl0
  have t1 := Below.trod laidOut (by kernel_rfl) (of_decide_eq_true (by kernel_rfl)) h1 bel hl1
  refine ⟨_, rfl, _, _, _, [], _, [], hW', trodAll_mk1 (shut_bool Try.underlying4 _), trodAll_cons_mk t0 (trodAll_cons_mk t1 (trodAll_cons_mk (shut_int Try.underlying27 wn) trodAll_mk0)), rfl, bel.frame _, fun h => by cases h⟩

theorem over1 : Rows.fnFitsLessRow.holds Try.pinned (OpenSpec.ofChange Rows.fnFitsLessSpec) :=
  OpenClaim.holds_of_wide 3 Try.f3 rfl rfl rfl rfl rfl rfl rfl ⟨rfl, rfl, rfl, rfl, rfl⟩ rfl rfl rfl rfl rfl (by kernel_rfl) Try.func3 (by kernel_rfl)
    (of_decide_eq_true (by kernel_rfl)) (by unfold Func.isWrapper; first | (rw [if_pos (by decide +kernel)]; kernel_rfl) | (rw [if_neg (by decide +kernel)]; exact ⟨rfl, rfl⟩))
    (fun os started H enc _ => lifted1 os started H enc)

theorem FnFitsLess_holds : Rows.FnFitsLessSaid := over1
#print axioms FnFitsLess_holds
end Go.Proofs.Ytikpedfggbibpaa
