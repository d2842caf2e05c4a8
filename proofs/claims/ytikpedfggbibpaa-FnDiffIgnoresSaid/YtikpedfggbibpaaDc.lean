/- Walks: ignoreIndex, ignoreKey. -/
import Derived.Test.YtikpedfggbibpaaDb
namespace Go.Proofs.Ytikpedfggbibpaa
open Go.RowKit Go.Lib
set_option linter.unusedVariables false
set_option linter.unusedSimpArgs false

def ival : Option Step → Value
  | none => .nilIface
  | some st => st.val

/-- a list of at most one ignored path, in memory -/
def IgAt (w : World) (v : Value) : Ig → Prop
  | none => ∃ a c, v = .slice a 0 c
  | some q => ∃ b o c bq oq cq, v = .slice (some ⟨b, o, none⟩) 1 c ∧ w.cell? ⟨b, o, none⟩ = some (.slice (some ⟨bq, oq, none⟩) q.length cq) ∧ q.length ≤ cq ∧ 0 < q.length ∧ q.length ≤ 4 ∧
      ∀ i, (h : i < q.length) → w.cell? ⟨bq, oq + i, none⟩ = some (ival q[i])
theorem IgAt.keep {w w' : World} (k : Keep w w') : ∀ {g : Ig} {v : Value}, IgAt w v g → IgAt w' v g
  | none, _, h => h
  | some q, _, ⟨b, o, c, bq, oq, cq, e, h1, h2, h3, h4, h5⟩ => ⟨b, o, c, bq, oq, cq, e, k _ _ h1, h2, h3, h4, fun i hi => k _ _ (h5 i hi)⟩
theorem IgAt.slice {w : World} : ∀ {g : Ig} {v : Value}, IgAt w v g → ∃ a n c, v = .slice a n c ∧ n ≤ 1 ∧ (n = 0 ↔ g = none)
  | none, _, ⟨a, c, e⟩ => ⟨a, 0, c, e, by omega, by simp⟩
  | some q, _, ⟨b, o, c, bq, oq, cq, e, _⟩ => ⟨_, 1, c, e, by omega, by simp⟩
/-- numbers of an ignored path count from 0 -/
def IgOk : Ig → Prop
  | none => True
  | some q => ∀ n : Int, some (Step.nth n) ∈ q → 0 ≤ n

set_option maxRecDepth 20000 in
set_option maxHeartbeats 1000000 in
theorem ignoreIndex_any (i : Int) (v : Value) (g : Ig) (w : World) (h : IgAt w v g) :
    Calls Try.prog 103 #[.int .i64 i, v] w fun e w' => e = .returned (.bool (igSkip g (.nth i))) ∧ w' = w := by
  cases g with
  | none =>
    obtain ⟨a, c, rfl⟩ := h
    go_enter Try.func103, Try.ntmps103
    go_wp2
    refine wp_loop_rounds 1 ?_
    rw [rounds_succ]
    go_wp2
    go_ret
    exact ⟨rfl, rfl⟩
  | some q =>
    obtain ⟨b, o, c, bq, oq, cq, rfl, h1, h2, h3, h4, h5⟩ := h
    match q, h3 with
    | [x], _ =>
      have h6 := h5 0 (by simp)
      simp only [Nat.add_zero, List.getElem_cons_zero, List.length_singleton] at h6 h1
      clear h5 h2 h3 h4
      cases x with
      | none =>
        simp only [ival] at h6
        go_enter Try.func103, Try.ntmps103
        go_wp2
        refine wp_loop_rounds 1 ?_
        rw [rounds_succ]
        go_wp2
        go_ret
        exact ⟨rfl, rfl⟩
      | some st =>
        cases st with
        | child s =>
          simp only [ival, Step.val] at h6
          go_enter Try.func103, Try.ntmps103
          go_wp2
          refine wp_loop_rounds 2 ?_
          rw [rounds_succ]
          go_wp2
          rw [rounds_succ]
          go_wp2
          go_ret
          exact ⟨rfl, rfl⟩
        | nth n =>
          simp only [ival, Step.val] at h6
          by_cases hn : i = n
          · subst hn
            go_enter Try.func103, Try.ntmps103
            go_wp2
            refine wp_loop_rounds 2 ?_
            rw [rounds_succ]
            go_wp2
            go_ret
            exact ⟨by simp [igSkip, igM, Step.eqb], rfl⟩
          · have hn2 : ¬ n = i := fun e => hn e.symm
            go_enter Try.func103, Try.ntmps103
            go_wp2
            refine wp_loop_rounds 2 ?_
            rw [rounds_succ]
            go_wp2
            rw [rounds_succ]
            go_wp2
            go_ret
            exact ⟨by simp [igSkip, igM, Step.eqb, hn2], rfl⟩
    | x :: y :: r, _ =>
      have hr : r.length ≤ 2 := by simp at h4; omega
      simp only [List.length_cons] at h1
      have hk : ((r.length : Int) + 1 + 1 == 1) = false := by simp; omega
      clear h5 h2 h3 h4
      go_enter Try.func103, Try.ntmps103
      go_wp2
      refine wp_loop_rounds 2 ?_
      rw [rounds_succ]
      go_wp2
      rw [rounds_succ]
      go_wp2
      go_ret
      exact ⟨rfl, rfl⟩

set_option maxRecDepth 20000 in
set_option maxHeartbeats 1000000 in
theorem ignoreKey_any (k : ByteArray) (v : Value) (g : Ig) (w : World) (h : IgAt w v g) :
    Calls Try.prog 104 #[.string k, v] w fun e w' => e = .returned (.bool (igSkip g (.child k))) ∧ w' = w := by
  cases g with
  | none =>
    obtain ⟨a, c, rfl⟩ := h
    go_enter Try.func104, Try.ntmps104
    go_wp2
    refine wp_loop_rounds 1 ?_
    rw [rounds_succ]
    go_wp2
    go_ret
    exact ⟨rfl, rfl⟩
  | some q =>
    obtain ⟨b, o, c, bq, oq, cq, rfl, h1, h2, h3, h4, h5⟩ := h
    match q, h3 with
    | [x], _ =>
      have h6 := h5 0 (by simp)
      simp only [Nat.add_zero, List.getElem_cons_zero, List.length_singleton] at h6 h1
      clear h5 h2 h3 h4
      cases x with
      | none =>
        simp only [ival] at h6
        go_enter Try.func104, Try.ntmps104
        go_wp2
        refine wp_loop_rounds 1 ?_
        rw [rounds_succ]
        go_wp2
        go_ret
        exact ⟨rfl, rfl⟩
      | some st =>
        cases st with
        | nth s =>
          simp only [ival, Step.val] at h6
          go_enter Try.func104, Try.ntmps104
          go_wp2
          refine wp_loop_rounds 2 ?_
          rw [rounds_succ]
          go_wp2
          rw [rounds_succ]
          go_wp2
          go_ret
          exact ⟨rfl, rfl⟩
        | child n =>
          simp only [ival, Step.val] at h6
          by_cases hn : k = n
          · subst hn
            go_enter Try.func104, Try.ntmps104
            go_wp2
            refine wp_loop_rounds 2 ?_
            rw [rounds_succ]
            go_wp2
            go_ret
            exact ⟨by simp [igSkip, igM, Step.eqb], rfl⟩
          · have hn2 : ¬ n = k := fun e => hn e.symm
            go_enter Try.func104, Try.ntmps104
            go_wp2
            refine wp_loop_rounds 2 ?_
            rw [rounds_succ]
            go_wp2
            · have hx : (k.toList == n.toList) = true := by assumption
              rw [bytes_beq] at hx
              exact absurd (of_decide_eq_true hx) hn
            rw [rounds_succ]
            go_wp2
            go_ret
            exact ⟨by simp [igSkip, igM, Step.eqb, hn2], rfl⟩
    | x :: y :: r, _ =>
      have hr : r.length ≤ 2 := by simp at h4; omega
      simp only [List.length_cons] at h1
      have hk : ((r.length : Int) + 1 + 1 == 1) = false := by simp; omega
      clear h5 h2 h3 h4
      go_enter Try.func104, Try.ntmps104
      go_wp2
      refine wp_loop_rounds 2 ?_
      rw [rounds_succ]
      go_wp2
      rw [rounds_succ]
      go_wp2
      go_ret
      exact ⟨rfl, rfl⟩
end Go.Proofs.Ytikpedfggbibpaa
