/- slices.Clone, slices.Delete of values; slices.Delete of texts. -/
import Derived.Test.YtikpedfggbibpaaWf
namespace Go.Proofs.Ytikpedfggbibpaa
open Go.RowKit Go.Lib
set_option linter.unusedVariables false
set_option linter.unusedSimpArgs false

/-- the six cells of a value -/
structure V6 where
  c0 : Value
  c1 : Value
  c2 : Value
  c3 : Value
  c4 : Value
  c5 : Value
def V6.cells (e : V6) : List Value := [e.c0, e.c1, e.c2, e.c3, e.c4, e.c5]
def V6.val (e : V6) : Value := .agg #[e.c0, e.c1, e.c2, e.c3, e.c4, e.c5]
theorem six_len (es : List V6) : (es.flatMap V6.cells).length = es.length * 6 := by
  induction es with
  | nil => rfl
  | cons f fs ih => rw [List.flatMap_cons, List.length_append, ih, List.length_cons]; show 6 + _ = _; omega
theorem six_get (es : List V6) (i j : Nat) (hi : i < es.length) (hj : j < 6) : (es.flatMap V6.cells)[i * 6 + j]? = (es[i].cells)[j]? := by
  induction es generalizing i with
  | nil => simp at hi
  | cons f fs ih =>
    rw [List.flatMap_cons]
    have hl : f.cells.length = 6 := rfl
    cases i with
    | zero => rw [List.getElem?_append_left (by omega)]; simp
    | succ i =>
      rw [List.getElem?_append_right (by omega), hl, show (i + 1) * 6 + j - 6 = i * 6 + j from by omega, ih i (by simpa using hi)]
      simp
theorem six_one {w : World} {x : V} {e : V6} (h : RV w x e.val) : ∀ u ∈ e.cells, u.oneCell' = true := fun u hu => by
  obtain ⟨k, n, f, s, al, ll, lc, ak, kl, kc, h0, h1, h2, h3, h4, h5⟩ := RV.shape h
  simp only [V6.cells, List.mem_cons, List.not_mem_nil, or_false] at hu
  rcases hu with rfl | rfl | rfl | rfl | rfl | rfl <;> simp only [h0, h1, h2, h3, h4, h5] <;> rfl

theorem rvs_es {w : World} {b : Nat} : ∀ {l : List V} {o : Nat}, RVs w b o l → ∃ es : List V6, es.length = l.length ∧ (∀ i, (h : i < l.length) → (h' : i < es.length) → RV w l[i] es[i].val) ∧ (∀ j u, (es.flatMap V6.cells)[j]? = some u → w.cell? ⟨b, o + j, none⟩ = some u)
  | [], o, _ => ⟨[], rfl, fun i h => by simp at h, fun j u h => by simp at h⟩
  | x :: xs, o, h => by
    unfold RVs at h
    obtain ⟨⟨c0, c1, c2, c3, c4, c5, h0, h1, h2, h3, h4, h5, hx⟩, hr⟩ := h
    obtain ⟨es, e1, e2, e3⟩ := rvs_es hr
    refine ⟨⟨c0, c1, c2, c3, c4, c5⟩ :: es, by simp [e1], fun i hi hi' => ?_, fun j u hu => ?_⟩
    · cases i with
      | zero => exact hx
      | succ i => exact e2 i (by simpa using hi) (by simpa using hi')
    · rw [List.flatMap_cons] at hu
      by_cases hj : j < 6
      · rw [List.getElem?_append_left (by simpa [V6.cells] using hj)] at hu
        simp only [V6.cells] at hu
        match j, hj with
        | 0, _ => simp at hu; subst hu; exact h0
        | 1, _ => simp at hu; subst hu; exact h1
        | 2, _ => simp at hu; subst hu; exact h2
        | 3, _ => simp at hu; subst hu; exact h3
        | 4, _ => simp at hu; subst hu; exact h4
        | 5, _ => simp at hu; subst hu; exact h5
      · rw [List.getElem?_append_right (by simp [V6.cells]; omega)] at hu
        have := e3 (j - 6) u (by simpa [V6.cells] using hu)
        rw [show o + 6 + (j - 6) = o + j from by omega] at this
        exact this
theorem rvs_of {w : World} {g : Nat} : ∀ {l : List V} {es : List V6} {o : Nat}, es.length = l.length → (∀ i, (h : i < l.length) → (h' : i < es.length) → RV w l[i] es[i].val) → (∀ j u, (es.flatMap V6.cells)[j]? = some u → w.cell? ⟨g, o + j, none⟩ = some u) → RVs w g o l
  | [], _, _, _, _, _ => by unfold RVs; trivial
  | x :: xs, [], _, h1, _, _ => by simp at h1
  | x :: xs, e :: es, o, h1, h2, hc => by
    unfold RVs
    rw [List.flatMap_cons] at hc
    have hj : ∀ j, (hj : j < 6) → w.cell? ⟨g, o + j, none⟩ = (e.cells)[j]? := fun j hj => by
      have hl : j < e.cells.length := hj
      have := hc j e.cells[j] (by rw [List.getElem?_append_left hl, List.getElem?_eq_getElem hl])
      rw [this, List.getElem?_eq_getElem hl]
    refine ⟨⟨e.c0, e.c1, e.c2, e.c3, e.c4, e.c5, hj 0 (by omega), hj 1 (by omega), hj 2 (by omega), hj 3 (by omega), hj 4 (by omega), hj 5 (by omega), h2 0 (by simp) (by simp)⟩, ?_⟩
    refine rvs_of (by simpa using h1) (fun i h h' => h2 (i + 1) (by simpa using h) (by simpa using h')) (fun j u hu => ?_)
    have := hc (6 + j) u (by rw [List.getElem?_append_right (by simp [V6.cells])]; simpa [V6.cells] using hu)
    rw [show o + 6 + j = o + (6 + j) from by omega]
    exact this

def zVal : Value := .agg #[.int .i64 0, .int .i64 0, .float .f64 0, .string ByteArray.empty, .slice none 0 0, .slice none 0 0]
theorem Try.infoVal : (Try.prog.info? 26).map (fun i => (i.zero, i.size, i.bytes)) = some (some zVal, 6, 88) := by kernel_rfl
def Try.laysCloneV_ren : Go.Shelf.Ren := ⟨fun | 41 => 43 | n => n, fun | 22 => 23 | 23 => 26 | 4 => 4 | n => n, fun | n => n⟩
theorem Try.laysCloneV : Go.Proofs.SlLaysE0.n41 Try.prog Try.laysCloneV_ren := {
  mixed := by kernel_rfl
  f41 := ⟨Try.f43.name, by decide, Try.func43.trans (congrArg some (by kernel_rfl))⟩
  t4 := Try.underlying4
  a4 := Try.isAgg4
  z4 := Try.sizeOf4
  v4 := Try.zeroValue4
  t22 := Try.underlying23
  a22 := Try.isAgg23
  z22 := Try.sizeOf23
  v22 := Try.zeroValue23 }

/-- what slices.Clone leaves of a list of values -/
def CloneV (l : List V) (w : World) (e : Ending) (w' : World) : Prop :=
  ∃ (v' : Value) (es : List V6), e = .returned v' ∧ es.length = l.length ∧ (∀ i, (h : i < l.length) → (h' : i < es.length) → RV w l[i] es[i].val) ∧ w'.ownsRow w.heap.size 26 6 v' l.length (es.flatMap V6.cells) ∧ Ext w w'
theorem clone_vals (al : Option Addr) (lc : Nat) (l : List V) (w : World) (hl : l ≠ [] → ∃ b o, al = some ⟨b, o, none⟩ ∧ RVs w b o l) (hn : l.length * 88 ≤ reachN) (h0 : l ≠ []) :
    Calls Try.prog 43 #[.slice al l.length lc] w (CloneV l w) := by
  unfold reachN at hn
  obtain ⟨i0, hi, hz0, hz1, hz2⟩ := info_parts Try.infoVal
  have z23 : ∀ w, (Go.sizeOf 26).run Try.prog w = .ok 6 w := fun w => by kernel_rfl
  have H := fun (b off n c : Nat) (news : List Value) => AnyE.slices_Clone Try.laysCloneV i0 zVal 6 88 hi hz0 hz1 hz2 rfl (by decide) z23 b off n c news w
  obtain ⟨b, o, rfl, hr⟩ := hl h0
  obtain ⟨es, h1, h2, h3⟩ := rvs_es hr
  refine (H b o l.length lc (es.flatMap V6.cells) (by rw [six_len, h1]) (by simp [maxLen]; omega) (by omega) h3 (fun u hu => ?_)).mono fun e w' ⟨v', he, ho, _, hb⟩ => ⟨v', es, he, h1, h2, ho, hb⟩
  obtain ⟨f, hf, hu'⟩ := List.mem_flatMap.1 hu
  obtain ⟨i, hi', hfe⟩ := List.mem_iff_getElem.1 hf
  have := h2 i (by omega) hi'
  rw [hfe] at this
  exact six_one this u hu'
end Go.Proofs.Ytikpedfggbibpaa
