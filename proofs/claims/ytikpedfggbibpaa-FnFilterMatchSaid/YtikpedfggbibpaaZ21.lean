/- slices.Clone, slices.Delete of values; slices.Delete of texts. Walks: slices.Delete of values, and of texts, one element. The plain law: what fits fits without one of its members, too. -/
import Derived.Test.YtikpedfggbibpaaZ20
import Derived.Deep.RegionLaw
import Derived.Lib.SliceRun
namespace Go.Proofs.Ytikpedfggbibpaa
open Go.RowKit Go.Lib
set_option linter.unusedVariables false
set_option linter.unusedSimpArgs false

/-- the six cells of a value -/
structure V6 where
  c0 : Value
  c1 : Value
  c2 : Value
  c3 : Value
  c4 : Value
  c5 : Value
def V6.cells (e : V6) : List Value := [e.c0, e.c1, e.c2, e.c3, e.c4, e.c5]
def V6.val (e : V6) : Value := .agg #[e.c0, e.c1, e.c2, e.c3, e.c4, e.c5]
theorem six_len (es : List V6) : (es.flatMap V6.cells).length = es.length * 6 := by
  induction es with
  | nil => rfl
  | cons f fs ih => rw [List.flatMap_cons, List.length_append, ih, List.length_cons]; show 6 + _ = _; omega
theorem six_get (es : List V6) (i j : Nat) (hi : i < es.length) (hj : j < 6) : (es.flatMap V6.cells)[i * 6 + j]? = (es[i].cells)[j]? := by
  induction es generalizing i with
  | nil => simp at hi
  | cons f fs ih =>
    rw [List.flatMap_cons]
    have hl : f.cells.length = 6 := rfl
    cases i with
    | zero => rw [List.getElem?_append_left (by omega)]; simp
    | succ i =>
      rw [List.getElem?_append_right (by omega), hl, show (i + 1) * 6 + j - 6 = i * 6 + j from by omega, ih i (by simpa using hi)]
      simp
theorem six_one {w : World} {x : V} {e : V6} (h : RV w x e.val) : ∀ u ∈ e.cells, u.oneCell' = true := fun u hu => by
  obtain ⟨k, n, f, s, al, ll, lc, ak, kl, kc, h0, h1, h2, h3, h4, h5⟩ := RV.shape h
  simp only [V6.cells, List.mem_cons, List.not_mem_nil, or_false] at hu
  rcases hu with rfl | rfl | rfl | rfl | rfl | rfl <;> simp only [h0, h1, h2, h3, h4, h5] <;> rfl

theorem rvs_es {w : World} {b : Nat} : ∀ {l : List V} {o : Nat}, RVs w b o l → ∃ es : List V6, es.length = l.length ∧ (∀ i, (h : i < l.length) → (h' : i < es.length) → RV w l[i] es[i].val) ∧ (∀ j u, (es.flatMap V6.cells)[j]? = some u → w.cell? ⟨b, o + j, none⟩ = some u)
  | [], o, _ => ⟨[], rfl, fun i h => by simp at h, fun j u h => by simp at h⟩
  | x :: xs, o, h => by
    unfold RVs at h
    obtain ⟨⟨c0, c1, c2, c3, c4, c5, h0, h1, h2, h3, h4, h5, hx⟩, hr⟩ := h
    obtain ⟨es, e1, e2, e3⟩ := rvs_es hr
    refine ⟨⟨c0, c1, c2, c3, c4, c5⟩ :: es, by simp [e1], fun i hi hi' => ?_, fun j u hu => ?_⟩
    · cases i with
      | zero => exact hx
      | succ i => exact e2 i (by simpa using hi) (by simpa using hi')
    · rw [List.flatMap_cons] at hu
      by_cases hj : j < 6
      · rw [List.getElem?_append_left (by simpa [V6.cells] using hj)] at hu
        simp only [V6.cells] at hu
        match j, hj with
        | 0, _ => simp at hu; subst hu; exact h0
        | 1, _ => simp at hu; subst hu; exact h1
        | 2, _ => simp at hu; subst hu; exact h2
        | 3, _ => simp at hu; subst hu; exact h3
        | 4, _ => simp at hu; subst hu; exact h4
        | 5, _ => simp at hu; subst hu; exact h5
      · rw [List.getElem?_append_right (by simp [V6.cells]; omega)] at hu
        have := e3 (j - 6) u (by simpa [V6.cells] using hu)
        rw [show o + 6 + (j - 6) = o + j from by omega] at this
        exact this
theorem rvs_of {w : World} {g : Nat} : ∀ {l : List V} {es : List V6} {o : Nat}, es.length = l.length → (∀ i, (h : i < l.length) → (h' : i < es.length) → RV w l[i] es[i].val) → (∀ j u, (es.flatMap V6.cells)[j]? = some u → w.cell? ⟨g, o + j, none⟩ = some u) → RVs w g o l
  | [], _, _, _, _, _ => by unfold RVs; trivial
  | x :: xs, [], _, h1, _, _ => by simp at h1
  | x :: xs, e :: es, o, h1, h2, hc => by
    unfold RVs
    rw [List.flatMap_cons] at hc
    have hj : ∀ j, (hj : j < 6) → w.cell? ⟨g, o + j, none⟩ = (e.cells)[j]? := fun j hj => by
      have hl : j < e.cells.length := hj
      have := hc j e.cells[j] (by rw [List.getElem?_append_left hl, List.getElem?_eq_getElem hl])
      rw [this, List.getElem?_eq_getElem hl]
    refine ⟨⟨e.c0, e.c1, e.c2, e.c3, e.c4, e.c5, hj 0 (by omega), hj 1 (by omega), hj 2 (by omega), hj 3 (by omega), hj 4 (by omega), hj 5 (by omega), h2 0 (by simp) (by simp)⟩, ?_⟩
    refine rvs_of (by simpa using h1) (fun i h h' => h2 (i + 1) (by simpa using h) (by simpa using h')) (fun j u hu => ?_)
    have := hc (6 + j) u (by rw [List.getElem?_append_right (by simp [V6.cells])]; simpa [V6.cells] using hu)
    rw [show o + 6 + j = o + (6 + j) from by omega]
    exact this

def zVal : Value := .agg #[.int .i64 0, .int .i64 0, .float .f64 0, .string ByteArray.empty, .slice none 0 0, .slice none 0 0]
theorem Try.infoVal : (Try.prog.info? 26).map (fun i => (i.zero, i.size, i.bytes)) = some (some zVal, 6, 88) := by kernel_rfl
def Try.laysCloneV_ren : Go.Shelf.Ren := ⟨fun | 41 => 43 | n => n, fun | 22 => 23 | 23 => 26 | 4 => 4 | n => n, fun | n => n⟩
theorem Try.laysCloneV : Go.Proofs.SlLaysE0.n41 Try.prog Try.laysCloneV_ren := {
  mixed := by kernel_rfl
  f41 := ⟨Try.f43.name, by decide, Try.func43.trans (congrArg some (by kernel_rfl))⟩
  t4 := Try.underlying4
  a4 := Try.isAgg4
  z4 := Try.sizeOf4
  v4 := Try.zeroValue4
  t22 := Try.underlying23
  a22 := Try.isAgg23
  z22 := Try.sizeOf23
  v22 := Try.zeroValue23 }

/-- what slices.Clone leaves of a list of values -/
def CloneV (l : List V) (w : World) (e : Ending) (w' : World) : Prop :=
  ∃ (v' : Value) (es : List V6), e = .returned v' ∧ es.length = l.length ∧ (∀ i, (h : i < l.length) → (h' : i < es.length) → RV w l[i] es[i].val) ∧ w'.ownsRow w.heap.size 26 6 v' l.length (es.flatMap V6.cells) ∧ Ext w w'
theorem clone_vals (al : Option Addr) (lc : Nat) (l : List V) (w : World) (hl : l ≠ [] → ∃ b o, al = some ⟨b, o, none⟩ ∧ RVs w b o l) (hn : l.length * 88 ≤ reachN) (h0 : l ≠ []) :
    Calls Try.prog 43 #[.slice al l.length lc] w (CloneV l w) := by
  unfold reachN at hn
  obtain ⟨i0, hi, hz0, hz1, hz2⟩ := info_parts Try.infoVal
  have z23 : ∀ w, (Go.sizeOf 26).run Try.prog w = .ok 6 w := fun w => by kernel_rfl
  have H := fun (b off n c : Nat) (news : List Value) => AnyE.slices_Clone Try.laysCloneV i0 zVal 6 88 hi hz0 hz1 hz2 rfl (by decide) z23 b off n c news w
  obtain ⟨b, o, rfl, hr⟩ := hl h0
  obtain ⟨es, h1, h2, h3⟩ := rvs_es hr
  refine (H b o l.length lc (es.flatMap V6.cells) (by rw [six_len, h1]) (by simp [maxLen]; omega) (by omega) h3 (fun u hu => ?_)).mono fun e w' ⟨v', he, ho, _, hb⟩ => ⟨v', es, he, h1, h2, ho, hb⟩
  obtain ⟨f, hf, hu'⟩ := List.mem_flatMap.1 hu
  obtain ⟨i, hi', hfe⟩ := List.mem_iff_getElem.1 hf
  have := h2 i (by omega) hi'
  rw [hfe] at this
  exact six_one this u hu'
end Go.Proofs.Ytikpedfggbibpaa
namespace Go.Proofs.Ytikpedfggbibpaa
open Go.RowKit Go.Lib
set_option linter.unusedVariables false
set_option linter.unusedSimpArgs false

theorem run_clear_one {P : Program} (w : World) (t e ty : TypeId) (z : Value) (zs : List Value) (ht : P.underlying t = some (.slice e)) (hv : ∀ w, (zeroValue e).run P w = .ok z w) (hz : (Builtin.zeroCells z.cells 1).toList = zs) (h1 : ∀ v ∈ zs, v.oneCell' = true) (b o c : Nat)
    (hc : ∀ j, j < zs.length → (w.cell? ⟨b, o + j, none⟩).isSome = true) (hf : ∀ j, j < zs.length → w.frozen? ⟨b, o + j, none⟩ = false) :
    (Builtin.clear_ #[t] ty #[.slice (some ⟨b, o, none⟩) 1 c]).run P w = .ok (.tuple #[]) (w.setCells b o zs) := by
  have hst := run_storeCells_cells (P := P) b o zs 0 w (by simpa using hc) (by simpa using hf) h1
  simp only [Nat.add_zero] at hst
  simp [Builtin.clear_, run_underlying ht, hv, hz, hst]

def zCells : List Value := [.int .i64 0, .int .i64 0, .float .f64 0, .string ByteArray.empty, .slice none 0 0, .slice none 0 0]
theorem Try.zeroVal (w : World) : (zeroValue 26).run Try.prog w = .ok zVal w := by kernel_rfl

/-- a row's cells, all of them there and none frozen -/
structure RowAt (w : World) (g len : Nat) (xs : List Value) : Prop where
  cells : ∀ j u, xs[j]? = some u → w.cell? ⟨g, j, none⟩ = some u
  there : ∀ j, j < len → (w.cell? ⟨g, j, none⟩).isSome = true
  free : ∀ j, w.frozen? ⟨g, j, none⟩ = false
theorem RowAt.of_own {w : World} {base e size n g cap : Nat} {xs : List Value} (h : w.ownsRow base e size (.slice (some ⟨g, 0, none⟩) n cap) n xs) : RowAt w g (cap * size) xs ∧ n ≤ cap ∧ cap ≤ maxLen := by
  rcases h.2 with ⟨h2, _⟩ | ⟨g1, cap1, cur1, h2, _, hh, hn, hm, hs, _⟩
  · cases h2
  · simp only [Value.slice.injEq, Option.some.injEq, Addr.mk.injEq, and_true, true_and] at h2
    obtain ⟨rfl, rfl⟩ := h2
    refine ⟨⟨fun j u hu => ?_, fun j hj => ?_, fun j => frozen_of_row _ _ _ _ _ hh⟩, hn, hm⟩
    · have := h.cells (g := g) rfl j u hu
      rw [Addr.add_lit, Nat.zero_add] at this
      exact this
    · rw [cell_of_row _ _ _ _ _ _ hh, Array.getElem?_eq_getElem (by omega)]
      rfl

theorem grownBy_setCells (g : Nat) : ∀ (vs : List Value) (o : Nat) (w : World), w.grownBy (w.setCells g o vs) (some g)
  | [], o, w => World.grownBy.refl _ _
  | v :: vs, o, w => by
    have h1 : w.grownBy (w.setCell ⟨g, o, none⟩ v) (some g) := ⟨rfl, rfl, rfl, by simp [World.setCell], fun k hk hne => heap_setCell_other _ _ _ _ (fun e => hne (by rw [e]))⟩
    have h2 := grownBy_setCells g vs (o + 1) (w.setCell ⟨g, o, none⟩ v)
    exact h1.andThen h2 (fun j hj => Or.inr hj)
theorem del_cells {w w1 : World} {g cap size i r : Nat} {xs news zs : List Value} (hR : RowAt w g (cap * size) xs) (hl : xs.length = (i + 1 + r) * size) (hn : i + 1 + r ≤ cap) (hnews : news = xs.drop (i * size + size)) (hw : w1 = w.drew.setCells g (0 + i * size) news) :
    ∀ j u, (xs.take (i * size) ++ xs.drop (i * size + size))[j]? = some u → (w1.setCells g ((i + r) * size) zs).cell? ⟨g, j, none⟩ = some u := fun j u hu => by
  have e1 : (i + 1 + r) * size = i * size + size + r * size := by rw [Nat.add_mul, Nat.add_mul, Nat.one_mul]
  have e2 : (i + r) * size = i * size + r * size := Nat.add_mul _ _ _
  have e3 : (i + 1 + r) * size ≤ cap * size := Nat.mul_le_mul_right _ hn
  have hlen : news.length = r * size := by rw [hnews, List.length_drop, hl]; omega
  have hlt : (xs.take (i * size)).length = i * size := by rw [List.length_take]; omega
  have hj : j < i * size + r * size := by
    have := (List.getElem?_eq_some_iff.1 hu).1
    rw [List.length_append, hlt, ← hnews, hlen] at this
    exact this
  rw [World.cell?_setCells_out _ _ _ _ _ (fun _ _ => Or.inl (by show j < _; omega)), hw]
  by_cases hc : j < i * size
  · rw [World.cell?_setCells_out _ _ _ _ _ (fun _ _ => Or.inl (by show j < _; omega))]
    rw [List.getElem?_append_left (by omega), List.getElem?_take, if_pos hc] at hu
    exact hR.cells j u hu
  · rw [List.getElem?_append_right (by omega), hlt, ← hnews] at hu
    have hj2 := (List.getElem?_eq_some_iff.1 hu)
    obtain ⟨hj3, hj4⟩ := hj2
    have := World.cell?_setCells_in g news (0 + i * size) w.drew (fun t ht => hR.there _ (by omega)) (j - i * size) hj3
    rw [show 0 + i * size + (j - i * size) = j from by omega, hj4] at this
    exact this

/-- what slices.Delete of one element leaves -/
def DelPost (g cap m size : Nat) (xs : List Value) (i : Nat) (w : World) (e : Ending) (w' : World) : Prop :=
  e = .returned (.slice (some ⟨g, 0, none⟩) m cap) ∧ (∀ j u, (xs.take (i * size) ++ xs.drop (i * size + size))[j]? = some u → w'.cell? ⟨g, j, none⟩ = some u) ∧ w.grownBy w' (some g)

set_option maxRecDepth 20000 in
set_option maxHeartbeats 4000000 in
theorem delete_vals (g cap i r : Nat) (xs : List Value) (w : World) (hR : RowAt w g (cap * 6) xs) (hl : xs.length = (i + 1 + r) * 6) (h1 : ∀ u ∈ xs, u.oneCell' = true) (hn : i + 1 + r ≤ cap) (hm : cap ≤ maxLen) :
    Calls Try.prog 45 #[.slice (some ⟨g, 0, none⟩) (i + 1 + r) cap, .int .i64 i, .int .i64 (i + 1)] w (DelPost g cap (i + r) 6 xs i w) := by
  have hm2 : cap ≤ 9223372036854775807 := by simp only [maxLen] at hm; omega
  obtain ⟨i0, hi0, hz0, hz1, hz2⟩ := info_parts Try.infoVal
  obtain ⟨news, hnews⟩ : ∃ news, news = xs.drop (i * 6 + 6) := ⟨_, rfl⟩
  have hlen : news.length = r * 6 := by rw [hnews, List.length_drop, hl]; omega
  obtain ⟨A, hA, hsrc⟩ : ∃ A : Addr, (if cap = i + 1 then some (⟨g, 0, none⟩ : Addr) else some ⟨g, (i + 1) * 6, none⟩) = some A ∧ Hid (∀ t u, news[t]? = some u → w.drew.cell? (A.add t) = some u) := by
    by_cases h : cap = i + 1
    · refine ⟨⟨g, 0, none⟩, by simp [h], fun t u hu => ?_⟩
      have h0 : news.length = 0 := by rw [hlen]; omega
      rw [List.length_eq_zero_iff.1 h0] at hu
      simp at hu
    · refine ⟨⟨g, (i + 1) * 6, none⟩, by simp [h], fun t u hu => ?_⟩
      rw [hnews, List.getElem?_drop] at hu
      rw [Addr.add_lit, show (i + 1) * 6 + t = i * 6 + 6 + t by omega]
      exact hR.cells _ _ hu
  have s1 : Hid (news.length = r * 6) := hlen
  have s2 : Hid (∀ u ∈ news, u.oneCell' = true) := fun u hu => h1 u (by rw [hnews] at hu; exact List.mem_of_mem_drop hu)
  have s3 : Hid (∀ t, t < news.length → (w.drew.cell? ⟨g, 0 + i * 6 + t, none⟩).isSome = true ∧ w.drew.frozen? ⟨g, 0 + i * 6 + t, none⟩ = false) := fun t ht => ⟨hR.there _ (by rw [hlen] at ht; have : (i + 1 + r) * 6 ≤ cap * 6 := Nat.mul_le_mul_right _ hn; omega), hR.free _⟩
  obtain ⟨W1, hW1⟩ : ∃ W1, W1 = w.drew.setCells g (0 + i * 6) news := ⟨_, rfl⟩
  have hcl : ∀ ty, (Builtin.clear_ #[23] ty #[.slice (some ⟨g, (i + r) * 6, none⟩) 1 (cap - (i + r))]).run Try.prog W1 = .ok (.tuple #[]) (W1.setCells g ((i + r) * 6) zCells) := fun ty =>
    run_clear_one W1 _ _ ty zVal zCells Try.underlying23 Try.zeroVal (by kernel_rfl) (by intro v hv; simp only [zCells, List.mem_cons, List.not_mem_nil, or_false] at hv; rcases hv with rfl | rfl | rfl | rfl | rfl | rfl <;> rfl) g _ _
      (fun j hj => by
        rw [hW1]
        exact World.isSome_setCells g news _ _ _ (hR.there _ (by have : (i + 1 + r) * 6 ≤ cap * 6 := Nat.mul_le_mul_right _ hn; have : zCells.length = 6 := rfl; omega)))
      (fun j hj => by rw [hW1, World.frozen?_setCells]; exact hR.free _)
  have hW : Hid (W1 = w.drew.setCells g (0 + i * 6) news) := hW1
  have HR := Lib.hid hR
  have HL := Lib.hid hl
  have HNW := Lib.hid hnews
  have hic : i ≤ cap := by omega
  have hjc : i + 1 ≤ cap := by omega
  have q1 : (0 : Int) ≤ (i : Int) := Int.natCast_nonneg _
  have q2 : (i : Int) ≤ (i : Int) + 1 := by omega
  have q3 : (i : Int) + 1 ≤ ((i + 1 + r : Nat) : Int) := by omega
  have q4 : ((i + 1 + r : Nat) : Int) ≤ (cap : Int) := by omega
  have q6 : (i : Int) + 1 ≤ (i : Int) + 1 + (r : Int) := by omega
  have q7 : (0 : Int) ≤ (i : Int) + 1 := by omega
  have q5 : ((i : Int) == (i : Int) + 1) = false := by simp; omega
  clear hW1 hR hl h1 hnews hlen hm
  go_enter Try.func45, Try.ntmps45
  go_wp2_with fail
  go_region_law (refine step_append_room rfl (.tmp 22) (.tmp 25) 23 rfl 26 i0 6 Try.underlying23 hi0 hz1 g 0 i cap (by simp [Act.eval, Act.put]) A r (cap - (i + 1)) news (by simp [Act.eval, Act.put]) s1.out hsrc.out s2.out (by omega) s3.out ?_; rw [← hW.out])
  have q8 : (0 : Int) ≤ (i : Int) + (r : Int) := by omega
  have q9 : (i : Int) + (r : Int) ≤ (i : Int) + 1 + (r : Int) := by omega
  have q10 : (i : Int) + 1 + (r : Int) ≤ (cap : Int) := by omega
  have q11 : ¬ cap = i + r := by omega
  have q12 : i + 1 + r - (i + r) = 1 := by omega
  have q13 : ((i : Int) + (r : Int)).toNat = i + r := by omega
  have q14 : ((i : Int) + 1 + (r : Int)).toNat = i + 1 + r := by omega
  go_wp2
  go_ret
  refine ⟨rfl, del_cells HR.out HL.out hn HNW.out hW.out, ?_⟩
  have h1 : w.grownBy W1 (some g) := by rw [hW.out]; exact grownBy_drew (grownBy_setCells g news _ w.drew)
  exact h1.andThen (grownBy_setCells g zCells _ W1) (fun j hj => Or.inr hj)

theorem Try.infoStr : (Try.prog.info? 9).map (fun i => (i.zero, i.size, i.bytes)) = some (some (.string ByteArray.empty), 1, 16) := by kernel_rfl
theorem Try.zeroStr (w : World) : (zeroValue 9).run Try.prog w = .ok (.string ByteArray.empty) w := by kernel_rfl

set_option maxRecDepth 20000 in
set_option maxHeartbeats 4000000 in
theorem delete_strs (g cap i r : Nat) (xs : List Value) (w : World) (hR : RowAt w g (cap * 1) xs) (hl : xs.length = (i + 1 + r) * 1) (h1 : ∀ u ∈ xs, u.oneCell' = true) (hn : i + 1 + r ≤ cap) (hm : cap ≤ maxLen) :
    Calls Try.prog 46 #[.slice (some ⟨g, 0, none⟩) (i + 1 + r) cap, .int .i64 i, .int .i64 (i + 1)] w (DelPost g cap (i + r) 1 xs i w) := by
  have hm2 : cap ≤ 9223372036854775807 := by simp only [maxLen] at hm; omega
  obtain ⟨i0, hi0, hz0, hz1, hz2⟩ := info_parts Try.infoStr
  obtain ⟨news, hnews⟩ : ∃ news, news = xs.drop (i * 1 + 1) := ⟨_, rfl⟩
  have hlen : news.length = r * 1 := by rw [hnews, List.length_drop, hl]; omega
  obtain ⟨A, hA, hsrc⟩ : ∃ A : Addr, (if cap = i + 1 then some (⟨g, 0, none⟩ : Addr) else some ⟨g, (i + 1) * 1, none⟩) = some A ∧ Hid (∀ t u, news[t]? = some u → w.drew.cell? (A.add t) = some u) := by
    by_cases h : cap = i + 1
    · refine ⟨⟨g, 0, none⟩, by simp [h], fun t u hu => ?_⟩
      have h0 : news.length = 0 := by rw [hlen]; omega
      rw [List.length_eq_zero_iff.1 h0] at hu
      simp at hu
    · refine ⟨⟨g, (i + 1) * 1, none⟩, by simp [h], fun t u hu => ?_⟩
      rw [hnews, List.getElem?_drop] at hu
      rw [Addr.add_lit, show (i + 1) * 1 + t = i * 1 + 1 + t by omega]
      exact hR.cells _ _ hu
  have s1 : Hid (news.length = r * 1) := hlen
  have s2 : Hid (∀ u ∈ news, u.oneCell' = true) := fun u hu => h1 u (by rw [hnews] at hu; exact List.mem_of_mem_drop hu)
  have s3 : Hid (∀ t, t < news.length → (w.drew.cell? ⟨g, 0 + i * 1 + t, none⟩).isSome = true ∧ w.drew.frozen? ⟨g, 0 + i * 1 + t, none⟩ = false) := fun t ht => ⟨hR.there _ (by rw [hlen] at ht; have : (i + 1 + r) * 1 ≤ cap * 1 := Nat.mul_le_mul_right _ hn; omega), hR.free _⟩
  obtain ⟨W1, hW1⟩ : ∃ W1, W1 = w.drew.setCells g (0 + i * 1) news := ⟨_, rfl⟩
  have hcl : ∀ ty, (Builtin.clear_ #[24] ty #[.slice (some ⟨g, (i + r) * 1, none⟩) 1 (cap - (i + r))]).run Try.prog W1 = .ok (.tuple #[]) (W1.setCells g ((i + r) * 1) [Value.string ByteArray.empty]) := fun ty =>
    run_clear_one W1 _ _ ty (.string ByteArray.empty) [Value.string ByteArray.empty] Try.underlying24 Try.zeroStr (by kernel_rfl) (by intro v hv; simp only [List.mem_cons, List.not_mem_nil, or_false] at hv; subst hv; rfl) g _ _
      (fun j hj => by
        rw [hW1]
        exact World.isSome_setCells g news _ _ _ (hR.there _ (by have : (i + 1 + r) * 1 ≤ cap * 1 := Nat.mul_le_mul_right _ hn; have : [Value.string ByteArray.empty].length = 1 := rfl; omega)))
      (fun j hj => by rw [hW1, World.frozen?_setCells]; exact hR.free _)
  have hW : Hid (W1 = w.drew.setCells g (0 + i * 1) news) := hW1
  have HR := Lib.hid hR
  have HL := Lib.hid hl
  have HNW := Lib.hid hnews
  have hic : i ≤ cap := by omega
  have hjc : i + 1 ≤ cap := by omega
  have q1 : (0 : Int) ≤ (i : Int) := Int.natCast_nonneg _
  have q2 : (i : Int) ≤ (i : Int) + 1 := by omega
  have q3 : (i : Int) + 1 ≤ ((i + 1 + r : Nat) : Int) := by omega
  have q4 : ((i + 1 + r : Nat) : Int) ≤ (cap : Int) := by omega
  have q6 : (i : Int) + 1 ≤ (i : Int) + 1 + (r : Int) := by omega
  have q7 : (0 : Int) ≤ (i : Int) + 1 := by omega
  have q5 : ((i : Int) == (i : Int) + 1) = false := by simp; omega
  clear hW1 hR hl h1 hnews hlen hm
  simp only [Nat.mul_one] at hA hcl
  go_enter Try.func46, Try.ntmps46
  go_wp2_with fail
  go_region_law (refine step_append_room rfl (.tmp 22) (.tmp 25) 24 rfl 9 i0 1 Try.underlying24 hi0 hz1 g 0 i cap (by simp [Act.eval, Act.put]) A r (cap - (i + 1)) news (by simp [Act.eval, Act.put]) s1.out hsrc.out s2.out (by omega) s3.out ?_; rw [← hW.out])
  have q8 : (0 : Int) ≤ (i : Int) + (r : Int) := by omega
  have q9 : (i : Int) + (r : Int) ≤ (i : Int) + 1 + (r : Int) := by omega
  have q10 : (i : Int) + 1 + (r : Int) ≤ (cap : Int) := by omega
  have q11 : ¬ cap = i + r := by omega
  have q12 : i + 1 + r - (i + r) = 1 := by omega
  have q13 : ((i : Int) + (r : Int)).toNat = i + r := by omega
  have q14 : ((i : Int) + 1 + (r : Int)).toNat = i + 1 + r := by omega
  go_wp2
  go_ret
  refine ⟨rfl, by have := del_cells (zs := [Value.string ByteArray.empty]) HR.out HL.out hn HNW.out hW.out; simpa only [Nat.mul_one] using this, ?_⟩
  have h1 : w.grownBy W1 (some g) := by rw [hW.out]; exact grownBy_drew (grownBy_setCells g news _ w.drew)
  exact h1.andThen (grownBy_setCells g [Value.string ByteArray.empty] _ W1) (fun j hj => Or.inr hj)
end Go.Proofs.Ytikpedfggbibpaa
namespace Go.Proofs.Ytikpedfggbibpaa
open Go.RowKit Go.Lib
set_option linter.unusedVariables false
set_option linter.unusedSimpArgs false

/-- the place of a text in a list -/
def posOf (ks : List ByteArray) (s : ByteArray) : Nat := (Lib.idxOfS ks s).toNat
theorem posOf_eq {ks : List ByteArray} {q : Nat} {s : ByteArray} (h : ks[q]? = some s) (hn : ks.Nodup) : posOf ks s = q := by
  unfold posOf
  rw [idx_nodup h hn]
  omega

/-- a datum without the member that a path leads to -/
def J.wo : List Step → J → J
  | [], j => j
  | st :: p, .arr l => match st with
    | .nth n => if p.isEmpty then .arr (l.eraseIdx n.toNat) else .arr (l.set n.toNat (J.wo p ((J.arr l).at1 (.nth n))))
    | .child _ => .arr l
  | st :: p, .obj ks l => match st with
    | .child s => if p.isEmpty then .obj (ks.eraseIdx (posOf ks s)) (l.eraseIdx (posOf ks s)) else .obj ks (l.set (posOf ks s) (J.wo p ((J.obj ks l).at1 (.child s))))
    | .nth _ => .obj ks l
  | _ :: _, j => j

def lastChild : List Step → Prop
  | [] => False
  | [.child _] => True
  | [.nth _] => False
  | _ :: p => lastChild p
theorem lastChild_tail {st st' : Step} {p : List Step} (h : lastChild (st :: st' :: p)) : lastChild (st' :: p) := by
  cases st <;> exact h

theorem J.oks_of : ∀ {l : List J}, (∀ q, (h : q < l.length) → (l[q]).ok) → J.oks l
  | [], _ => by unfold J.oks; trivial
  | x :: xs, h => by
    unfold J.oks
    exact ⟨h 0 (by simp), J.oks_of fun q hq => h (q + 1) (by simpa using hq)⟩
theorem J.nofls_of : ∀ {l : List J}, (∀ q, (h : q < l.length) → (l[q]).nofl) → J.nofls l
  | [], _ => by unfold J.nofls; trivial
  | x :: xs, h => by
    unfold J.nofls
    exact ⟨h 0 (by simp), J.nofls_of fun q hq => h (q + 1) (by simpa using hq)⟩
theorem nodesL_set : ∀ (l : List J) (n : Nat) (x : J) (h : n < l.length), x.nodes ≤ (l[n]).nodes → J.nodesL (l.set n x) ≤ J.nodesL l
  | y :: ys, 0, x, _, hx => by simp only [List.set_cons_zero, J.nodesL, List.getElem_cons_zero] at *; omega
  | y :: ys, n + 1, x, h, hx => by
    have := nodesL_set ys n x (by simpa using h) (by simpa using hx)
    simp only [List.set_cons_succ, J.nodesL]
    omega
theorem nodesL_erase : ∀ (l : List J) (n : Nat), J.nodesL (l.eraseIdx n) ≤ J.nodesL l
  | [], _ => by simp
  | y :: ys, 0 => by simp [J.nodesL]
  | y :: ys, n + 1 => by
    have := nodesL_erase ys n
    simp only [List.eraseIdx_cons_succ, J.nodesL]
    omega

/-- what the law of FnFitsLess says of one value -/
structure WoOk (p : List Step) (j : J) : Prop where
  ok : (J.wo p j).ok
  nofl : j.nofl → (J.wo p j).nofl
  nodes : (J.wo p j).nodes ≤ j.nodes
  fits : ∀ t, jm j t = true → jm (J.wo p j) t = true

theorem wo_ok : ∀ (p : List Step) (j : J), j.ok → J.has p j → lastChild p → WoOk p j
  | [], j, _, _, hl => hl.elim
  | st :: p, .null, _, hh, _ => by obtain ⟨⟨q, hq⟩, _⟩ := hh; cases st <;> exact hq.elim
  | st :: p, .bool _, _, hh, _ => by obtain ⟨⟨q, hq⟩, _⟩ := hh; cases st <;> exact hq.elim
  | st :: p, .int _, _, hh, _ => by obtain ⟨⟨q, hq⟩, _⟩ := hh; cases st <;> exact hq.elim
  | st :: p, .flt _, _, hh, _ => by obtain ⟨⟨q, hq⟩, _⟩ := hh; cases st <;> exact hq.elim
  | st :: p, .str _, _, hh, _ => by obtain ⟨⟨q, hq⟩, _⟩ := hh; cases st <;> exact hq.elim
  | .child s :: p, .arr l, _, hh, _ => by obtain ⟨⟨q, hq⟩, _⟩ := hh; exact hq.elim
  | .nth n :: p, .obj ks l, _, hh, _ => by obtain ⟨⟨q, hq⟩, _⟩ := hh; exact hq.elim
  | .nth n :: p, .arr l, hj, hh, hl => by
    obtain ⟨⟨q, hq⟩, h2⟩ := hh
    have hat := J.at1_kid hj hq
    have hok := J.at1_ok hj hq
    obtain ⟨rfl, hql⟩ := hq
    cases p with
    | nil => exact hl.elim
    | cons st' p =>
      have ih := wo_ok (st' :: p) _ hok h2 (lastChild_tail hl)
      have hwo : J.wo (.nth (q : Int) :: st' :: p) (.arr l) = .arr (l.set q (J.wo (st' :: p) ((J.arr l).at1 (.nth (q : Int))))) := by
        simp [J.wo]
      simp only [J.kids] at hat
      rw [hat] at ih hwo
      unfold J.ok at hj
      obtain ⟨i1, i2, i3, i4⟩ := ih
      generalize J.wo (st' :: p) l[q] = x at i1 i2 i3 i4 hwo
      refine ⟨?_, fun hnf => ?_, ?_, fun t ht => ?_⟩
      · rw [hwo]
        unfold J.ok
        refine J.oks_of fun i hi => ?_
        rw [List.getElem_set]
        split
        · exact i1
        · exact J.oks_get hj i (by simpa using hi)
      · rw [hwo]
        unfold J.nofl at hnf ⊢
        refine J.nofls_of fun i hi => ?_
        rw [List.getElem_set]
        split
        · exact i2 (J.nofls_get hnf q hql)
        · exact J.nofls_get hnf i (by simpa using hi)
      · rw [hwo]
        simp only [J.nodes]
        have := nodesL_set l q x hql i3
        omega
      · rw [hwo]
        cases t with
        | arr m =>
          unfold jm at ht ⊢
          have hlen := jms_len ht
          refine jms_of (by simpa using hlen) fun i h h' => ?_
          have hg := jms_get ht i (by simpa using h) h'
          rw [List.getElem_set]
          split
          · rename_i e
            subst e
            exact i4 _ hg
          · exact hg
        | _ => simp [jm] at ht
  | .child s :: p, .obj ks l, hj, hh, hl => by
    obtain ⟨⟨q, hq⟩, h2⟩ := hh
    have hat := J.at1_kid hj hq
    have hok := J.at1_ok hj hq
    have hj' := hj
    unfold J.ok at hj'
    obtain ⟨hnd, hlen, hoks⟩ := hj'
    obtain ⟨hqs, hql⟩ := hq
    have hpos := posOf_eq hqs hnd
    have hqk : q < ks.length := (List.getElem?_eq_some_iff.1 hqs).1
    cases p with
    | nil =>
      have hwo : J.wo [.child s] (.obj ks l) = .obj (ks.eraseIdx q) (l.eraseIdx q) := by simp [J.wo, hpos]
      refine ⟨?_, fun hnf => ?_, ?_, fun t ht => ?_⟩
      · rw [hwo]
        unfold J.ok
        refine ⟨(List.eraseIdx_sublist ks q).nodup hnd, by rw [List.length_eraseIdx_of_lt hqk, List.length_eraseIdx_of_lt hql, hlen], J.oks_of fun i hi => ?_⟩
        rw [List.getElem_eraseIdx]
        split
        · exact J.oks_get hoks i _
        · exact J.oks_get hoks (i + 1) _
      · rw [hwo]
        unfold J.nofl at hnf ⊢
        refine J.nofls_of fun i hi => ?_
        rw [List.getElem_eraseIdx]
        split
        · exact J.nofls_get hnf i _
        · exact J.nofls_get hnf (i + 1) _
      · rw [hwo]
        simp only [J.nodes]
        have := nodesL_erase l q
        omega
      · rw [hwo]
        cases t with
        | obj ks' l' =>
          unfold jm at ht ⊢
          refine jmo_of fun i h h' => ?_
          rw [List.length_eraseIdx_of_lt hqk] at h
          rw [List.getElem_eraseIdx, List.getElem_eraseIdx]
          split
          · exact jmo_get ht i (by omega) (by omega)
          · exact jmo_get ht (i + 1) (by omega) (by omega)
        | _ => simp [jm] at ht
    | cons st' p =>
      have ih := wo_ok (st' :: p) _ hok h2 (lastChild_tail hl)
      have hwo : J.wo (.child s :: st' :: p) (.obj ks l) = .obj ks (l.set q (J.wo (st' :: p) ((J.obj ks l).at1 (.child s)))) := by
        simp [J.wo, hpos]
      simp only [J.kids] at hat
      rw [hat] at ih hwo
      obtain ⟨i1, i2, i3, i4⟩ := ih
      generalize J.wo (st' :: p) l[q] = x at i1 i2 i3 i4 hwo
      refine ⟨?_, fun hnf => ?_, ?_, fun t ht => ?_⟩
      · rw [hwo]
        unfold J.ok
        refine ⟨hnd, by simpa using hlen, J.oks_of fun i hi => ?_⟩
        rw [List.getElem_set]
        split
        · exact i1
        · exact J.oks_get hoks i (by simpa using hi)
      · rw [hwo]
        unfold J.nofl at hnf ⊢
        refine J.nofls_of fun i hi => ?_
        rw [List.getElem_set]
        split
        · exact i2 (J.nofls_get hnf q hql)
        · exact J.nofls_get hnf i (by simpa using hi)
      · rw [hwo]
        simp only [J.nodes]
        have := nodesL_set l q x hql i3
        omega
      · rw [hwo]
        cases t with
        | obj ks' l' =>
          unfold jm at ht ⊢
          refine jmo_of fun i h h' => ?_
          have hg := jmo_get ht i h (by simpa using h')
          rw [List.getElem_set]
          split
          · rename_i e
            subst e
            exact i4 _ hg
          · exact hg
        | _ => simp [jm] at ht
end Go.Proofs.Ytikpedfggbibpaa
