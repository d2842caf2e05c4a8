/- Walks: slices.Delete of values, and of texts, one element. -/
import Derived.Test.YtikpedfggbibpaaWg
import Derived.Deep.RegionLaw
import Derived.Lib.SliceRun
namespace Go.Proofs.Ytikpedfggbibpaa
open Go.RowKit Go.Lib
set_option linter.unusedVariables false
set_option linter.unusedSimpArgs false

theorem run_clear_one {P : Program} (w : World) (t e ty : TypeId) (z : Value) (zs : List Value) (ht : P.underlying t = some (.slice e)) (hv : ∀ w, (zeroValue e).run P w = .ok z w) (hz : (Builtin.zeroCells z.cells 1).toList = zs) (h1 : ∀ v ∈ zs, v.oneCell' = true) (b o c : Nat)
    (hc : ∀ j, j < zs.length → (w.cell? ⟨b, o + j, none⟩).isSome = true) (hf : ∀ j, j < zs.length → w.frozen? ⟨b, o + j, none⟩ = false) :
    (Builtin.clear_ #[t] ty #[.slice (some ⟨b, o, none⟩) 1 c]).run P w = .ok (.tuple #[]) (w.setCells b o zs) := by
  have hst := run_storeCells_cells (P := P) b o zs 0 w (by simpa using hc) (by simpa using hf) h1
  simp only [Nat.add_zero] at hst
  simp [Builtin.clear_, run_underlying ht, hv, hz, hst]

def zCells : List Value := [.int .i64 0, .int .i64 0, .float .f64 0, .string ByteArray.empty, .slice none 0 0, .slice none 0 0]
theorem Try.zeroVal (w : World) : (zeroValue 26).run Try.prog w = .ok zVal w := by kernel_rfl

/-- a row's cells, all of them there and none frozen -/
structure RowAt (w : World) (g len : Nat) (xs : List Value) : Prop where
  cells : ∀ j u, xs[j]? = some u → w.cell? ⟨g, j, none⟩ = some u
  there : ∀ j, j < len → (w.cell? ⟨g, j, none⟩).isSome = true
  free : ∀ j, w.frozen? ⟨g, j, none⟩ = false
theorem RowAt.of_own {w : World} {base e size n g cap : Nat} {xs : List Value} (h : w.ownsRow base e size (.slice (some ⟨g, 0, none⟩) n cap) n xs) : RowAt w g (cap * size) xs ∧ n ≤ cap ∧ cap ≤ maxLen := by
  rcases h.2 with ⟨h2, _⟩ | ⟨g1, cap1, cur1, h2, _, hh, hn, hm, hs, _⟩
  · cases h2
  · simp only [Value.slice.injEq, Option.some.injEq, Addr.mk.injEq, and_true, true_and] at h2
    obtain ⟨rfl, rfl⟩ := h2
    refine ⟨⟨fun j u hu => ?_, fun j hj => ?_, fun j => frozen_of_row _ _ _ _ _ hh⟩, hn, hm⟩
    · have := h.cells (g := g) rfl j u hu
      rw [Addr.add_lit, Nat.zero_add] at this
      exact this
    · rw [cell_of_row _ _ _ _ _ _ hh, Array.getElem?_eq_getElem (by omega)]
      rfl

theorem grownBy_setCells (g : Nat) : ∀ (vs : List Value) (o : Nat) (w : World), w.grownBy (w.setCells g o vs) (some g)
  | [], o, w => World.grownBy.refl _ _
  | v :: vs, o, w => by
    have h1 : w.grownBy (w.setCell ⟨g, o, none⟩ v) (some g) := ⟨rfl, rfl, rfl, by simp [World.setCell], fun k hk hne => heap_setCell_other _ _ _ _ (fun e => hne (by rw [e]))⟩
    have h2 := grownBy_setCells g vs (o + 1) (w.setCell ⟨g, o, none⟩ v)
    exact h1.andThen h2 (fun j hj => Or.inr hj)
theorem del_cells {w w1 : World} {g cap size i r : Nat} {xs news zs : List Value} (hR : RowAt w g (cap * size) xs) (hl : xs.length = (i + 1 + r) * size) (hn : i + 1 + r ≤ cap) (hnews : news = xs.drop (i * size + size)) (hw : w1 = w.drew.setCells g (0 + i * size) news) :
    ∀ j u, (xs.take (i * size) ++ xs.drop (i * size + size))[j]? = some u → (w1.setCells g ((i + r) * size) zs).cell? ⟨g, j, none⟩ = some u := fun j u hu => by
  have e1 : (i + 1 + r) * size = i * size + size + r * size := by rw [Nat.add_mul, Nat.add_mul, Nat.one_mul]
  have e2 : (i + r) * size = i * size + r * size := Nat.add_mul _ _ _
  have e3 : (i + 1 + r) * size ≤ cap * size := Nat.mul_le_mul_right _ hn
  have hlen : news.length = r * size := by rw [hnews, List.length_drop, hl]; omega
  have hlt : (xs.take (i * size)).length = i * size := by rw [List.length_take]; omega
  have hj : j < i * size + r * size := by
    have := (List.getElem?_eq_some_iff.1 hu).1
    rw [List.length_append, hlt, ← hnews, hlen] at this
    exact this
  rw [World.cell?_setCells_out _ _ _ _ _ (fun _ _ => Or.inl (by show j < _; omega)), hw]
  by_cases hc : j < i * size
  · rw [World.cell?_setCells_out _ _ _ _ _ (fun _ _ => Or.inl (by show j < _; omega))]
    rw [List.getElem?_append_left (by omega), List.getElem?_take, if_pos hc] at hu
    exact hR.cells j u hu
  · rw [List.getElem?_append_right (by omega), hlt, ← hnews] at hu
    have hj2 := (List.getElem?_eq_some_iff.1 hu)
    obtain ⟨hj3, hj4⟩ := hj2
    have := World.cell?_setCells_in g news (0 + i * size) w.drew (fun t ht => hR.there _ (by omega)) (j - i * size) hj3
    rw [show 0 + i * size + (j - i * size) = j from by omega, hj4] at this
    exact this

/-- what slices.Delete of one element leaves -/
def DelPost (g cap m size : Nat) (xs : List Value) (i : Nat) (w : World) (e : Ending) (w' : World) : Prop :=
  e = .returned (.slice (some ⟨g, 0, none⟩) m cap) ∧ (∀ j u, (xs.take (i * size) ++ xs.drop (i * size + size))[j]? = some u → w'.cell? ⟨g, j, none⟩ = some u) ∧ w.grownBy w' (some g)

set_option maxRecDepth 20000 in
set_option maxHeartbeats 4000000 in
theorem delete_vals (g cap i r : Nat) (xs : List Value) (w : World) (hR : RowAt w g (cap * 6) xs) (hl : xs.length = (i + 1 + r) * 6) (h1 : ∀ u ∈ xs, u.oneCell' = true) (hn : i + 1 + r ≤ cap) (hm : cap ≤ maxLen) :
    Calls Try.prog 45 #[.slice (some ⟨g, 0, none⟩) (i + 1 + r) cap, .int .i64 i, .int .i64 (i + 1)] w (DelPost g cap (i + r) 6 xs i w) := by
  have hm2 : cap ≤ 9223372036854775807 := by simp only [maxLen] at hm; omega
  obtain ⟨i0, hi0, hz0, hz1, hz2⟩ := info_parts Try.infoVal
  obtain ⟨news, hnews⟩ : ∃ news, news = xs.drop (i * 6 + 6) := ⟨_, rfl⟩
  have hlen : news.length = r * 6 := by rw [hnews, List.length_drop, hl]; omega
  obtain ⟨A, hA, hsrc⟩ : ∃ A : Addr, (if cap = i + 1 then some (⟨g, 0, none⟩ : Addr) else some ⟨g, (i + 1) * 6, none⟩) = some A ∧ Hid (∀ t u, news[t]? = some u → w.drew.cell? (A.add t) = some u) := by
    by_cases h : cap = i + 1
    · refine ⟨⟨g, 0, none⟩, by simp [h], fun t u hu => ?_⟩
      have h0 : news.length = 0 := by rw [hlen]; omega
      rw [List.length_eq_zero_iff.1 h0] at hu
      simp at hu
    · refine ⟨⟨g, (i + 1) * 6, none⟩, by simp [h], fun t u hu => ?_⟩
      rw [hnews, List.getElem?_drop] at hu
      rw [Addr.add_lit, show (i + 1) * 6 + t = i * 6 + 6 + t by omega]
      exact hR.cells _ _ hu
  have s1 : Hid (news.length = r * 6) := hlen
  have s2 : Hid (∀ u ∈ news, u.oneCell' = true) := fun u hu => h1 u (by rw [hnews] at hu; exact List.mem_of_mem_drop hu)
  have s3 : Hid (∀ t, t < news.length → (w.drew.cell? ⟨g, 0 + i * 6 + t, none⟩).isSome = true ∧ w.drew.frozen? ⟨g, 0 + i * 6 + t, none⟩ = false) := fun t ht => ⟨hR.there _ (by rw [hlen] at ht; have : (i + 1 + r) * 6 ≤ cap * 6 := Nat.mul_le_mul_right _ hn; omega), hR.free _⟩
  obtain ⟨W1, hW1⟩ : ∃ W1, W1 = w.drew.setCells g (0 + i * 6) news := ⟨_, rfl⟩
  have hcl : ∀ ty, (Builtin.clear_ #[23] ty #[.slice (some ⟨g, (i + r) * 6, none⟩) 1 (cap - (i + r))]).run Try.prog W1 = .ok (.tuple #[]) (W1.setCells g ((i + r) * 6) zCells) := fun ty =>
    run_clear_one W1 _ _ ty zVal zCells Try.underlying23 Try.zeroVal (by kernel_rfl) (by intro v hv; simp only [zCells, List.mem_cons, List.not_mem_nil, or_false] at hv; rcases hv with rfl | rfl | rfl | rfl | rfl | rfl <;> rfl) g _ _
      (fun j hj => by
        rw [hW1]
        exact World.isSome_setCells g news _ _ _ (hR.there _ (by have : (i + 1 + r) * 6 ≤ cap * 6 := Nat.mul_le_mul_right _ hn; have : zCells.length = 6 := rfl; omega)))
      (fun j hj => by rw [hW1, World.frozen?_setCells]; exact hR.free _)
  have hW : Hid (W1 = w.drew.setCells g (0 + i * 6) news) := hW1
  have HR := Lib.hid hR
  have HL := Lib.hid hl
  have HNW := Lib.hid hnews
  have hic : i ≤ cap := by omega
  have hjc : i + 1 ≤ cap := by omega
  have q1 : (0 : Int) ≤ (i : Int) := Int.natCast_nonneg _
  have q2 : (i : Int) ≤ (i : Int) + 1 := by omega
  have q3 : (i : Int) + 1 ≤ ((i + 1 + r : Nat) : Int) := by omega
  have q4 : ((i + 1 + r : Nat) : Int) ≤ (cap : Int) := by omega
  have q6 : (i : Int) + 1 ≤ (i : Int) + 1 + (r : Int) := by omega
  have q7 : (0 : Int) ≤ (i : Int) + 1 := by omega
  have q5 : ((i : Int) == (i : Int) + 1) = false := by simp; omega
  clear hW1 hR hl h1 hnews hlen hm
  go_enter Try.func45, Try.ntmps45
  go_wp2_with fail
  go_region_law (refine step_append_room rfl (.tmp 22) (.tmp 25) 23 rfl 26 i0 6 Try.underlying23 hi0 hz1 g 0 i cap (by simp [Act.eval, Act.put]) A r (cap - (i + 1)) news (by simp [Act.eval, Act.put]) s1.out hsrc.out s2.out (by omega) s3.out ?_; rw [← hW.out])
  have q8 : (0 : Int) ≤ (i : Int) + (r : Int) := by omega
  have q9 : (i : Int) + (r : Int) ≤ (i : Int) + 1 + (r : Int) := by omega
  have q10 : (i : Int) + 1 + (r : Int) ≤ (cap : Int) := by omega
  have q11 : ¬ cap = i + r := by omega
  have q12 : i + 1 + r - (i + r) = 1 := by omega
  have q13 : ((i : Int) + (r : Int)).toNat = i + r := by omega
  have q14 : ((i : Int) + 1 + (r : Int)).toNat = i + 1 + r := by omega
  go_wp2
  go_ret
  refine ⟨rfl, del_cells HR.out HL.out hn HNW.out hW.out, ?_⟩
  have h1 : w.grownBy W1 (some g) := by rw [hW.out]; exact grownBy_drew (grownBy_setCells g news _ w.drew)
  exact h1.andThen (grownBy_setCells g zCells _ W1) (fun j hj => Or.inr hj)

theorem Try.infoStr : (Try.prog.info? 9).map (fun i => (i.zero, i.size, i.bytes)) = some (some (.string ByteArray.empty), 1, 16) := by kernel_rfl
theorem Try.zeroStr (w : World) : (zeroValue 9).run Try.prog w = .ok (.string ByteArray.empty) w := by kernel_rfl

set_option maxRecDepth 20000 in
set_option maxHeartbeats 4000000 in
theorem delete_strs (g cap i r : Nat) (xs : List Value) (w : World) (hR : RowAt w g (cap * 1) xs) (hl : xs.length = (i + 1 + r) * 1) (h1 : ∀ u ∈ xs, u.oneCell' = true) (hn : i + 1 + r ≤ cap) (hm : cap ≤ maxLen) :
    Calls Try.prog 46 #[.slice (some ⟨g, 0, none⟩) (i + 1 + r) cap, .int .i64 i, .int .i64 (i + 1)] w (DelPost g cap (i + r) 1 xs i w) := by
  have hm2 : cap ≤ 9223372036854775807 := by simp only [maxLen] at hm; omega
  obtain ⟨i0, hi0, hz0, hz1, hz2⟩ := info_parts Try.infoStr
  obtain ⟨news, hnews⟩ : ∃ news, news = xs.drop (i * 1 + 1) := ⟨_, rfl⟩
  have hlen : news.length = r * 1 := by rw [hnews, List.length_drop, hl]; omega
  obtain ⟨A, hA, hsrc⟩ : ∃ A : Addr, (if cap = i + 1 then some (⟨g, 0, none⟩ : Addr) else some ⟨g, (i + 1) * 1, none⟩) = some A ∧ Hid (∀ t u, news[t]? = some u → w.drew.cell? (A.add t) = some u) := by
    by_cases h : cap = i + 1
    · refine ⟨⟨g, 0, none⟩, by simp [h], fun t u hu => ?_⟩
      have h0 : news.length = 0 := by rw [hlen]; omega
      rw [List.length_eq_zero_iff.1 h0] at hu
      simp at hu
    · refine ⟨⟨g, (i + 1) * 1, none⟩, by simp [h], fun t u hu => ?_⟩
      rw [hnews, List.getElem?_drop] at hu
      rw [Addr.add_lit, show (i + 1) * 1 + t = i * 1 + 1 + t by omega]
      exact hR.cells _ _ hu
  have s1 : Hid (news.length = r * 1) := hlen
  have s2 : Hid (∀ u ∈ news, u.oneCell' = true) := fun u hu => h1 u (by rw [hnews] at hu; exact List.mem_of_mem_drop hu)
  have s3 : Hid (∀ t, t < news.length → (w.drew.cell? ⟨g, 0 + i * 1 + t, none⟩).isSome = true ∧ w.drew.frozen? ⟨g, 0 + i * 1 + t, none⟩ = false) := fun t ht => ⟨hR.there _ (by rw [hlen] at ht; have : (i + 1 + r) * 1 ≤ cap * 1 := Nat.mul_le_mul_right _ hn; omega), hR.free _⟩
  obtain ⟨W1, hW1⟩ : ∃ W1, W1 = w.drew.setCells g (0 + i * 1) news := ⟨_, rfl⟩
  have hcl : ∀ ty, (Builtin.clear_ #[24] ty #[.slice (some ⟨g, (i + r) * 1, none⟩) 1 (cap - (i + r))]).run Try.prog W1 = .ok (.tuple #[]) (W1.setCells g ((i + r) * 1) [Value.string ByteArray.empty]) := fun ty =>
    run_clear_one W1 _ _ ty (.string ByteArray.empty) [Value.string ByteArray.empty] Try.underlying24 Try.zeroStr (by kernel_rfl) (by intro v hv; simp only [List.mem_cons, List.not_mem_nil, or_false] at hv; subst hv; rfl) g _ _
      (fun j hj => by
        rw [hW1]
        exact World.isSome_setCells g news _ _ _ (hR.there _ (by have : (i + 1 + r) * 1 ≤ cap * 1 := Nat.mul_le_mul_right _ hn; have : [Value.string ByteArray.empty].length = 1 := rfl; omega)))
      (fun j hj => by rw [hW1, World.frozen?_setCells]; exact hR.free _)
  have hW : Hid (W1 = w.drew.setCells g (0 + i * 1) news) := hW1
  have HR := Lib.hid hR
  have HL := Lib.hid hl
  have HNW := Lib.hid hnews
  have hic : i ≤ cap := by omega
  have hjc : i + 1 ≤ cap := by omega
  have q1 : (0 : Int) ≤ (i : Int) := Int.natCast_nonneg _
  have q2 : (i : Int) ≤ (i : Int) + 1 := by omega
  have q3 : (i : Int) + 1 ≤ ((i + 1 + r : Nat) : Int) := by omega
  have q4 : ((i + 1 + r : Nat) : Int) ≤ (cap : Int) := by omega
  have q6 : (i : Int) + 1 ≤ (i : Int) + 1 + (r : Int) := by omega
  have q7 : (0 : Int) ≤ (i : Int) + 1 := by omega
  have q5 : ((i : Int) == (i : Int) + 1) = false := by simp; omega
  clear hW1 hR hl h1 hnews hlen hm
  simp only [Nat.mul_one] at hA hcl
  go_enter Try.func46, Try.ntmps46
  go_wp2_with fail
  go_region_law (refine step_append_room rfl (.tmp 22) (.tmp 25) 24 rfl 9 i0 1 Try.underlying24 hi0 hz1 g 0 i cap (by simp [Act.eval, Act.put]) A r (cap - (i + 1)) news (by simp [Act.eval, Act.put]) s1.out hsrc.out s2.out (by omega) s3.out ?_; rw [← hW.out])
  have q8 : (0 : Int) ≤ (i : Int) + (r : Int) := by omega
  have q9 : (i : Int) + (r : Int) ≤ (i : Int) + 1 + (r : Int) := by omega
  have q10 : (i : Int) + 1 + (r : Int) ≤ (cap : Int) := by omega
  have q11 : ¬ cap = i + r := by omega
  have q12 : i + 1 + r - (i + r) = 1 := by omega
  have q13 : ((i : Int) + (r : Int)).toNat = i + r := by omega
  have q14 : ((i : Int) + 1 + (r : Int)).toNat = i + 1 + r := by omega
  go_wp2
  go_ret
  refine ⟨rfl, by have := del_cells (zs := [Value.string ByteArray.empty]) HR.out HL.out hn HNW.out hW.out; simpa only [Nat.mul_one] using this, ?_⟩
  have h1 : w.grownBy W1 (some g) := by rw [hW.out]; exact grownBy_drew (grownBy_setCells g news _ w.drew)
  exact h1.andThen (grownBy_setCells g [Value.string ByteArray.empty] _ W1) (fun j hj => Or.inr hj)
end Go.Proofs.Ytikpedfggbibpaa
