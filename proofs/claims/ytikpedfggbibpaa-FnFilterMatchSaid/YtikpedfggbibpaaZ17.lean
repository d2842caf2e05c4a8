/- Walks: members. -/
import Derived.Test.YtikpedfggbibpaaZ16
namespace Go.Proofs.Ytikpedfggbibpaa
open Go.RowKit Go.Lib
set_option linter.unusedVariables false
set_option linter.unusedSimpArgs false

def zFrag : Value := .agg #[.int .i64 0, .string ByteArray.empty, .slice none 0 0, .slice none 0 0, .int .i64 0, .int .i64 0, .int .i64 0, .float .f64 0, .string ByteArray.empty, .slice none 0 0, .slice none 0 0, .slice none 0 0, .slice none 0 0]
theorem Try.infoFrag : (Try.prog.info? 38).map (fun i => (i.zero, i.size, i.bytes)) = some (some zFrag, 13, 216) := by kernel_rfl

def J.steps : J → List Step
  | .arr l => (List.range l.length).map fun i => .nth (i : Nat)
  | .obj ks l => (sortK ks).map .child
  | _ => []

/-- steps gathered in a row of the call's own -/
def Gath (w : World) (base : Nat) (v : Value) (p : List Step) : Prop :=
  ∃ fs : List Fr, fs.length = p.length ∧ (∀ i, (h : i < p.length) → (h' : i < fs.length) → FrOk w p[i] fs[i]) ∧ w.ownsRow base 38 13 v p.length (fs.flatMap Fr.cells)
theorem ownsRow_base {w : World} {base base' e size n : Nat} {v : Value} {xs : List Value} (h : w.ownsRow base e size v n xs) (hb : base' ≤ base) : w.ownsRow base' e size v n xs := by
  refine ⟨h.1, ?_⟩
  rcases h.2 with h | ⟨g, cap, cur, e, hg, rest⟩
  · exact Or.inl h
  · exact Or.inr ⟨g, cap, cur, e, Nat.le_trans hb hg, rest⟩
theorem Gath.path {w : World} {base : Nat} {v : Value} {p : List Step} (h : Gath w base v p) : PathAt w v p := by
  obtain ⟨fs, h1, h2, h3⟩ := h
  exact ⟨fs, h1, h2, ownsRow_base h3 (Nat.zero_le _)⟩
theorem Gath.keepB {w w' : World} (k : Ext w w') {base : Nat} {v : Value} {p : List Step} (h : Gath w base v p) : Gath w' base v p := by
  obtain ⟨fs, h1, h2, h3⟩ := h
  exact ⟨fs, h1, fun i hi hi' => (h2 i hi hi').keep (t := 1000000) (by decide) (KT.of_keepB k.keepB), ownsRow_ext h3 k⟩
/-- one more -/
theorem Gath.snoc {w w' : World} {base : Nat} {v v' : Value} {p : List Step} {fs : List Fr} (h1 : fs.length = p.length) (h2 : ∀ i, (h : i < p.length) → (h' : i < fs.length) → FrOk w p[i] fs[i]) (ho : w.ownsRow base 38 13 v p.length (fs.flatMap Fr.cells))
    {f : Fr} {st : Step} (hf : FrOk w st f) (hg : w.grownBy w' v.ownBlock) (ho' : w'.ownsRow base 38 13 v' (p.length + 1) (fs.flatMap Fr.cells ++ f.cells)) : Gath w' base v' (p ++ [st]) := by
  have kt := KT.of_own ho hg
  refine ⟨fs ++ [f], by simp [h1], fun i hi hi' => ?_, ?_⟩
  · by_cases hc : i < p.length
    · rw [List.getElem_append_left hc, List.getElem_append_left (by omega)]
      exact (h2 i hc (by omega)).keep (by decide) kt
    · have hi2 : i = p.length := by simp at hi; omega
      subst hi2
      rw [List.getElem_append_right (Nat.le_refl _), List.getElem_append_right (by omega)]
      simp only [Nat.sub_self, h1, List.getElem_singleton]
      exact hf.keep (by decide) kt
  · simpa [List.flatMap_append] using ho'

theorem cells_new (w : World) (cs : List Value) (t : TypeId) : ∀ j u, cs[j]? = some u → (w.alloc (.cells cs.toArray t)).cell? ((⟨w.heap.size, 0, none⟩ : Addr).add j) = some u := fun j u h => by
  rw [Addr.add_lit, Nat.zero_add]
  have hh := heap_alloc_new w (.cells cs.toArray t)
  rw [cell_of_row _ _ _ _ _ _ hh]
  simpa using h
theorem Fr.one (f : Fr) : ∀ u ∈ f.cells, u.oneCell' = true := by
  intro u hu
  simp only [Fr.cells, List.mem_cons, List.not_mem_nil, or_false] at hu
  rcases hu with rfl | rfl | rfl | rfl | rfl | rfl | rfl | rfl | rfl | rfl | rfl | rfl | rfl <;> rfl

def StepsPost (j : J) (w : World) (e : Ending) (w' : World) : Prop := ∃ v, e = .returned v ∧ PathAt w' v j.steps ∧ Ext w w'

theorem gath_nil (w : World) (base : Nat) : Gath w base (.slice none 0 0) [] := ⟨[], rfl, fun i h => by simp at h, World.ownsRow_nil _ _ _ _⟩

set_option maxRecDepth 20000 in
set_option maxHeartbeats 2000000 in
theorem members_arr (l : List J) (hsm : l.length ≤ 1000) (v : Value) (w : World) (h : RV w (V.ofJ (.arr l)) v) : Calls Try.prog 35 #[v] w (StepsPost (.arr l) w) := by
  unfold V.ofJ RV at h
  obtain ⟨al, lc, ak, kc, rfl, z, hl, hk⟩ := h
  rw [V.ofJs_length]
  clear z hl hk
  obtain ⟨i0, hi, hz0, hz1, hz2⟩ := info_parts Try.infoFrag
  go_enter Try.func35, Try.ntmps35
  go_wp2
  go_loopw [3, 4] (fun o i wr => ∃ m : Nat, m ≤ l.length ∧ i = .int .i64 m ∧ Gath wr (w.heap.size + 1) o ((List.range m).map fun i => .nth (i : Nat)) ∧
      Below (w.heap.size + 1) (w.alloc (.cells #[.int .i64 7, .int .i64 0, .float .f64 0, .string ByteArray.empty, .slice al l.length lc, .slice ak 0 kc] 26)) wr)
    (fun _ i _ => l.length - (intOf i).toNat)
  case atStart => exact ⟨0, Nat.zero_le _, rfl, gath_nil _ _, Below.refl _ _⟩
  case round =>
    obtain ⟨m, hm, rfl, hg, hb⟩ := hrel
    obtain ⟨b0, b1, b2, b3, b4, b5⟩ := box_cells hb
    have HB := Lib.hid hb
    clear hb
    by_cases hlt : m < l.length
    · obtain ⟨fs, g1, g2, g3⟩ := hg
      have G1 := Lib.hid g1
      have G2 := Lib.hid g2
      have G3 := Lib.hid g3
      clear g1 g2 g3
      have H3 : Hid (u3.ownBlock = none ∨ ∃ k, u3.ownBlock = some k ∧ w.heap.size + 1 ≤ k) := by
        cases hq : u3.ownBlock with
        | none => exact Or.inl rfl
        | some k => exact Or.inr ⟨k, rfl, (G3.out.lt k hq).1⟩
      go_wp2_with (first
        | (go_at_call 69; refine (nth_any _ _).mono ?_; rintro e w2 ⟨rfl, hb2, hx2⟩; have HX2 := Lib.hid hx2; have HH2 := Lib.hid hb2; have G3b := Lib.hid (ownsRow_ext G3.out hx2); clear hb2 hx2)
        | (at_builtin; refine wpList_append_own _ rfl (.tmp 17) (.tmp 20) 32 rfl (w.heap.size + 1) 38 i0 zFrag 13 216 Try.underlying32 hi hz0 hz1 hz2 rfl (by decide) u3 _ _ rfl (G3b.out.alloc _) ⟨w2.heap.size, 0, none⟩ 1 1 (Fr.cells ⟨4, ByteArray.empty, some ⟨wr.heap.size + 1, 0, none⟩, 1, 1⟩) rfl rfl (cells_new w2 (Fr.cells ⟨4, ByteArray.empty, some ⟨wr.heap.size + 1, 0, none⟩, 1, 1⟩) _) (Fr.one _) (by simp [maxLen]; omega) (by simp; omega) (by have := HB.out.size; have := HX2.out.size; simp at *; omega) ?_; intro v' w3 hown3 hgrow3 _; have HO3 := Lib.hid hown3; have HG3 := Lib.hid hgrow3; clear hown3 hgrow3))
      have EX : Hid (Ext wr (w2.alloc (.cells (Fr.cells ⟨4, ByteArray.empty, some ⟨wr.heap.size + 1, 0, none⟩, 1, 1⟩).toArray 38))) := HX2.out.alloc _
      go_roundw
      case rel =>
        refine ⟨m + 1, by omega, by go_num, ?_, ?_⟩
        · rw [List.range_succ, List.map_append]
          exact Gath.snoc (f := ⟨4, ByteArray.empty, some ⟨wr.heap.size + 1, 0, none⟩, 1, 1⟩) G1.out (fun i h h' => (G2.out i h h').keep (t := 1000000) (by decide) (KT.of_keepB EX.out.keepB)) (ownsRow_ext G3.out EX.out) ⟨rfl, rfl, _, rfl, (heap_alloc_old _ _ (Array.getElem?_eq_some_iff.1 HH2.out).1).trans HH2.out⟩ HG3.out HO3.out
        · exact Below.grown (HB.out.trans (EX.out.mono (by have := HB.out.size; simp at this; omega))) HG3.out (by have := HB.out.size; have := EX.out.size; simp at *; omega) (fun k hk => by
            rcases H3.out with h | ⟨k', h, h'⟩
            · rw [h] at hk; cases hk
            · rw [h] at hk; cases hk; exact h')
      case measure => simp [intOf]; omega
    · have hm' : m = l.length := by omega
      subst hm'
      have HG := Lib.hid hg
      clear hg
      go_wp2
      go_ret
      exact ⟨_, rfl, HG.out.path, ((Ext.refl _).alloc _).trans (HB.out.mono (by simp))⟩

set_option maxRecDepth 20000 in
set_option maxHeartbeats 2000000 in
theorem members_obj (ks : List ByteArray) (l : List J) (hsm : l.length ≤ 1000) (hok : ks.length = l.length) (v : Value) (w : World) (h : RV w (V.ofJ (.obj ks l)) v) : Calls Try.prog 35 #[v] w (StepsPost (.obj ks l) w) := by
  unfold V.ofJ RV at h
  obtain ⟨al, lc, ak, kc, rfl, z, hl, hk⟩ := h
  rw [V.ofJs_length]
  have hks16 : ks.length * 16 ≤ reachN := by have := z.hkl; have := z.hkc; omega
  have HCL : Hid (∀ w1, Ext w w1 → Calls Try.prog 44 #[.slice ak ks.length kc] w1 fun e w' => ∃ v', e = .returned v' ∧ OwnStrs w' w1.heap.size v' ks ∧ Ext w1 w') := fun w1 h1 => clone_strs ak kc ks w1 (hk.keep h1.keep) hks16
  have HK16 := Lib.hid hks16
  have hk1 : ks.length ≤ 1000 := by omega
  have hsl := sortK_length ks
  clear z hl hk hks16 hsm hok
  generalize hS : sortK ks = S at hsl
  have HS := Lib.hid hS
  have HSL := Lib.hid hsl
  clear hS hsl
  obtain ⟨i0, hi, hz0, hz1, hz2⟩ := info_parts Try.infoFrag
  go_enter Try.func35, Try.ntmps35
  go_wp2_with (first
    | (go_at_call 44; refine (HCL.out _ ((Ext.refl _).alloc _)).mono ?_; rintro e w1 ⟨v', rfl, ho, hb1⟩; have HO := Lib.hid ho; have HB1 := Lib.hid hb1; clear ho hb1 HCL)
    | (go_at_call 77; refine (sort_strs _ v' ks _ HO.out HK16.out).mono ?_; rintro e w2 ⟨rfl, ho2, hg2⟩; rw [HS.out] at ho2; have HO2 := Lib.hid ho2; have HG2 := Lib.hid hg2; clear ho2 hg2))
  have EX1 : Hid (Ext w w2) := by
    have h1 : Ext w w1 := ((Ext.refl w).alloc _).trans HB1.out
    refine h1.grown HG2.out h1.size (fun k hk => ?_)
    have := (HO.out.lt k hk).1
    simp at this
    omega
  have hcell : ∀ j, (h : j < S.length) → ∃ g cap, v' = .slice (some ⟨g, 0, none⟩) S.length cap ∧ w2.cell? ⟨g, j, none⟩ = some (.string S[j]) := fun j h => by
    have ho2 := HO2.out
    unfold OwnStrs at ho2
    rcases ho2.2 with ⟨rfl, h0⟩ | ⟨g, cap, cur, rfl, hbase, hb, h1, h2, h3, h4⟩
    · omega
    · refine ⟨g, cap, rfl, ?_⟩
      have := ho2.cellAt j (by omega)
      rw [this]
      simp
  have HC := Lib.hid hcell
  have hshape : ∃ al' lc', v' = .slice al' S.length lc' := by
    have ho2 := HO2.out
    unfold OwnStrs at ho2
    rcases ho2.2 with ⟨rfl, h0⟩ | ⟨g, cap, cur, rfl, hbase, _⟩
    · exact ⟨none, 0, by rw [h0]⟩
    · exact ⟨_, _, rfl⟩
  obtain ⟨al', lc', rfl⟩ := hshape
  have hS1 : S.length ≤ 1000 := by rw [HSL.out]; exact hk1
  clear hcell HO HO2 HG2 HB1
  go_loopw [3, 6] (fun o i wr => ∃ m : Nat, m ≤ S.length ∧ i = .int .i64 m ∧ Gath wr w2.heap.size o ((S.take m).map .child) ∧ Ext w2 wr)
    (fun _ i _ => S.length - (intOf i).toNat)
  case atStart => exact ⟨0, Nat.zero_le _, rfl, gath_nil _ _, Ext.refl _⟩
  case round =>
    obtain ⟨m, hm, rfl, hg, hb⟩ := hrel
    have HB := Lib.hid hb
    clear hb
    by_cases hlt : m < S.length
    · obtain ⟨fs, g1, g2, g3⟩ := hg
      obtain ⟨g, cap, eg, hcm⟩ := HC.out m hlt
      simp only [Value.slice.injEq, true_and] at eg
      obtain ⟨rfl, rfl⟩ := eg
      have hcm := HB.out.keep _ _ hcm
      have G1 := Lib.hid g1
      have G2 := Lib.hid g2
      have hlm : ((S.take m).map Step.child).length = m := by simp; omega
      have G3 := Lib.hid g3
      clear g1 g2 g3
      rw [hlm] at G3
      have HLM := Lib.hid hlm
      generalize hsm : S[m] = sm at hcm
      have HSM := Lib.hid hsm
      have H3 : Hid (u3.ownBlock = none ∨ ∃ k, u3.ownBlock = some k ∧ w2.heap.size ≤ k) := by
        cases hq : u3.ownBlock with
        | none => exact Or.inl rfl
        | some k => exact Or.inr ⟨k, rfl, (G3.out.lt k hq).1⟩
      clear hsm hlm HC
      go_wp2_with (first
        | (go_at_call 61; refine (child_any _ _).mono ?_; rintro e w3 ⟨rfl, hx2⟩; have HX2 := Lib.hid hx2; have G3b := Lib.hid (ownsRow_ext G3.out hx2); clear hx2)
        | (at_builtin; refine wpList_append_own _ rfl (.tmp 36) (.tmp 42) 32 rfl w2.heap.size 38 i0 zFrag 13 216 Try.underlying32 hi hz0 hz1 hz2 rfl (by decide) u3 _ _ rfl (G3b.out.alloc _) ⟨w3.heap.size, 0, none⟩ 1 1 (Fr.cells ⟨3, sm, none, 0, 0⟩) rfl rfl (cells_new w3 (Fr.cells ⟨3, sm, none, 0, 0⟩) _) (Fr.one _) (by simp [maxLen]; omega) (by omega) (by have := HB.out.size; have := HX2.out.size; simp at *; omega) ?_; intro v' w4 hown3 hgrow3 _; have HO3 := Lib.hid hown3; have HG3 := Lib.hid hgrow3; clear hown3 hgrow3))
      have EX : Hid (Ext wr (w3.alloc (.cells (Fr.cells ⟨3, sm, none, 0, 0⟩).toArray 38))) := HX2.out.alloc _
      go_roundw
      case rel =>
        refine ⟨m + 1, by omega, by go_num, ?_, ?_⟩
        · rw [List.take_succ_eq_append_getElem hlt, List.map_append, HSM.out]
          exact Gath.snoc (f := ⟨3, sm, none, 0, 0⟩) G1.out (fun i h h' => (G2.out i h h').keep (t := 1000000) (by decide) (KT.of_keepB EX.out.keepB)) (by rw [HLM.out]; exact ownsRow_ext G3.out EX.out) ⟨rfl, rfl⟩ HG3.out (by rw [HLM.out]; exact HO3.out)
        · exact Below.grown (HB.out.trans EX.out) HG3.out (by have := HB.out.size; have := EX.out.size; simp at *; omega) (fun k hk => by
            rcases H3.out with h | ⟨k', h, h'⟩
            · rw [h] at hk; cases hk
            · rw [h] at hk; cases hk; exact h')
      case measure => simp [intOf]; omega
    · have hm' : m = S.length := by omega
      subst hm'
      have HG := Lib.hid hg
      clear hg HC
      go_wp2
      go_ret
      refine ⟨_, rfl, ?_, EX1.out.trans HB.out⟩
      have := HG.out.path
      rw [List.take_length, ← HS.out] at this
      exact this

theorem members_any (j : J) (hsm : j.nodes ≤ 1000) (hok : j.ok) (v : Value) (w : World) (h : RV w (V.ofJ j) v) : Calls Try.prog 35 #[v] w (StepsPost j w) := by
  have hleaf : ∀ (k n : Int) (f : Nat) (s : ByteArray), k ≠ 7 → k ≠ 8 → RV w (.mk k n f s [] []) v → Calls Try.prog 35 #[v] w (fun e w' => ∃ v, e = .returned v ∧ PathAt w' v [] ∧ Ext w w') := by
    intro k n f s h7 h8 h
    unfold RV at h
    obtain ⟨al, lc, ak, kc, rfl, z, hl, hk⟩ := h
    have q7 : (k == 7) = false := by simp [h7]
    have q8 : (k == 8) = false := by simp [h8]
    clear z hl hk h7 h8
    go_enter Try.func35, Try.ntmps35
    go_wp2
    go_ret
    exact ⟨_, rfl, (gath_nil _ 0).path, (Ext.refl _).alloc _⟩
  cases j with
  | arr l => exact members_arr l (by have := J.nodesL_len l; simp only [J.nodes] at hsm; omega) v w h
  | obj ks l =>
    unfold J.ok at hok
    exact members_obj ks l (by have := J.nodesL_len l; simp only [J.nodes] at hsm; omega) hok.2.1 v w h
  | null => exact hleaf _ _ _ _ (by decide) (by decide) h
  | bool b => exact hleaf _ _ _ _ (by decide) (by decide) h
  | int b => exact hleaf _ _ _ _ (by decide) (by decide) h
  | flt b => exact hleaf _ _ _ _ (by decide) (by decide) h
  | str b => exact hleaf _ _ _ _ (by decide) (by decide) h
end Go.Proofs.Ytikpedfggbibpaa
