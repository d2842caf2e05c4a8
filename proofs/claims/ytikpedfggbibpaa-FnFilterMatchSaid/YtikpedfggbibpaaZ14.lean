/- Walks: right. -/
import Derived.Test.YtikpedfggbibpaaZ13
import Derived.Deep.RegionHeld3
namespace Go.Proofs.Ytikpedfggbibpaa
open Go.RowKit Go.Lib
set_option linter.unusedVariables false
set_option linter.unusedSimpArgs false

theorem nodup_sortK {ks : List ByteArray} (h : ks.Nodup) : (sortK ks).Nodup := (sortK_perm ks).nodup_iff.2 h
theorem ownsRow_drew {w : World} {base e size n : Nat} {v : Value} {xs : List Value} (h : w.ownsRow base e size v n xs) : w.drew.ownsRow base e size v n xs := h
theorem grownBy_drew {w w' : World} {r : Option Nat} (h : w.drew.grownBy w' r) : w.grownBy w' r := ⟨h.os, h.tape, h.output, h.size, h.block⟩

theorem keepAt {wX w3 : World} {r : Option Nat} (hg : wX.grownBy w3 r) {b : Nat} (hr : ∀ k, r = some k → b + 1 ≤ k) : ∀ i v, wX.cell? ⟨b, i, none⟩ = some v → w3.cell? ⟨b, i, none⟩ = some v := fun i v h => by
  rw [World.cell?_of_block (hg.block b (lt_of_cell h) (fun e => by have := hr b e.symm; omega))]
  exact h
theorem never {n : Nat} {b : Bool} (h : b = true ↔ ∃ q, q < n ∧ (fun _ : Nat => false) q = true) : b = false := by
  cases b
  · rfl
  · obtain ⟨q, _, h⟩ := h.1 rfl
    cases h

set_option maxRecDepth 20000 in
set_option maxHeartbeats 2000000 in
theorem right_obj (N : Nat) (ih : ∀ (j : J), j.nodes ≤ N → j.ok → RightAt j) (ks : List ByteArray) (l : List J) (hN : (J.obj ks l).nodes ≤ N + 1) (hok : (J.obj ks l).ok) : RightAt (.obj ks l) := by
  intro v w h
  unfold V.ofJ RV at h
  obtain ⟨al, lc, ak, kc, rfl, z, hl, hk⟩ := h
  rw [V.ofJs_length] at *
  unfold J.ok at hok
  have hll : l.length ≤ reachN := by have := z.hll; have := z.hlc; omega
  have hks16 : ks.length * 16 ≤ reachN := by have := z.hkl; have := z.hkc; omega
  have HCF : Hid (∀ w1, Keep w w1 → Calls Try.prog 15 #[.slice al l.length lc, .func (.func 82) #[] #[]] w1 (AnyPost (fun _ => false) l.length w1)) := fun w1 h1 => by
    have := containsFunc_any 82 #[] Try.entersRight2 (V.ofJs l) (fun _ => false) al lc w1 (fun hn => by obtain ⟨b, o, e, hr⟩ := hl hn; exact ⟨b, o, e, RVs.keep h1 _ hr⟩) (by rw [V.ofJs_length]; exact hll) (fun q hq v w' he hv => by
      have hq' : q < l.length := by rw [V.ofJs_length] at hq; exact hq
      rw [V.ofJs_get _ _ hq'] at hv
      have h1 := J.nodes_mem (List.getElem_mem hq')
      simp only [J.nodes] at hN
      exact right2_of (ih l[q] (by omega) (J.oks_get hok.2.2 q hq')) v w' hv)
    rw [V.ofJs_length] at this
    exact this
  have HCL : Hid (∀ w1, Ext w w1 → Calls Try.prog 44 #[.slice ak ks.length kc] w1 fun e w' => ∃ v', e = .returned v' ∧ OwnStrs w' w1.heap.size v' ks ∧ Ext w1 w') := fun w1 h1 => clone_strs ak kc ks w1 (hk.keep h1.keep) hks16
  have HK16 := Lib.hid hks16
  have HKL : Hid (ks.length = l.length) := hok.2.1
  have hkq : ((ks.length : Int) == (l.length : Int)) = true := by rw [hok.2.1]; simp
  have hkls : ks.length ≤ 140737488351232 := by unfold reachN at hks16; omega
  have HND : Hid ks.Nodup := hok.1
  have hl63 : l.length ≤ 140737488351232 := by unfold reachN at hll; omega
  clear ih hN hok hl hk z hks16 hll
  go_enter Try.func37, Try.ntmps37
  go_wp2_with (first
    | (go_at_call 44; refine (HCL.out _ ((Ext.refl _).alloc _)).mono ?_; rintro e w1 ⟨v', rfl, ho, hb1⟩; have HO := Lib.hid ho; have HB1 := Lib.hid hb1; clear ho hb1)
    | (go_at_call 77; refine (sort_strs _ v' ks _ HO.out HK16.out).mono ?_; rintro e w2 ⟨rfl, ho2, hg2⟩; have HO2 := Lib.hid ho2; have HG2 := Lib.hid hg2; clear ho2 hg2))
  have hgt : ∀ k, v'.ownBlock = some k → w.heap.size + 1 ≤ k := fun k hk => by
    rcases HO.out.2 with ⟨rfl, _⟩ | ⟨g, cap, cur, rfl, hbase, _⟩
    · cases hk
    · simp only [Value.ownBlock, Option.some.injEq] at hk
      simp at hbase
      omega
  have HGT := Lib.hid hgt
  have EX1 : Hid (Ext w w2) := by
    have h1 : Ext w w1 := ((Ext.refl w).alloc _).trans HB1.out
    exact h1.grown HG2.out h1.size (fun k hk => by have := HGT.out k hk; omega)
  have HBX : Hid (Below (w.heap.size + 1) (w.alloc (Obj.cells #[.int .i64 8, .int .i64 0, .float .f64 0, .string ByteArray.empty, .slice al l.length lc, .slice ak ks.length kc] 26)) w2) := by
    have h1 : Below (w.heap.size + 1) (w.alloc (Obj.cells #[.int .i64 8, .int .i64 0, .float .f64 0, .string ByteArray.empty, .slice al l.length lc, .slice ak ks.length kc] 26)) w1 := HB1.out.mono (by simp)
    exact h1.grown HG2.out (by have := h1.size; simp at this; exact this) (fun k hk => HGT.out k hk)
  obtain ⟨b0, b1, b2, b3, b4, b5⟩ := box_cells HBX.out
  have hkn : ((sortK ks).length : Nat) = ks.length := sortK_length ks
  have HCO : Hid (∀ w3 : World, w3.heap = w2.heap → Calls Try.prog 81 #[v'] w3 fun e w' => e = .returned v' ∧ w3.grownBy w' v'.ownBlock) := fun w3 h3 => compact_strs (w.heap.size + 1) v' (sortK ks) w3 (by
    have := HO2.out
    unfold OwnStrs World.ownsRow at this ⊢
    rw [h3]
    simpa using this) (nodup_sortK HND.out) (by rw [hkn]; exact HK16.out)
  have hshape : ∃ al' lc', v' = .slice al' ks.length lc' := by
    rcases HO.out.2 with ⟨rfl, h0⟩ | ⟨g, cap, cur, rfl, hbase, _⟩
    · exact ⟨none, 0, by rw [h0]⟩
    · exact ⟨_, _, rfl⟩
  obtain ⟨al', lc', rfl⟩ := hshape
  clear hkn hgt
  clear HO HO2 HCL HB1 b0 b1 b2 b3
  go_region_held3 (fun w' => w'.cell? ⟨w.heap.size, 4, none⟩ = some (.slice al l.length lc) ∧ w'.cell? ⟨w.heap.size, 5, none⟩ = some (.slice ak ks.length kc))
    (first
      | go_keep
      | (go_split_ands
         exact ⟨hk3 _ _ (by assumption), hk3 _ _ (by assumption)⟩)
      | (go_split_ands
         exact ⟨hk4 _ _ (by assumption), hk4 _ _ (by assumption)⟩))
    (first
      | (go_at_call 81; refine (HCO.out _ (by rfl)).mono ?_; rintro e w3 ⟨rfl, hg3⟩; have hk3 := keepAt hg3 HGT.out; have B3 : Hid (Ext w w3) := (by first | exact EX1.out.grown hg3 EX1.out.size (fun k hk => by have := HGT.out k hk; omega) | exact (Ext.drew EX1.out).grown hg3 EX1.out.size (fun k hk => by have := HGT.out k hk; omega)); clear hg3)
      | (go_at_call 15; refine (HCF.out _ B3.out.keep).mono ?_; rintro e w4 ⟨b, rfl, hb, hb4⟩; obtain rfl := never hb; have hk4 := hb4.keep; have B4 : Hid (Ext w w4) := B3.out.trans hb4; clear hb4 hb))
  go_wp2
  go_ret
  exact .mk rfl B4.out

set_option maxHeartbeats 2000000 in
theorem right_any (N : Nat) : ∀ (j : J), j.nodes ≤ N → j.ok → RightAt j := by
  induction N with
  | zero => intro j hj; have := j.nodes_pos; omega
  | succ N ih =>
  intro j hN hok
  cases j with
  | obj ks l => exact right_obj N ih ks l hN hok
  | arr l =>
    intro v w h
    unfold V.ofJ RV at h
    obtain ⟨al, lc, ak, kc, rfl, z, hl, hk⟩ := h
    rw [V.ofJs_length] at *
    unfold J.ok at hok
    have hll : l.length ≤ reachN := by have := z.hll; have := z.hlc; omega
    have HCF : Hid (∀ w1, Keep w w1 → Calls Try.prog 15 #[.slice al l.length lc, .func (.func 80) #[] #[]] w1 (AnyPost (fun _ => false) l.length w1)) := fun w1 h1 => by
      have := containsFunc_any 80 #[] Try.entersRight1 (V.ofJs l) (fun _ => false) al lc w1 (fun hn => by obtain ⟨b, o, e, hr⟩ := hl hn; exact ⟨b, o, e, RVs.keep h1 _ hr⟩) (by rw [V.ofJs_length]; exact hll) (fun q hq v w' he hv => by
        have hq' : q < l.length := by rw [V.ofJs_length] at hq; exact hq
        rw [V.ofJs_get _ _ hq'] at hv
        have h1 := J.nodes_mem (List.getElem_mem hq')
        simp only [J.nodes] at hN
        exact right1_of (ih l[q] (by omega) (J.oks_get hok q hq')) v w' hv)
      rw [V.ofJs_length] at this
      exact this
    clear ih hN hok hl hk z hll
    go_enter Try.func37, Try.ntmps37
    go_wp2_with (go_at_call 15; refine (HCF.out _ (Keep.alloc _ _)).mono ?_; rintro e w4 ⟨b, rfl, hb, hb4⟩; obtain rfl := never hb; have B4 : Hid (Ext w w4) := ((Ext.refl _).alloc _).trans hb4; clear hb4 hb)
    go_ret
    exact .mk rfl B4.out
  | flt b =>
    intro v w h
    unfold V.ofJ RV at h
    obtain ⟨al, lc, ak, kc, rfl, z, hl, hk⟩ := h
    unfold J.ok at hok
    obtain ⟨h1, h2⟩ := hok
    clear ih hN hl hk z
    go_enter Try.func37, Try.ntmps37
    go_wp2_with (first | (go_at_call 78; refine (isNaN_any _ _).mono ?_; rintro e w' ⟨rfl, rfl⟩) | (go_at_call 79; refine (isInf_any _ _).mono ?_; rintro e w' ⟨rfl, rfl⟩))
    all_goals go_ret
    all_goals exact .mk (by simp_all) ((Ext.refl _).alloc _)
  | bool b =>
    intro v w h
    unfold V.ofJ RV at h
    obtain ⟨al, lc, ak, kc, rfl, z, hl, hk⟩ := h
    clear ih hN hl hk z hok
    cases b
    all_goals (go_enter Try.func37, Try.ntmps37)
    all_goals go_wp2
    all_goals go_ret
    all_goals exact .mk rfl ((Ext.refl _).alloc _)
  | null =>
    intro v w h
    unfold V.ofJ RV at h
    obtain ⟨al, lc, ak, kc, rfl, z, hl, hk⟩ := h
    clear ih hN hl hk z hok
    go_enter Try.func37, Try.ntmps37
    go_wp2
    go_ret
    exact .mk rfl ((Ext.refl _).alloc _)
  | int n =>
    intro v w h
    unfold V.ofJ RV at h
    obtain ⟨al, lc, ak, kc, rfl, z, hl, hk⟩ := h
    clear ih hN hl hk z hok
    go_enter Try.func37, Try.ntmps37
    go_wp2
    go_ret
    exact .mk rfl ((Ext.refl _).alloc _)
  | str s =>
    intro v w h
    unfold V.ofJ RV at h
    obtain ⟨al, lc, ak, kc, rfl, z, hl, hk⟩ := h
    clear ih hN hl hk z hok
    go_enter Try.func37, Try.ntmps37
    go_wp2
    go_ret
    exact .mk rfl ((Ext.refl _).alloc _)
end Go.Proofs.Ytikpedfggbibpaa
