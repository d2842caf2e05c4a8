/- Walks: differing (of leaves). -/
import Derived.Test.YtikpedfggbibpaaDq
namespace Go.Proofs.Ytikpedfggbibpaa
open Go.RowKit Go.Lib
set_option linter.unusedVariables false
set_option linter.unusedSimpArgs false

/-- places in a row of the call's own come back -/
def PlsPost (ps : List (List Step)) (w : World) (e : Ending) (w' : World) : Prop := ∃ v, e = .returned v ∧ PLs PathN w' w.heap.size v ps ∧ Ext w w'

theorem PathN.ext' {w w' : World} {v : Value} {p : List Step} (h : PathN w v p) (k : Ext w w') : PathN w' v p := PathN.pq.ext k h

set_option maxRecDepth 100000 in
set_option maxHeartbeats 2000000 in
theorem differing_k7 (x y : V) (h7 : x.kind = 7) (h7' : y.kind ≠ 7) (r : Bool) (p : List Step) (va vb vp : Value) (w : World) (ha : RV w x va) (hb : RV w y vb) (hp : PathN w vp p) (hA : ∀ w1, Ext w w1 → Calls Try.prog 58 #[va, vb] w1 (Gives (.bool r) w1)) :
    Calls Try.prog 24 #[va, vb, vp] w (PlsPost (if r then [] else [p]) w) := by
  obtain ⟨pa, pn, pc, rfl⟩ := PathN.pq.shape hp
  obtain ⟨al, lc, ak, kc, rfl⟩ := ha.six
  obtain ⟨al', lc', ak', kc', rfl⟩ := hb.six
  have HA := Lib.hid hA
  have HP := Lib.hid hp
  clear ha hb hA hp
  generalize x.kind = k at *
  generalize y.kind = k' at *
  generalize x.l.length = L1 at *
  generalize y.l.length = L2 at *
  generalize x.keys.length = L3 at *
  generalize y.keys.length = L4 at *
  subst h7
  have e1 : (k' == 7) = false := by simp [h7']
  clear h7' 
  cases r
  · simp only [Bool.false_eq_true, if_false]
    go_enter Try.func24, Try.ntmps24
    go_wp2_with (first
      | (go_at_call 58; refine (HA.out _ (((Ext.refl _).alloc _).alloc _)).mono ?_; rintro e w1 ⟨rfl, hx⟩; have HX : Hid (Ext w w1) := (((Ext.refl _).alloc _).alloc _).trans hx; clear hx HA)
      | (at_builtin; refine wpList_place PathN.pq (.tmp 114) (.tmp 116) rfl rfl w w1 (.slice none 0 0) (.slice pa pn pc) [] p (PLs.nil _ _ _) (HP.out.ext' HX.out) HX.out (by simp) w1.heap.size rfl rfl rfl ?_; intro g9 c9 w9 hp9 hx9; have HP9 := Lib.hid hp9; have HX9 := Lib.hid hx9; clear hp9 hx9))
    go_ret
    exact ⟨_, rfl, HP9.out, HX9.out⟩
  · simp only [if_true]
    go_enter Try.func24, Try.ntmps24
    go_wp2_with (go_at_call 58; refine (HA.out _ (((Ext.refl _).alloc _).alloc _)).mono ?_; rintro e w1 ⟨rfl, hx⟩; have HX : Hid (Ext w w1) := (((Ext.refl _).alloc _).alloc _).trans hx; clear hx HA)
    go_ret
    exact ⟨_, rfl, PLs.nil _ _ _, HX.out⟩

set_option maxRecDepth 100000 in
set_option maxHeartbeats 2000000 in
theorem differing_k8 (x y : V) (h8 : x.kind = 8) (h8' : y.kind ≠ 8) (r : Bool) (p : List Step) (va vb vp : Value) (w : World) (ha : RV w x va) (hb : RV w y vb) (hp : PathN w vp p) (hA : ∀ w1, Ext w w1 → Calls Try.prog 58 #[va, vb] w1 (Gives (.bool r) w1)) :
    Calls Try.prog 24 #[va, vb, vp] w (PlsPost (if r then [] else [p]) w) := by
  obtain ⟨pa, pn, pc, rfl⟩ := PathN.pq.shape hp
  obtain ⟨al, lc, ak, kc, rfl⟩ := ha.six
  obtain ⟨al', lc', ak', kc', rfl⟩ := hb.six
  have HA := Lib.hid hA
  have HP := Lib.hid hp
  clear ha hb hA hp
  generalize x.kind = k at *
  generalize y.kind = k' at *
  generalize x.l.length = L1 at *
  generalize y.l.length = L2 at *
  generalize x.keys.length = L3 at *
  generalize y.keys.length = L4 at *
  subst h8
  have e1 : (k' == 8) = false := by simp [h8']
  clear h8' 
  cases r
  · simp only [Bool.false_eq_true, if_false]
    go_enter Try.func24, Try.ntmps24
    go_wp2_with (first
      | (go_at_call 58; refine (HA.out _ (((Ext.refl _).alloc _).alloc _)).mono ?_; rintro e w1 ⟨rfl, hx⟩; have HX : Hid (Ext w w1) := (((Ext.refl _).alloc _).alloc _).trans hx; clear hx HA)
      | (at_builtin; refine wpList_place PathN.pq (.tmp 114) (.tmp 116) rfl rfl w w1 (.slice none 0 0) (.slice pa pn pc) [] p (PLs.nil _ _ _) (HP.out.ext' HX.out) HX.out (by simp) w1.heap.size rfl rfl rfl ?_; intro g9 c9 w9 hp9 hx9; have HP9 := Lib.hid hp9; have HX9 := Lib.hid hx9; clear hp9 hx9))
    go_ret
    exact ⟨_, rfl, HP9.out, HX9.out⟩
  · simp only [if_true]
    go_enter Try.func24, Try.ntmps24
    go_wp2_with (go_at_call 58; refine (HA.out _ (((Ext.refl _).alloc _).alloc _)).mono ?_; rintro e w1 ⟨rfl, hx⟩; have HX : Hid (Ext w w1) := (((Ext.refl _).alloc _).alloc _).trans hx; clear hx HA)
    go_ret
    exact ⟨_, rfl, PLs.nil _ _ _, HX.out⟩

set_option maxRecDepth 100000 in
set_option maxHeartbeats 2000000 in
theorem differing_k (x y : V) (h7 : x.kind ≠ 7) (h8 : x.kind ≠ 8) (r : Bool) (p : List Step) (va vb vp : Value) (w : World) (ha : RV w x va) (hb : RV w y vb) (hp : PathN w vp p) (hA : ∀ w1, Ext w w1 → Calls Try.prog 58 #[va, vb] w1 (Gives (.bool r) w1)) :
    Calls Try.prog 24 #[va, vb, vp] w (PlsPost (if r then [] else [p]) w) := by
  obtain ⟨pa, pn, pc, rfl⟩ := PathN.pq.shape hp
  obtain ⟨al, lc, ak, kc, rfl⟩ := ha.six
  obtain ⟨al', lc', ak', kc', rfl⟩ := hb.six
  have HA := Lib.hid hA
  have HP := Lib.hid hp
  clear ha hb hA hp
  generalize x.kind = k at *
  generalize y.kind = k' at *
  generalize x.l.length = L1 at *
  generalize y.l.length = L2 at *
  generalize x.keys.length = L3 at *
  generalize y.keys.length = L4 at *
  have e1 : (k == 7) = false := by simp [h7]
  have e2 : (k == 8) = false := by simp [h8]
  clear h7 h8
  cases r
  · simp only [Bool.false_eq_true, if_false]
    go_enter Try.func24, Try.ntmps24
    go_wp2_with (first
      | (go_at_call 58; refine (HA.out _ (((Ext.refl _).alloc _).alloc _)).mono ?_; rintro e w1 ⟨rfl, hx⟩; have HX : Hid (Ext w w1) := (((Ext.refl _).alloc _).alloc _).trans hx; clear hx HA)
      | (at_builtin; refine wpList_place PathN.pq (.tmp 114) (.tmp 116) rfl rfl w w1 (.slice none 0 0) (.slice pa pn pc) [] p (PLs.nil _ _ _) (HP.out.ext' HX.out) HX.out (by simp) w1.heap.size rfl rfl rfl ?_; intro g9 c9 w9 hp9 hx9; have HP9 := Lib.hid hp9; have HX9 := Lib.hid hx9; clear hp9 hx9))
    go_ret
    exact ⟨_, rfl, HP9.out, HX9.out⟩
  · simp only [if_true]
    go_enter Try.func24, Try.ntmps24
    go_wp2_with (go_at_call 58; refine (HA.out _ (((Ext.refl _).alloc _).alloc _)).mono ?_; rintro e w1 ⟨rfl, hx⟩; have HX : Hid (Ext w w1) := (((Ext.refl _).alloc _).alloc _).trans hx; clear hx HA)
    go_ret
    exact ⟨_, rfl, PLs.nil _ _ _, HX.out⟩

theorem differing_leaf (a b : J) (hl : leafs a b = true) (han : a.nofl) (p : List Step) (va vb vp : Value) (w : World) (ha : RV w (V.ofJ a) va) (hb : RV w (V.ofJ b) vb) (hp : PathN w vp p) :
    Calls Try.prog 24 #[va, vb, vp] w (PlsPost (if leafEq a b then [] else [p]) w) := by
  have hA : ∀ w1, Ext w w1 → Calls Try.prog 58 #[va, vb] w1 (Gives (.bool (leafEq a b)) w1) := fun w1 hx => alike_any a b hl han va vb w1 (RV.keep hx.keep _ ha) (RV.keep hx.keep _ hb)
  by_cases h7 : (V.ofJ a).kind = 7
  · refine differing_k7 _ _ h7 (fun h => ?_) _ p va vb vp w ha hb hp hA
    cases a <;> cases b <;> simp_all [V.ofJ, V.kind, leafs]
  · by_cases h8 : (V.ofJ a).kind = 8
    · refine differing_k8 _ _ h8 (fun h => ?_) _ p va vb vp w ha hb hp hA
      cases a <;> cases b <;> simp_all [V.ofJ, V.kind, leafs]
    · exact differing_k _ _ h7 h8 _ p va vb vp w ha hb hp hA
end Go.Proofs.Ytikpedfggbibpaa
