/- Walks: differing (of leaves). Laws for differing: append of a fragment, of places; steps of a region that draws. -/
import Derived.Test.YtikpedfggbibpaaZ36
namespace Go.Proofs.Ytikpedfggbibpaa
open Go.RowKit Go.Lib
set_option linter.unusedVariables false
set_option linter.unusedSimpArgs false

/-- places in a row of the call's own come back -/
def PlsPost (ps : List (List Step)) (w : World) (e : Ending) (w' : World) : Prop := ∃ v, e = .returned v ∧ PLs PathN w' w.heap.size v ps ∧ Ext w w'

theorem PathN.ext' {w w' : World} {v : Value} {p : List Step} (h : PathN w v p) (k : Ext w w') : PathN w' v p := PathN.pq.ext k h

set_option maxRecDepth 100000 in
set_option maxHeartbeats 2000000 in
theorem differing_k7 (x y : V) (h7 : x.kind = 7) (h7' : y.kind ≠ 7) (r : Bool) (p : List Step) (va vb vp : Value) (w : World) (ha : RV w x va) (hb : RV w y vb) (hp : PathN w vp p) (hA : ∀ w1, Ext w w1 → Calls Try.prog 58 #[va, vb] w1 (Gives (.bool r) w1)) :
    Calls Try.prog 24 #[va, vb, vp] w (PlsPost (if r then [] else [p]) w) := by
  obtain ⟨pa, pn, pc, rfl⟩ := PathN.pq.shape hp
  obtain ⟨al, lc, ak, kc, rfl⟩ := ha.six
  obtain ⟨al', lc', ak', kc', rfl⟩ := hb.six
  have HA := Lib.hid hA
  have HP := Lib.hid hp
  clear ha hb hA hp
  generalize x.kind = k at *
  generalize y.kind = k' at *
  generalize x.l.length = L1 at *
  generalize y.l.length = L2 at *
  generalize x.keys.length = L3 at *
  generalize y.keys.length = L4 at *
  subst h7
  have e1 : (k' == 7) = false := by simp [h7']
  clear h7' 
  cases r
  · simp only [Bool.false_eq_true, if_false]
    go_enter Try.func24, Try.ntmps24
    go_wp2_with (first
      | (go_at_call 58; refine (HA.out _ (((Ext.refl _).alloc _).alloc _)).mono ?_; rintro e w1 ⟨rfl, hx⟩; have HX : Hid (Ext w w1) := (((Ext.refl _).alloc _).alloc _).trans hx; clear hx HA)
      | (at_builtin; refine wpList_place PathN.pq (.tmp 114) (.tmp 116) rfl rfl w w1 (.slice none 0 0) (.slice pa pn pc) [] p (PLs.nil _ _ _) (HP.out.ext' HX.out) HX.out (by simp) w1.heap.size rfl rfl rfl ?_; intro g9 c9 w9 hp9 hx9; have HP9 := Lib.hid hp9; have HX9 := Lib.hid hx9; clear hp9 hx9))
    go_ret
    exact ⟨_, rfl, HP9.out, HX9.out⟩
  · simp only [if_true]
    go_enter Try.func24, Try.ntmps24
    go_wp2_with (go_at_call 58; refine (HA.out _ (((Ext.refl _).alloc _).alloc _)).mono ?_; rintro e w1 ⟨rfl, hx⟩; have HX : Hid (Ext w w1) := (((Ext.refl _).alloc _).alloc _).trans hx; clear hx HA)
    go_ret
    exact ⟨_, rfl, PLs.nil _ _ _, HX.out⟩

set_option maxRecDepth 100000 in
set_option maxHeartbeats 2000000 in
theorem differing_k8 (x y : V) (h8 : x.kind = 8) (h8' : y.kind ≠ 8) (r : Bool) (p : List Step) (va vb vp : Value) (w : World) (ha : RV w x va) (hb : RV w y vb) (hp : PathN w vp p) (hA : ∀ w1, Ext w w1 → Calls Try.prog 58 #[va, vb] w1 (Gives (.bool r) w1)) :
    Calls Try.prog 24 #[va, vb, vp] w (PlsPost (if r then [] else [p]) w) := by
  obtain ⟨pa, pn, pc, rfl⟩ := PathN.pq.shape hp
  obtain ⟨al, lc, ak, kc, rfl⟩ := ha.six
  obtain ⟨al', lc', ak', kc', rfl⟩ := hb.six
  have HA := Lib.hid hA
  have HP := Lib.hid hp
  clear ha hb hA hp
  generalize x.kind = k at *
  generalize y.kind = k' at *
  generalize x.l.length = L1 at *
  generalize y.l.length = L2 at *
  generalize x.keys.length = L3 at *
  generalize y.keys.length = L4 at *
  subst h8
  have e1 : (k' == 8) = false := by simp [h8']
  clear h8' 
  cases r
  · simp only [Bool.false_eq_true, if_false]
    go_enter Try.func24, Try.ntmps24
    go_wp2_with (first
      | (go_at_call 58; refine (HA.out _ (((Ext.refl _).alloc _).alloc _)).mono ?_; rintro e w1 ⟨rfl, hx⟩; have HX : Hid (Ext w w1) := (((Ext.refl _).alloc _).alloc _).trans hx; clear hx HA)
      | (at_builtin; refine wpList_place PathN.pq (.tmp 114) (.tmp 116) rfl rfl w w1 (.slice none 0 0) (.slice pa pn pc) [] p (PLs.nil _ _ _) (HP.out.ext' HX.out) HX.out (by simp) w1.heap.size rfl rfl rfl ?_; intro g9 c9 w9 hp9 hx9; have HP9 := Lib.hid hp9; have HX9 := Lib.hid hx9; clear hp9 hx9))
    go_ret
    exact ⟨_, rfl, HP9.out, HX9.out⟩
  · simp only [if_true]
    go_enter Try.func24, Try.ntmps24
    go_wp2_with (go_at_call 58; refine (HA.out _ (((Ext.refl _).alloc _).alloc _)).mono ?_; rintro e w1 ⟨rfl, hx⟩; have HX : Hid (Ext w w1) := (((Ext.refl _).alloc _).alloc _).trans hx; clear hx HA)
    go_ret
    exact ⟨_, rfl, PLs.nil _ _ _, HX.out⟩

set_option maxRecDepth 100000 in
set_option maxHeartbeats 2000000 in
theorem differing_k (x y : V) (h7 : x.kind ≠ 7) (h8 : x.kind ≠ 8) (r : Bool) (p : List Step) (va vb vp : Value) (w : World) (ha : RV w x va) (hb : RV w y vb) (hp : PathN w vp p) (hA : ∀ w1, Ext w w1 → Calls Try.prog 58 #[va, vb] w1 (Gives (.bool r) w1)) :
    Calls Try.prog 24 #[va, vb, vp] w (PlsPost (if r then [] else [p]) w) := by
  obtain ⟨pa, pn, pc, rfl⟩ := PathN.pq.shape hp
  obtain ⟨al, lc, ak, kc, rfl⟩ := ha.six
  obtain ⟨al', lc', ak', kc', rfl⟩ := hb.six
  have HA := Lib.hid hA
  have HP := Lib.hid hp
  clear ha hb hA hp
  generalize x.kind = k at *
  generalize y.kind = k' at *
  generalize x.l.length = L1 at *
  generalize y.l.length = L2 at *
  generalize x.keys.length = L3 at *
  generalize y.keys.length = L4 at *
  have e1 : (k == 7) = false := by simp [h7]
  have e2 : (k == 8) = false := by simp [h8]
  clear h7 h8
  cases r
  · simp only [Bool.false_eq_true, if_false]
    go_enter Try.func24, Try.ntmps24
    go_wp2_with (first
      | (go_at_call 58; refine (HA.out _ (((Ext.refl _).alloc _).alloc _)).mono ?_; rintro e w1 ⟨rfl, hx⟩; have HX : Hid (Ext w w1) := (((Ext.refl _).alloc _).alloc _).trans hx; clear hx HA)
      | (at_builtin; refine wpList_place PathN.pq (.tmp 114) (.tmp 116) rfl rfl w w1 (.slice none 0 0) (.slice pa pn pc) [] p (PLs.nil _ _ _) (HP.out.ext' HX.out) HX.out (by simp) w1.heap.size rfl rfl rfl ?_; intro g9 c9 w9 hp9 hx9; have HP9 := Lib.hid hp9; have HX9 := Lib.hid hx9; clear hp9 hx9))
    go_ret
    exact ⟨_, rfl, HP9.out, HX9.out⟩
  · simp only [if_true]
    go_enter Try.func24, Try.ntmps24
    go_wp2_with (go_at_call 58; refine (HA.out _ (((Ext.refl _).alloc _).alloc _)).mono ?_; rintro e w1 ⟨rfl, hx⟩; have HX : Hid (Ext w w1) := (((Ext.refl _).alloc _).alloc _).trans hx; clear hx HA)
    go_ret
    exact ⟨_, rfl, PLs.nil _ _ _, HX.out⟩

theorem differing_leaf (a b : J) (hl : leafs a b = true) (han : a.nofl) (p : List Step) (va vb vp : Value) (w : World) (ha : RV w (V.ofJ a) va) (hb : RV w (V.ofJ b) vb) (hp : PathN w vp p) :
    Calls Try.prog 24 #[va, vb, vp] w (PlsPost (if leafEq a b then [] else [p]) w) := by
  have hA : ∀ w1, Ext w w1 → Calls Try.prog 58 #[va, vb] w1 (Gives (.bool (leafEq a b)) w1) := fun w1 hx => alike_any a b hl han va vb w1 (RV.keep hx.keep _ ha) (RV.keep hx.keep _ hb)
  by_cases h7 : (V.ofJ a).kind = 7
  · refine differing_k7 _ _ h7 (fun h => ?_) _ p va vb vp w ha hb hp hA
    cases a <;> cases b <;> simp_all [V.ofJ, V.kind, leafs]
  · by_cases h8 : (V.ofJ a).kind = 8
    · refine differing_k8 _ _ h8 (fun h => ?_) _ p va vb vp w ha hb hp hA
      cases a <;> cases b <;> simp_all [V.ofJ, V.kind, leafs]
    · exact differing_k _ _ h7 h8 _ p va vb vp w ha hb hp hA
end Go.Proofs.Ytikpedfggbibpaa
namespace Go.Proofs.Ytikpedfggbibpaa
open Go.RowKit Go.Lib
set_option linter.unusedVariables false
set_option linter.unusedSimpArgs false

theorem Ext.get {w w' : World} (h : Ext w w') {a : Addr} {v : Value} (e : w.cell? a = some v) : w'.cell? a = some v := h.keep _ _ e
theorem ClonePost.gath {p : List Step} {w : World} {e : Ending} {w' : World} (h : ClonePost p w e w') : ∃ v', e = .returned v' ∧ Gath w' w.heap.size v' p ∧ Ext w w' := by
  obtain ⟨v', fs, he, h1, h2, h3, h4⟩ := h
  exact ⟨v', he, ⟨fs, h1, h2, h3⟩, h4⟩
theorem Gath.pathN {w : World} {base : Nat} {v : Value} {p : List Step} {st : Step} (h : Gath w base v (p ++ [st])) : PathN w v (p ++ [st]) := ⟨h.path, fun e => by simp at e⟩

theorem step_append_frag {ops : Array Oper} {o : Oper} {a : Act} {K : Act → World → Prop} {Q : Exit → Act → World → Prop} {E : Prop} (s x : Operand) (hgd : o.guard = none)
    (ho : o.op = .call { callee := .builtin .append, args := #[s, x], argTypes := #[32, 32] })
    (w w1 : World) (v : Value) (p : List Step) (st : Step) (f : Fr) (cs : Array Value) (hcs : cs = f.cells.toArray) (hG : Gath w1 w.heap.size v p) (hf : FrOk w1 st f) (hX : Ext w w1) (hp : p.length ≤ 1000000)
    (H : Nat) (hH : w1.heap.size = H) (hs : a.eval s = v) (hx : a.eval x = .slice (some ⟨H, 0, none⟩) 1 1)
    (h : ∀ v' w', Gath w' w.heap.size v' (p ++ [st]) → Ext w w' → K (a.put o.dst v') w') :
    if Region.wanted o (yielded ops a.tmps) = true then Oper.wp Try.prog o a (w1.alloc (.cells cs 38)) K Q else E := by
  obtain ⟨i0, hi, hz0, hz1, hz2⟩ := info_parts Try.infoFrag
  subst hcs hH
  obtain ⟨fs, g1, g2, g3⟩ := hG
  have EX : Ext w1 (w1.alloc (.cells f.cells.toArray 38)) := (Ext.refl w1).alloc _
  refine step_append_lies _ hgd s x 32 ho w.heap.size 38 i0 zFrag 13 216 Try.underlying32 hi hz0 hz1 hz2 rfl (by decide) v p.length (fs.flatMap Fr.cells) hs (ownsRow_ext g3 EX)
    ⟨w1.heap.size, 0, none⟩ 1 1 f.cells hx rfl (cells_new w1 f.cells _) (Fr.one f) (by decide) (by unfold maxLen; omega) (by omega) (by have := hX.size; simp; omega) (w1.heap.size + 1) (by simp) ?_
  intro g c w' hown hgrow hat hlt
  refine h _ w' (Gath.snoc (f := f) g1 (fun i hi hi' => (g2 i hi hi').keep (t := 1000000) (by decide) (KT.of_keepB EX.keepB)) (ownsRow_ext g3 EX) (hf.keep (t := 1000000) (by decide) (KT.of_keepB EX.keepB)) hgrow hown) ?_
  exact (Ext.trans hX EX).grown hgrow (Ext.trans hX EX).size (fun k hk => (g3.lt k hk).1)

theorem step_append_pls {ops : Array Oper} {o : Oper} {a : Act} {K : Act → World → Prop} {Q : Exit → Act → World → Prop} {E : Prop} (s x : Operand) (hgd : o.guard = none)
    (ho : o.op = .call { callee := .builtin .append, args := #[s, x], argTypes := #[30, 30] })
    (w w1 : World) (v u : Value) (ps qs : List (List Step)) (b9 : Nat) (hP : PLs PathN w1 w.heap.size v ps) (hQ : PLs PathN w1 b9 u qs) (hX : Ext w w1) (hp : ps.length + qs.length ≤ 1000000000)
    (hs : a.eval s = v) (hx : a.eval x = u)
    (h : ∀ v' w', PLs PathN w' w.heap.size v' (ps ++ qs) → Ext w w' → K (a.put o.dst v') w') :
    if Region.wanted o (yielded ops a.tmps) = true then Oper.wp Try.prog o a w1 K Q else E := by
  obtain ⟨i0, hi, hz0, hz1, hz2⟩ := info_parts Try.infoPath
  obtain ⟨vs, h1, h2, h3⟩ := hP
  obtain ⟨us, k1, k2, k3⟩ := hQ
  obtain ⟨a9, c9, rfl, hn⟩ : ∃ a9 c9, u = .slice a9 qs.length c9 ∧ (0 < qs.length → ∃ ad, a9 = some ad ∧ ∀ j y, us[j]? = some y → w1.cell? (ad.add j) = some y) := by
    rcases k3.2 with ⟨e, h0⟩ | ⟨g, cap, cur, rfl, hb, hh, hc, rest⟩
    · exact ⟨none, 0, by rw [h0]; exact e, fun h => by omega⟩
    · exact ⟨_, cap, rfl, fun _ => ⟨_, rfl, k3.cells rfl⟩⟩
  refine step_append_any hgd s x 30 ho w.heap.size 32 i0 (.slice none 0 0) 1 24 Try.underlying30 hi hz0 hz1 hz2 rfl (by decide) v ps.length vs hs h3
    a9 qs.length c9 us hx (by omega) hn (fun y hy => ?_) (by unfold maxLen; omega) (by omega) hX.size ?_
  · obtain ⟨i, hi, rfl⟩ := List.getElem_of_mem hy
    obtain ⟨a8, n8, c8, e8⟩ := PathN.pq.shape (k2 i (by omega) hi)
    rw [e8]
    rfl
  · intro v' w' hown hgrow
    have kt := KT.of_own h3 hgrow
    refine h v' w' ⟨vs ++ us, by simp [h1, k1], fun i hi hi' => ?_, by simpa using hown⟩ (hX.grown hgrow hX.size (fun k hk => (h3.lt k hk).1))
    by_cases hc : i < ps.length
    · rw [List.getElem_append_left hc, List.getElem_append_left (by omega)]
      exact PathN.pq.keep (by decide) (by decide) kt (h2 i hc (by omega))
    · rw [List.getElem_append_right (by omega), List.getElem_append_right (by omega)]
      simp only [h1]
      have hi2 : i - ps.length < qs.length := by simp at hi; omega
      exact PathN.pq.keep (by decide) (by decide) kt (k2 (i - ps.length) hi2 (by omega))

def DfPost (n : Nat) (a b : J) (p : List Step) (w : World) (e : Ending) (w' : World) : Prop := ∃ ps, ps.Perm ((difF n none a b).map (p ++ ·)) ∧ PlsPost ps w e w'
def DfAt (n : Nat) : Prop := ∀ (a b : J), a.nodes + b.nodes ≤ n → a.ok → b.ok → a.nofl → b.nofl → n ≤ 2000 → ∀ (p : List Step), p.length + n ≤ 100000 → ∀ (va vb vp : Value) (w : World), RV w (V.ofJ a) va → RV w (V.ofJ b) vb → PathN w vp p →
  Calls Try.prog 24 #[va, vb, vp] w (DfPost n a b p w)
theorem Gath.ext' {w w' : World} {base : Nat} {v : Value} {p : List Step} (h : Gath w base v p) (k : Ext w w') : Gath w' base v p := by
  obtain ⟨fs, h1, h2, h3⟩ := h
  exact ⟨fs, h1, fun i hi hi' => (h2 i hi hi').ext k, ownsRow_ext h3 k⟩
end Go.Proofs.Ytikpedfggbibpaa
