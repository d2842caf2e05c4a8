/- Laws for differing: append of a fragment, of places; steps of a region that draws. -/
import Derived.Test.YtikpedfggbibpaaDr
namespace Go.Proofs.Ytikpedfggbibpaa
open Go.RowKit Go.Lib
set_option linter.unusedVariables false
set_option linter.unusedSimpArgs false

theorem Ext.get {w w' : World} (h : Ext w w') {a : Addr} {v : Value} (e : w.cell? a = some v) : w'.cell? a = some v := h.keep _ _ e
theorem ClonePost.gath {p : List Step} {w : World} {e : Ending} {w' : World} (h : ClonePost p w e w') : ∃ v', e = .returned v' ∧ Gath w' w.heap.size v' p ∧ Ext w w' := by
  obtain ⟨v', fs, he, h1, h2, h3, h4⟩ := h
  exact ⟨v', he, ⟨fs, h1, h2, h3⟩, h4⟩
theorem Gath.pathN {w : World} {base : Nat} {v : Value} {p : List Step} {st : Step} (h : Gath w base v (p ++ [st])) : PathN w v (p ++ [st]) := ⟨h.path, fun e => by simp at e⟩

theorem step_append_frag {ops : Array Oper} {o : Oper} {a : Act} {K : Act → World → Prop} {Q : Exit → Act → World → Prop} {E : Prop} (s x : Operand) (hgd : o.guard = none)
    (ho : o.op = .call { callee := .builtin .append, args := #[s, x], argTypes := #[32, 32] })
    (w w1 : World) (v : Value) (p : List Step) (st : Step) (f : Fr) (cs : Array Value) (hcs : cs = f.cells.toArray) (hG : Gath w1 w.heap.size v p) (hf : FrOk w1 st f) (hX : Ext w w1) (hp : p.length ≤ 1000000)
    (H : Nat) (hH : w1.heap.size = H) (hs : a.eval s = v) (hx : a.eval x = .slice (some ⟨H, 0, none⟩) 1 1)
    (h : ∀ v' w', Gath w' w.heap.size v' (p ++ [st]) → Ext w w' → K (a.put o.dst v') w') :
    if Region.wanted o (yielded ops a.tmps) = true then Oper.wp Try.prog o a (w1.alloc (.cells cs 38)) K Q else E := by
  obtain ⟨i0, hi, hz0, hz1, hz2⟩ := info_parts Try.infoFrag
  subst hcs hH
  obtain ⟨fs, g1, g2, g3⟩ := hG
  have EX : Ext w1 (w1.alloc (.cells f.cells.toArray 38)) := (Ext.refl w1).alloc _
  refine step_append_lies _ hgd s x 32 ho w.heap.size 38 i0 zFrag 13 216 Try.underlying32 hi hz0 hz1 hz2 rfl (by decide) v p.length (fs.flatMap Fr.cells) hs (ownsRow_ext g3 EX)
    ⟨w1.heap.size, 0, none⟩ 1 1 f.cells hx rfl (cells_new w1 f.cells _) (Fr.one f) (by decide) (by unfold maxLen; omega) (by omega) (by have := hX.size; simp; omega) (w1.heap.size + 1) (by simp) ?_
  intro g c w' hown hgrow hat hlt
  refine h _ w' (Gath.snoc (f := f) g1 (fun i hi hi' => (g2 i hi hi').keep (t := 1000000) (by decide) (KT.of_keepB EX.keepB)) (ownsRow_ext g3 EX) (hf.keep (t := 1000000) (by decide) (KT.of_keepB EX.keepB)) hgrow hown) ?_
  exact (Ext.trans hX EX).grown hgrow (Ext.trans hX EX).size (fun k hk => (g3.lt k hk).1)

theorem step_append_pls {ops : Array Oper} {o : Oper} {a : Act} {K : Act → World → Prop} {Q : Exit → Act → World → Prop} {E : Prop} (s x : Operand) (hgd : o.guard = none)
    (ho : o.op = .call { callee := .builtin .append, args := #[s, x], argTypes := #[30, 30] })
    (w w1 : World) (v u : Value) (ps qs : List (List Step)) (b9 : Nat) (hP : PLs PathN w1 w.heap.size v ps) (hQ : PLs PathN w1 b9 u qs) (hX : Ext w w1) (hp : ps.length + qs.length ≤ 1000000000)
    (hs : a.eval s = v) (hx : a.eval x = u)
    (h : ∀ v' w', PLs PathN w' w.heap.size v' (ps ++ qs) → Ext w w' → K (a.put o.dst v') w') :
    if Region.wanted o (yielded ops a.tmps) = true then Oper.wp Try.prog o a w1 K Q else E := by
  obtain ⟨i0, hi, hz0, hz1, hz2⟩ := info_parts Try.infoPath
  obtain ⟨vs, h1, h2, h3⟩ := hP
  obtain ⟨us, k1, k2, k3⟩ := hQ
  obtain ⟨a9, c9, rfl, hn⟩ : ∃ a9 c9, u = .slice a9 qs.length c9 ∧ (0 < qs.length → ∃ ad, a9 = some ad ∧ ∀ j y, us[j]? = some y → w1.cell? (ad.add j) = some y) := by
    rcases k3.2 with ⟨e, h0⟩ | ⟨g, cap, cur, rfl, hb, hh, hc, rest⟩
    · exact ⟨none, 0, by rw [h0]; exact e, fun h => by omega⟩
    · exact ⟨_, cap, rfl, fun _ => ⟨_, rfl, k3.cells rfl⟩⟩
  refine step_append_any hgd s x 30 ho w.heap.size 32 i0 (.slice none 0 0) 1 24 Try.underlying30 hi hz0 hz1 hz2 rfl (by decide) v ps.length vs hs h3
    a9 qs.length c9 us hx (by omega) hn (fun y hy => ?_) (by unfold maxLen; omega) (by omega) hX.size ?_
  · obtain ⟨i, hi, rfl⟩ := List.getElem_of_mem hy
    obtain ⟨a8, n8, c8, e8⟩ := PathN.pq.shape (k2 i (by omega) hi)
    rw [e8]
    rfl
  · intro v' w' hown hgrow
    have kt := KT.of_own h3 hgrow
    refine h v' w' ⟨vs ++ us, by simp [h1, k1], fun i hi hi' => ?_, by simpa using hown⟩ (hX.grown hgrow hX.size (fun k hk => (h3.lt k hk).1))
    by_cases hc : i < ps.length
    · rw [List.getElem_append_left hc, List.getElem_append_left (by omega)]
      exact PathN.pq.keep (by decide) (by decide) kt (h2 i hc (by omega))
    · rw [List.getElem_append_right (by omega), List.getElem_append_right (by omega)]
      simp only [h1]
      have hi2 : i - ps.length < qs.length := by simp at hi; omega
      exact PathN.pq.keep (by decide) (by decide) kt (k2 (i - ps.length) hi2 (by omega))

def DfPost (n : Nat) (a b : J) (p : List Step) (w : World) (e : Ending) (w' : World) : Prop := ∃ ps, ps.Perm ((difF n none a b).map (p ++ ·)) ∧ PlsPost ps w e w'
def DfAt (n : Nat) : Prop := ∀ (a b : J), a.nodes + b.nodes ≤ n → a.ok → b.ok → a.nofl → b.nofl → n ≤ 2000 → ∀ (p : List Step), p.length + n ≤ 100000 → ∀ (va vb vp : Value) (w : World), RV w (V.ofJ a) va → RV w (V.ofJ b) vb → PathN w vp p →
  Calls Try.prog 24 #[va, vb, vp] w (DfPost n a b p w)
theorem Gath.ext' {w w' : World} {base : Nat} {v : Value} {p : List Step} (h : Gath w base v p) (k : Ext w w') : Gath w' base v p := by
  obtain ⟨fs, h1, h2, h3⟩ := h
  exact ⟨fs, h1, fun i hi hi' => (h2 i hi hi').ext k, ownsRow_ext h3 k⟩
end Go.Proofs.Ytikpedfggbibpaa
