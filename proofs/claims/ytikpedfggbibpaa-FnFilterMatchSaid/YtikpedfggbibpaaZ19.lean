/- Walks: allPlaces. -/
import Derived.Test.YtikpedfggbibpaaZ18
import Derived.Deep.AppendLies
import Derived.Deep.RegionHeld3
namespace Go.Proofs.Ytikpedfggbibpaa
open Go.RowKit Go.Lib
set_option linter.unusedVariables false
set_option linter.unusedSimpArgs false

/-- the part that a step leads to -/
def J.at1 : J → Step → J
  | .arr l, .nth n => (l[n.toNat]?).getD .null
  | .obj ks l, .child s => look ks l s
  | _, _ => .null
theorem J.at1_kid : ∀ {j : J} {st : Step} {q : Nat} (hj : j.ok) (h : j.kid st q), j.at1 st = j.kids[q]'(J.kid_lt h)
  | .arr l, .nth n, q, _, h => by
    obtain ⟨rfl, hq⟩ := h
    simp [J.at1, J.kids, hq]
  | .obj ks l, .child s, q, hj, h => by
    obtain ⟨h1, hq⟩ := h
    unfold J.ok at hj
    simp only [J.at1, J.kids]
    exact look_hit hq h1 hj.1
/-- a path that leads somewhere -/
def J.has : List Step → J → Prop
  | [], _ => True
  | st :: p, j => (∃ q, j.kid st q) ∧ J.has p (j.at1 st)

theorem steps_kid {j : J} (hj : j.ok) {i : Nat} (h : i < j.steps.length) : ∃ q, j.kid j.steps[i] q := by
  cases j with
  | arr l =>
    simp only [J.steps, List.length_map, List.length_range] at h
    refine ⟨i, ?_⟩
    simp only [J.steps, List.getElem_map, List.getElem_range]
    exact ⟨rfl, h⟩
  | obj ks l =>
    unfold J.ok at hj
    simp only [J.steps, List.length_map] at h
    simp only [J.steps, List.getElem_map]
    have hm : (sortK ks)[i] ∈ ks := (sortK_perm ks).mem_iff.1 (List.getElem_mem h)
    obtain ⟨q, hq, hqe⟩ := List.getElem_of_mem hm
    exact ⟨q, by rw [List.getElem?_eq_getElem hq, hqe], by omega⟩
  | _ => simp [J.steps] at h
theorem sum_look : ∀ {ks : List ByteArray} {l : List J}, ks.Nodup → ks.length = l.length → (ks.map fun k => (look ks l k).nodes).sum = J.nodesL l
  | [], [], _, _ => rfl
  | k :: ks, x :: xs, hn, hl => by
    obtain ⟨h1, h2⟩ := List.nodup_cons.1 hn
    have ih := sum_look h2 (by simpa using hl : ks.length = xs.length)
    have e : (ks.map fun q => (look (k :: ks) (x :: xs) q).nodes) = ks.map fun q => (look ks xs q).nodes := by
      apply List.map_congr_left
      intro a ha
      rw [look, if_neg (fun e => h1 (by rw [e]; exact ha))]
    rw [List.map_cons, List.sum_cons, e, ih, look, if_pos rfl, J.nodesL]
  | [], _ :: _, _, hl => by simp at hl
  | _ :: _, [], _, hl => by simp at hl
theorem perm_sum {a b : List Nat} (h : a.Perm b) : a.sum = b.sum := by
  induction h with
  | nil => rfl
  | cons x _ ih => simp [ih]
  | swap x y l => simp; omega
  | trans _ _ ih1 ih2 => exact ih1.trans ih2
theorem sum_range : ∀ (l : List J), ((List.range l.length).map fun i => ((l[i]?).getD .null).nodes).sum = J.nodesL l
  | [] => rfl
  | x :: xs => by
    rw [List.length_cons, List.range_succ_eq_map, List.map_cons, List.sum_cons, List.map_map]
    have := sum_range xs
    simp only [J.nodesL, List.getElem?_cons_zero, Option.getD_some]
    rw [← this]
    congr 1
def J.under (j : J) (m : Nat) : Nat := ((j.steps.take m).map fun st => (j.at1 st).nodes).sum
theorem J.under_all {j : J} (hj : j.ok) : 1 + j.under j.steps.length = j.nodes := by
  unfold J.under
  rw [List.take_length]
  cases j with
  | arr l =>
    simp only [J.steps, J.nodes, List.map_map]
    rw [← sum_range l]
    congr 1
  | obj ks l =>
    unfold J.ok at hj
    simp only [J.steps, J.nodes, List.map_map]
    rw [← sum_look hj.1 hj.2.1]
    congr 1
    exact perm_sum ((sortK_perm ks).map _)
  | _ => simp [J.steps, J.nodes]
theorem J.under_succ {j : J} {m : Nat} (h : m < j.steps.length) : j.under (m + 1) = j.under m + (j.at1 j.steps[m]).nodes := by
  unfold J.under
  rw [List.take_succ_eq_append_getElem h, List.map_append, List.sum_append]
  simp
theorem J.at1_lt {j : J} {st : Step} {q : Nat} (hj : j.ok) (h : j.kid st q) : (j.at1 st).nodes < j.nodes := by
  rw [J.at1_kid hj h]
  have h1 := J.nodes_mem (List.getElem_mem (J.kid_lt h))
  cases j with
  | arr l => simp only [J.nodes, J.kids] at *; omega
  | obj ks l => simp only [J.nodes, J.kids] at *; omega
  | _ => exact h.elim
theorem J.at1_ok {j : J} {st : Step} {q : Nat} (hj : j.ok) (h : j.kid st q) : (j.at1 st).ok := by
  rw [J.at1_kid hj h]
  cases j with
  | arr l => unfold J.ok at hj; exact J.oks_get hj q (J.kid_lt h)
  | obj ks l => unfold J.ok at hj; exact J.oks_get hj.2.2 q (J.kid_lt h)
  | _ => exact h.elim

def PathN (w : World) (v : Value) (p : List Step) : Prop := PathAt w v p ∧ (p = [] → v = .slice none 0 0)
/-- places in a row of the call's own -/
def Places (w : World) (base : Nat) (v : Value) (ps : List (List Step)) : Prop :=
  ∃ vs : List Value, vs.length = ps.length ∧ (∀ i, (h : i < ps.length) → (h' : i < vs.length) → PathN w vs[i] ps[i]) ∧ w.ownsRow base 32 1 v ps.length vs
theorem Places.ext {w w' : World} (k : Ext w w') {base : Nat} {v : Value} {ps : List (List Step)} (h : Places w base v ps) : Places w' base v ps := by
  obtain ⟨vs, h1, h2, h3⟩ := h
  exact ⟨vs, h1, fun i hi hi' => ⟨(h2 i hi hi').1.ext k.keepB, (h2 i hi hi').2⟩, ownsRow_ext h3 k⟩
/-- one more -/
theorem Places.snoc {w w' : World} {base : Nat} {v v' : Value} {ps : List (List Step)} {vs : List Value} (h1 : vs.length = ps.length) (h2 : ∀ i, (h : i < ps.length) → (h' : i < vs.length) → PathN w vs[i] ps[i]) (ho : w.ownsRow base 32 1 v ps.length vs)
    {u : Value} {p : List Step} (hu : PathN w u p) (hg : w.grownBy w' v.ownBlock) (ho' : w'.ownsRow base 32 1 v' (ps.length + 1) (vs ++ [u])) : Places w' base v' (ps ++ [p]) := by
  have kt := KT.of_own ho hg
  refine ⟨vs ++ [u], by simp [h1], fun i hi hi' => ?_, by simpa using ho'⟩
  by_cases hc : i < ps.length
  · rw [List.getElem_append_left hc, List.getElem_append_left (by omega)]
    exact ⟨(h2 i hc (by omega)).1.keep (by decide) (by decide) kt, (h2 i hc (by omega)).2⟩
  · have hi2 : i = ps.length := by simp at hi; omega
    subst hi2
    rw [List.getElem_append_right (Nat.le_refl _), List.getElem_append_right (by omega)]
    simp only [Nat.sub_self, h1, List.getElem_singleton]
    exact ⟨hu.1.keep (by decide) (by decide) kt, hu.2⟩

def PlacesPost (j : J) (w : World) (e : Ending) (w' : World) : Prop := ∃ v ps, e = .returned v ∧ ps.length = j.nodes ∧ (∀ p ∈ ps, J.has p j) ∧ Places w' w.heap.size v ps ∧ Ext w w'
end Go.Proofs.Ytikpedfggbibpaa
