/- The plain law: what fits fits without one of its members, too. -/
import Derived.Test.YtikpedfggbibpaaWh
namespace Go.Proofs.Ytikpedfggbibpaa
open Go.RowKit Go.Lib
set_option linter.unusedVariables false
set_option linter.unusedSimpArgs false

/-- the place of a text in a list -/
def posOf (ks : List ByteArray) (s : ByteArray) : Nat := (Lib.idxOfS ks s).toNat
theorem posOf_eq {ks : List ByteArray} {q : Nat} {s : ByteArray} (h : ks[q]? = some s) (hn : ks.Nodup) : posOf ks s = q := by
  unfold posOf
  rw [idx_nodup h hn]
  omega

/-- a datum without the member that a path leads to -/
def J.wo : List Step → J → J
  | [], j => j
  | st :: p, .arr l => match st with
    | .nth n => if p.isEmpty then .arr (l.eraseIdx n.toNat) else .arr (l.set n.toNat (J.wo p ((J.arr l).at1 (.nth n))))
    | .child _ => .arr l
  | st :: p, .obj ks l => match st with
    | .child s => if p.isEmpty then .obj (ks.eraseIdx (posOf ks s)) (l.eraseIdx (posOf ks s)) else .obj ks (l.set (posOf ks s) (J.wo p ((J.obj ks l).at1 (.child s))))
    | .nth _ => .obj ks l
  | _ :: _, j => j

def lastChild : List Step → Prop
  | [] => False
  | [.child _] => True
  | [.nth _] => False
  | _ :: p => lastChild p
theorem lastChild_tail {st st' : Step} {p : List Step} (h : lastChild (st :: st' :: p)) : lastChild (st' :: p) := by
  cases st <;> exact h

theorem J.oks_of : ∀ {l : List J}, (∀ q, (h : q < l.length) → (l[q]).ok) → J.oks l
  | [], _ => by unfold J.oks; trivial
  | x :: xs, h => by
    unfold J.oks
    exact ⟨h 0 (by simp), J.oks_of fun q hq => h (q + 1) (by simpa using hq)⟩
theorem J.nofls_of : ∀ {l : List J}, (∀ q, (h : q < l.length) → (l[q]).nofl) → J.nofls l
  | [], _ => by unfold J.nofls; trivial
  | x :: xs, h => by
    unfold J.nofls
    exact ⟨h 0 (by simp), J.nofls_of fun q hq => h (q + 1) (by simpa using hq)⟩
theorem nodesL_set : ∀ (l : List J) (n : Nat) (x : J) (h : n < l.length), x.nodes ≤ (l[n]).nodes → J.nodesL (l.set n x) ≤ J.nodesL l
  | y :: ys, 0, x, _, hx => by simp only [List.set_cons_zero, J.nodesL, List.getElem_cons_zero] at *; omega
  | y :: ys, n + 1, x, h, hx => by
    have := nodesL_set ys n x (by simpa using h) (by simpa using hx)
    simp only [List.set_cons_succ, J.nodesL]
    omega
theorem nodesL_erase : ∀ (l : List J) (n : Nat), J.nodesL (l.eraseIdx n) ≤ J.nodesL l
  | [], _ => by simp
  | y :: ys, 0 => by simp [J.nodesL]
  | y :: ys, n + 1 => by
    have := nodesL_erase ys n
    simp only [List.eraseIdx_cons_succ, J.nodesL]
    omega

/-- what the law of FnFitsLess says of one value -/
structure WoOk (p : List Step) (j : J) : Prop where
  ok : (J.wo p j).ok
  nofl : j.nofl → (J.wo p j).nofl
  nodes : (J.wo p j).nodes ≤ j.nodes
  fits : ∀ t, jm j t = true → jm (J.wo p j) t = true

theorem wo_ok : ∀ (p : List Step) (j : J), j.ok → J.has p j → lastChild p → WoOk p j
  | [], j, _, _, hl => hl.elim
  | st :: p, .null, _, hh, _ => by obtain ⟨⟨q, hq⟩, _⟩ := hh; cases st <;> exact hq.elim
  | st :: p, .bool _, _, hh, _ => by obtain ⟨⟨q, hq⟩, _⟩ := hh; cases st <;> exact hq.elim
  | st :: p, .int _, _, hh, _ => by obtain ⟨⟨q, hq⟩, _⟩ := hh; cases st <;> exact hq.elim
  | st :: p, .flt _, _, hh, _ => by obtain ⟨⟨q, hq⟩, _⟩ := hh; cases st <;> exact hq.elim
  | st :: p, .str _, _, hh, _ => by obtain ⟨⟨q, hq⟩, _⟩ := hh; cases st <;> exact hq.elim
  | .child s :: p, .arr l, _, hh, _ => by obtain ⟨⟨q, hq⟩, _⟩ := hh; exact hq.elim
  | .nth n :: p, .obj ks l, _, hh, _ => by obtain ⟨⟨q, hq⟩, _⟩ := hh; exact hq.elim
  | .nth n :: p, .arr l, hj, hh, hl => by
    obtain ⟨⟨q, hq⟩, h2⟩ := hh
    have hat := J.at1_kid hj hq
    have hok := J.at1_ok hj hq
    obtain ⟨rfl, hql⟩ := hq
    cases p with
    | nil => exact hl.elim
    | cons st' p =>
      have ih := wo_ok (st' :: p) _ hok h2 (lastChild_tail hl)
      have hwo : J.wo (.nth (q : Int) :: st' :: p) (.arr l) = .arr (l.set q (J.wo (st' :: p) ((J.arr l).at1 (.nth (q : Int))))) := by
        simp [J.wo]
      simp only [J.kids] at hat
      rw [hat] at ih hwo
      unfold J.ok at hj
      obtain ⟨i1, i2, i3, i4⟩ := ih
      generalize J.wo (st' :: p) l[q] = x at i1 i2 i3 i4 hwo
      refine ⟨?_, fun hnf => ?_, ?_, fun t ht => ?_⟩
      · rw [hwo]
        unfold J.ok
        refine J.oks_of fun i hi => ?_
        rw [List.getElem_set]
        split
        · exact i1
        · exact J.oks_get hj i (by simpa using hi)
      · rw [hwo]
        unfold J.nofl at hnf ⊢
        refine J.nofls_of fun i hi => ?_
        rw [List.getElem_set]
        split
        · exact i2 (J.nofls_get hnf q hql)
        · exact J.nofls_get hnf i (by simpa using hi)
      · rw [hwo]
        simp only [J.nodes]
        have := nodesL_set l q x hql i3
        omega
      · rw [hwo]
        cases t with
        | arr m =>
          unfold jm at ht ⊢
          have hlen := jms_len ht
          refine jms_of (by simpa using hlen) fun i h h' => ?_
          have hg := jms_get ht i (by simpa using h) h'
          rw [List.getElem_set]
          split
          · rename_i e
            subst e
            exact i4 _ hg
          · exact hg
        | _ => simp [jm] at ht
  | .child s :: p, .obj ks l, hj, hh, hl => by
    obtain ⟨⟨q, hq⟩, h2⟩ := hh
    have hat := J.at1_kid hj hq
    have hok := J.at1_ok hj hq
    have hj' := hj
    unfold J.ok at hj'
    obtain ⟨hnd, hlen, hoks⟩ := hj'
    obtain ⟨hqs, hql⟩ := hq
    have hpos := posOf_eq hqs hnd
    have hqk : q < ks.length := (List.getElem?_eq_some_iff.1 hqs).1
    cases p with
    | nil =>
      have hwo : J.wo [.child s] (.obj ks l) = .obj (ks.eraseIdx q) (l.eraseIdx q) := by simp [J.wo, hpos]
      refine ⟨?_, fun hnf => ?_, ?_, fun t ht => ?_⟩
      · rw [hwo]
        unfold J.ok
        refine ⟨(List.eraseIdx_sublist ks q).nodup hnd, by rw [List.length_eraseIdx_of_lt hqk, List.length_eraseIdx_of_lt hql, hlen], J.oks_of fun i hi => ?_⟩
        rw [List.getElem_eraseIdx]
        split
        · exact J.oks_get hoks i _
        · exact J.oks_get hoks (i + 1) _
      · rw [hwo]
        unfold J.nofl at hnf ⊢
        refine J.nofls_of fun i hi => ?_
        rw [List.getElem_eraseIdx]
        split
        · exact J.nofls_get hnf i _
        · exact J.nofls_get hnf (i + 1) _
      · rw [hwo]
        simp only [J.nodes]
        have := nodesL_erase l q
        omega
      · rw [hwo]
        cases t with
        | obj ks' l' =>
          unfold jm at ht ⊢
          refine jmo_of fun i h h' => ?_
          rw [List.length_eraseIdx_of_lt hqk] at h
          rw [List.getElem_eraseIdx, List.getElem_eraseIdx]
          split
          · exact jmo_get ht i (by omega) (by omega)
          · exact jmo_get ht (i + 1) (by omega) (by omega)
        | _ => simp [jm] at ht
    | cons st' p =>
      have ih := wo_ok (st' :: p) _ hok h2 (lastChild_tail hl)
      have hwo : J.wo (.child s :: st' :: p) (.obj ks l) = .obj ks (l.set q (J.wo (st' :: p) ((J.obj ks l).at1 (.child s)))) := by
        simp [J.wo, hpos]
      simp only [J.kids] at hat
      rw [hat] at ih hwo
      obtain ⟨i1, i2, i3, i4⟩ := ih
      generalize J.wo (st' :: p) l[q] = x at i1 i2 i3 i4 hwo
      refine ⟨?_, fun hnf => ?_, ?_, fun t ht => ?_⟩
      · rw [hwo]
        unfold J.ok
        refine ⟨hnd, by simpa using hlen, J.oks_of fun i hi => ?_⟩
        rw [List.getElem_set]
        split
        · exact i1
        · exact J.oks_get hoks i (by simpa using hi)
      · rw [hwo]
        unfold J.nofl at hnf ⊢
        refine J.nofls_of fun i hi => ?_
        rw [List.getElem_set]
        split
        · exact i2 (J.nofls_get hnf q hql)
        · exact J.nofls_get hnf i (by simpa using hi)
      · rw [hwo]
        simp only [J.nodes]
        have := nodesL_set l q x hql i3
        omega
      · rw [hwo]
        cases t with
        | obj ks' l' =>
          unfold jm at ht ⊢
          refine jmo_of fun i h h' => ?_
          have hg := jmo_get ht i h (by simpa using h')
          rw [List.getElem_set]
          split
          · rename_i e
            subst e
            exact i4 _ hg
          · exact hg
        | _ => simp [jm] at ht
end Go.Proofs.Ytikpedfggbibpaa
