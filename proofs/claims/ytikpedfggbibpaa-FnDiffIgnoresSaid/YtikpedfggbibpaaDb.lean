/- Paths of Diff in memory: what a list of them says, and what an append, a store make of it. -/
import Derived.Test.YtikpedfggbibpaaDa
import Derived.Deep.AppendLies
namespace Go.Proofs.Ytikpedfggbibpaa
open Go.RowKit Go.Lib
set_option linter.unusedVariables false
set_option linter.unusedSimpArgs false

def Step.val : Step → Value
  | .child s => .iface 9 (.string s)
  | .nth n => .iface 3 (.int .i64 n)
/-- a path as Diff tells it: the whole is a wildcard -/
def enc : List Step → List Value
  | [] => [.nilIface]
  | p => p.map Step.val
theorem enc_cons (st : Step) (p : List Step) : enc (st :: p) = st.val :: p.map Step.val := rfl
theorem enc_len (p : List Step) : 0 < (enc p).length := by cases p <;> simp [enc]
theorem enc_len_le (p : List Step) : (enc p).length ≤ p.length + 1 := by cases p <;> simp [enc]
theorem enc_one (p : List Step) : ∀ u ∈ enc p, u.oneCell' = true := by
  intro u hu
  cases p with
  | nil => simp [enc] at hu; subst hu; rfl
  | cons st p =>
    rw [enc_cons, ← List.map_cons] at hu
    obtain ⟨s, _, rfl⟩ := List.mem_map.1 hu
    cases s <;> rfl

/-- a path in a row of its own: its block, its room, its steps -/
abbrev DI : Type := Nat × Nat × List Step
def dval (d : DI) : Value := .slice (some ⟨d.1, 0, none⟩) (enc d.2.2).length d.2.1
def APath (w : World) (d : DI) : Prop := w.ownsRow 0 20 1 (dval d) (enc d.2.2).length (enc d.2.2)
theorem APath.lt {w : World} {d : DI} (h : APath w d) : d.1 < w.heap.size := (World.ownsRow.lt h d.1 rfl).2
theorem APath.cell {w : World} {d : DI} (h : APath w d) (i : Nat) (u : Value) (hu : (enc d.2.2)[i]? = some u) : w.cell? ⟨d.1, i, none⟩ = some u := by
  have := World.ownsRow.cells h (g := d.1) rfl i u hu
  rw [Addr.add_lit, Nat.zero_add] at this
  exact this
theorem APath.kept {w w' : World} {d : DI} {row : Option Nat} (h : APath w d) (hg : w.grownBy w' row) (hne : some d.1 ≠ row) : APath w' d := World.ownsRow.kept h hg (Or.inr hne)
theorem APath.ext {w w' : World} {d : DI} (h : APath w d) (k : Ext w w') : APath w' d := ownsRow_ext h k
theorem APath.type {w : World} {d : DI} (h : APath w d) : ∃ cur, w.heap[d.1]? = some (.cells cur 20 (0, 0)) := by
  rcases h.2 with ⟨h1, _⟩ | ⟨g, cap, cur, h1, _, hh, _⟩
  · cases h1
  · simp only [dval, Value.slice.injEq, Option.some.injEq, Addr.mk.injEq, and_true, true_and] at h1
    obtain ⟨rfl, _⟩ := h1
    exact ⟨cur, hh⟩

/-- what has been told (in a row of its own), what is about to be, and what is still to be taken over -/
structure DP (w : World) (B : Nat) (v : Value) (A pend D : List DI) (gd : Option Nat) : Prop where
  nd : ((A ++ pend ++ D).map (·.1)).Nodup
  all : ∀ d ∈ A ++ pend ++ D, B ≤ d.1 ∧ APath w d
  row : w.ownsRow B 86 1 v A.length (A.map dval)
  ne : ∀ g, gd = some g → v.ownBlock ≠ some g

theorem DP.nil (w : World) (B : Nat) : DP w B (.slice none 0 0) [] [] [] none :=
  ⟨by simp, by simp, World.ownsRow_nil w B _ 1, by simp⟩
theorem DP.ext {w w' : World} {B : Nat} {v : Value} {A pend D : List DI} {gd : Option Nat} (h : DP w B v A pend D gd) (k : Ext w w') : DP w' B v A pend D gd :=
  ⟨h.nd, fun d hd => ⟨(h.all d hd).1, (h.all d hd).2.ext k⟩, ownsRow_ext h.row k, h.ne⟩
/-- the row of what has been told is of another kind than a path -/
theorem DP.rowne {w : World} {B : Nat} {v : Value} {A pend D : List DI} {gd : Option Nat} (h : DP w B v A pend D gd) {d : DI} (hd : APath w d) : v.ownBlock ≠ some d.1 := by
  intro e
  obtain ⟨cur, hc⟩ := hd.type
  rcases h.row.2 with ⟨rfl, _⟩ | ⟨g, cap, cur', rfl, _, hh, _⟩
  · cases e
  · simp only [Value.ownBlock, Option.some.injEq] at e
    subst e
    rw [hc] at hh
    simp only [Option.some.injEq, Obj.cells.injEq] at hh
    exact absurd hh.2.1 (by decide)

/-- a call has told of some more: they are to be taken over -/
theorem DP.take {w w1 w' : World} {B : Nat} {v vds : Value} {A D : List DI} (h : DP w B v A [] [] none) (hx : Ext w w1) (k : Ext w1 w') (hd : DP w' w1.heap.size vds D [] [] none) (hB : B ≤ w.heap.size) : DP w' B v A [] D vds.ownBlock := by
  have hA : ∀ d ∈ A, B ≤ d.1 ∧ APath w d := fun d hd => h.all d (by simp [hd])
  have hD : ∀ d ∈ D, w1.heap.size ≤ d.1 ∧ APath w' d := fun d hd' => hd.all d (by simp [hd'])
  have h1 := h.nd
  have h2 := hd.nd
  simp only [List.append_nil] at h1 h2
  refine ⟨?_, fun d hd' => ?_, ownsRow_ext (ownsRow_ext h.row hx) k, fun g hg e => ?_⟩
  · simp only [List.append_nil, List.map_append]
    rw [List.nodup_append]
    refine ⟨h1, h2, fun x hx' y hy e => ?_⟩
    obtain ⟨a, ha, rfl⟩ := List.mem_map.1 hx'
    obtain ⟨b, hb, rfl⟩ := List.mem_map.1 hy
    have a1 := (hA a ha).2.lt
    have b1 := (hD b hb).1
    have := hx.size
    omega
  · simp only [List.append_nil, List.mem_append] at hd'
    rcases hd' with hd' | hd'
    · exact ⟨(hA d hd').1, ((hA d hd').2.ext hx).ext k⟩
    · exact ⟨Nat.le_trans hB (Nat.le_trans hx.size (hD d hd').1), (hD d hd').2⟩
  · have a1 := (h.row.lt g e).2
    have b1 := (hd.row.lt g hg).1
    have := hx.size
    omega

/-- a path that tells the whole is turned into one that tells a part, in place -/
theorem DP.put {w w' : World} {B : Nat} {v : Value} {A D : List DI} {gd : Option Nat} {g c : Nat} {st : Step} (h : DP w B v A [] ((g, c, []) :: D) gd) (hw : w' = w.setCell ⟨g, 0, none⟩ st.val) : DP w' B v A [(g, c, [st])] D gd := by
  have hg := h.all (g, c, []) (by simp)
  have hgw : w.grownBy w' (some g) := by
    rw [hw]
    exact ⟨rfl, rfl, rfl, by simp [World.setCell], fun k hk hne => heap_setCell_other _ _ _ _ (fun e => hne (by rw [e]))⟩
  have hnd := h.nd
  simp only [List.append_nil, List.map_append, List.map_cons] at hnd
  rw [List.nodup_append] at hnd
  obtain ⟨n1, n2, n3⟩ := hnd
  obtain ⟨n4, n5⟩ := List.nodup_cons.1 n2
  refine ⟨?_, fun d hd => ?_, h.row.kept hgw (Or.inr (h.rowne hg.2)), h.ne⟩
  · have := h.nd
    simpa using this
  · simp only [List.append_assoc, List.mem_append, List.mem_singleton] at hd
    rcases hd with hd | rfl | hd
    · have ha := h.all d (by simp [hd])
      refine ⟨ha.1, ha.2.kept hgw (fun e => ?_)⟩
      have e' : d.1 = g := Option.some.inj e
      exact n3 d.1 (List.mem_map.2 ⟨d, hd, rfl⟩) g (by simp) e'
    · refine ⟨hg.1, rfl, Or.inr ?_⟩
      rcases hg.2.2 with ⟨h1, _⟩ | ⟨g1, cap, cur, h1, _, hh, h3, h4, h5, h6⟩
      · cases h1
      · simp only [dval, Value.slice.injEq, Option.some.injEq, Addr.mk.injEq, and_true, true_and] at h1
        obtain ⟨rfl, rfl⟩ := h1
        refine ⟨g, c, cur.setIfInBounds 0 st.val, rfl, Nat.zero_le _, ?_, h3, h4, by simpa using h5, ?_⟩
        · rw [hw, setCell_eq_setRow w g 0 cur _ (0, 0) st.val hh]
          exact setRow_heap _ _ _ _ _ _ hh
        · have hs : 0 < cur.size := by
            simp only [enc, List.length_singleton] at h3
            omega
          simp only [enc, List.length_singleton, Nat.one_mul, List.map_cons, List.map_nil] at h6 ⊢
          rw [Array.toList_setIfInBounds]
          cases hcur : cur.toList with
          | nil => have h0 : cur.toList.length = 0 := by rw [hcur]; rfl
                   rw [Array.length_toList] at h0; omega
          | cons x xs => simp
    · have ha := h.all d (by simp [hd])
      refine ⟨ha.1, ha.2.kept hgw (fun e => ?_)⟩
      have e' : d.1 = g := Option.some.inj e
      exact n4 (List.mem_map.2 ⟨d, hd, e'⟩)
/-- a path in new memory is to be told in the place of one -/
theorem DP.fresh {w w' : World} {B : Nat} {v : Value} {A D : List DI} {gd : Option Nat} {d d' : DI} (h : DP w B v A [] (d :: D) gd) (k : Ext w w') (hd : APath w' d') (hn : w.heap.size ≤ d'.1) (hB : B ≤ w.heap.size) : DP w' B v A [d'] D gd := by
  have hnd := h.nd
  simp only [List.append_nil, List.map_append, List.map_cons] at hnd
  rw [List.nodup_append] at hnd
  obtain ⟨n1, n2, n3⟩ := hnd
  obtain ⟨n4, n5⟩ := List.nodup_cons.1 n2
  refine ⟨?_, fun x hx => ?_, ownsRow_ext h.row k, h.ne⟩
  · simp only [List.append_assoc, List.map_append, List.map_cons, List.map_nil, List.singleton_append]
    rw [List.nodup_append]
    refine ⟨n1, List.nodup_cons.2 ⟨fun hm => ?_, n5⟩, fun x hx y hy e => ?_⟩
    · obtain ⟨y, hy, e⟩ := List.mem_map.1 hm
      have := (h.all y (by simp [hy])).2.lt
      omega
    · obtain ⟨z, hz, rfl⟩ := List.mem_map.1 hx
      have := (h.all z (by simp [hz])).2.lt
      rcases List.mem_cons.1 hy with rfl | hy
      · omega
      · exact n3 z.1 hx y (List.mem_cons_of_mem _ hy) e
  · simp only [List.append_assoc, List.mem_append, List.mem_singleton] at hx
    rcases hx with hx | rfl | hx
    · have ha := h.all x (by simp [hx])
      exact ⟨ha.1, ha.2.ext k⟩
    · exact ⟨Nat.le_trans hB hn, hd⟩
    · have ha := h.all x (by simp [hx])
      exact ⟨ha.1, ha.2.ext k⟩
/-- a first path, in new memory -/
theorem DP.first {w w' : World} {B : Nat} {v : Value} {A : List DI} {d' : DI} (h : DP w B v A [] [] none) (k : Ext w w') (hd : APath w' d') (hn : w.heap.size ≤ d'.1) (hB : B ≤ w.heap.size) : DP w' B v A [d'] [] none := by
  have n1 := h.nd
  simp only [List.append_nil] at n1
  refine ⟨?_, fun x hx => ?_, ownsRow_ext h.row k, h.ne⟩
  · simp only [List.append_nil, List.map_append, List.map_cons, List.map_nil]
    rw [List.nodup_append]
    refine ⟨n1, by simp, fun x hx y hy e => ?_⟩
    obtain ⟨z, hz, rfl⟩ := List.mem_map.1 hx
    have := (h.all z (by simp [hz])).2.lt
    simp only [List.mem_singleton] at hy
    omega
  · simp only [List.append_nil, List.mem_append, List.mem_singleton] at hx
    rcases hx with hx | rfl
    · have ha := h.all x (by simp [hx])
      exact ⟨ha.1, ha.2.ext k⟩
    · exact ⟨Nat.le_trans hB hn, hd⟩
/-- it is told -/
theorem DP.push {w w' : World} {B : Nat} {v v' : Value} {A D : List DI} {gd : Option Nat} {d : DI} (h : DP w B v A [d] D gd) (hg : w.grownBy w' v.ownBlock) (ho : w'.ownsRow B 86 1 v' (A.length + 1) (A.map dval ++ [dval d]))
    (hat : v'.ownBlock = v.ownBlock ∨ ∀ g, gd = some g → v'.ownBlock ≠ some g) : DP w' B v' (A ++ [d]) [] D gd := by
  refine ⟨by have := h.nd; simpa using this, fun x hx => ?_, by simpa using ho, fun g hgd => ?_⟩
  · have ha := h.all x (by simpa using hx)
    exact ⟨ha.1, ha.2.kept hg (Ne.symm (h.rowne ha.2))⟩
  · rcases hat with e | e
    · rw [e]; exact h.ne g hgd
    · exact e g hgd
theorem DP.done {w : World} {B : Nat} {v : Value} {A : List DI} {gd : Option Nat} (h : DP w B v A [] [] gd) : DP w B v A [] [] none := ⟨h.nd, h.all, h.row, by simp⟩
theorem DP.base {w : World} {B B' : Nat} {v : Value} {A : List DI} (h : DP w B v A [] [] none) (hb : B' ≤ B) : DP w B' v A [] [] none :=
  ⟨h.nd, fun d hd => ⟨Nat.le_trans hb (h.all d hd).1, (h.all d hd).2⟩, ownsRow_base h.row hb, by simp⟩

/-- the cells of a row of paths -/
def DRow (w : World) (g : Nat) (D : List DI) : Prop := ∀ i d, D[i]? = some d → w.cell? ⟨g, i, none⟩ = some (dval d)
theorem DP.drow {w : World} {B : Nat} {v : Value} {A : List DI} (h : DP w B v A [] [] none) (hA : A ≠ []) : ∃ g c, v = .slice (some ⟨g, 0, none⟩) A.length c ∧ DRow w g A ∧ B ≤ g ∧ g < w.heap.size ∧ w.heap[g]?.isSome = true := by
  rcases h.row.2 with ⟨_, h0⟩ | ⟨g, cap, cur, rfl, hb, hh, hc, rest⟩
  · exact absurd (List.length_eq_zero_iff.1 h0) hA
  · refine ⟨g, cap, rfl, fun i d hd => ?_, hb, (Array.getElem?_eq_some_iff.1 hh).1, by rw [hh]; rfl⟩
    have := h.row.cells (g := g) rfl i (dval d) (by rw [List.getElem?_map, hd]; rfl)
    rw [Addr.add_lit, Nat.zero_add] at this
    exact this
end Go.Proofs.Ytikpedfggbibpaa
