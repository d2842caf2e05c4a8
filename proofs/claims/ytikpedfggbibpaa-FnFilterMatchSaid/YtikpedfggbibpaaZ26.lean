/- Where two values differ: the plain definitions and laws. No program in sight. Paths of Diff in memory: what a list of them says, and what an append, a store make of it. Walks: ignoreIndex, ignoreKey. -/
import Derived.Test.YtikpedfggbibpaaZ25
import Derived.Deep.AppendLies
namespace Go.Proofs.Ytikpedfggbibpaa
open Go.RowKit
set_option linter.unusedVariables false
set_option linter.unusedSimpArgs false

def Step.eqb : Step → Step → Bool
  | .child a, .child b => decide (a = b)
  | .nth m, .nth n => decide (m = n)
  | _, _ => false
theorem Step.eqb_iff : ∀ {a b : Step}, a.eqb b = true ↔ a = b
  | .child a, .child b => by simp [Step.eqb]
  | .nth m, .nth n => by simp [Step.eqb]
  | .child a, .nth n => by simp [Step.eqb]
  | .nth m, .child b => by simp [Step.eqb]

/-- a step of an ignored path: none is a wildcard -/
def igM : Option Step → Step → Bool
  | none, _ => true
  | some a, b => a.eqb b
abbrev Ig : Type := Option (List (Option Step))
def igSkip : Ig → Step → Bool
  | some [x], st => igM x st
  | _, _ => false
def igSub : Ig → Step → Ig
  | some (x :: y :: r), st => if igM x st then some (y :: r) else none
  | _, _ => none

/-- two leaves are the same -/
def leafEq : J → J → Bool
  | .null, .null => true
  | .bool a, .bool b => a == b
  | .int a, .int b => decide (a = b)
  | .str a, .str b => decide (a = b)
  | _, _ => false

/-- the keys of two objects, each once -/
def hasK (a : List ByteArray) (k : ByteArray) : Bool := a.any fun x => decide (x = k)
theorem hasK_iff {a : List ByteArray} {k : ByteArray} : hasK a k = true ↔ k ∈ a := by
  unfold hasK
  rw [List.any_eq_true]
  constructor
  · rintro ⟨x, hx, h⟩
    simp only [decide_eq_true_eq] at h
    rw [← h]
    exact hx
  · intro h
    exact ⟨k, h, by simp⟩
theorem hasK_not {a : List ByteArray} {k : ByteArray} : (!hasK a k) = true ↔ k ∉ a := by
  rw [Bool.not_eq_true', ← hasK_iff]
  simp
def keysU (a b : List ByteArray) : List ByteArray := a ++ b.filter fun k => !hasK a k
theorem mem_keysU {a b : List ByteArray} {k : ByteArray} : k ∈ keysU a b ↔ k ∈ a ∨ k ∈ b := by
  unfold keysU
  simp only [List.mem_append, List.mem_filter, hasK_not]
  constructor
  · rintro (h | ⟨h, _⟩)
    · exact Or.inl h
    · exact Or.inr h
  · rintro (h | h)
    · exact Or.inl h
    · by_cases hk : k ∈ a
      · exact Or.inl hk
      · exact Or.inr ⟨h, hk⟩
theorem nodup_keysU {a b : List ByteArray} (ha : a.Nodup) (hb : b.Nodup) : (keysU a b).Nodup := by
  unfold keysU
  rw [List.nodup_append]
  refine ⟨ha, (List.filter_sublist).nodup hb, fun x hx y hy e => ?_⟩
  subst e
  simp only [List.mem_filter, hasK_not] at hy
  exact hy.2 hx

/-- one part's differences, behind its step -/
def under1 (ig : Ig) (st : Step) (f : Ig → List (List Step)) : List (List Step) := if igSkip ig st then [] else (f (igSub ig st)).map (st :: ·)

def arrGet (l : List J) (i : Nat) : J := (l[i]?).getD .null
theorem arrGet_eq {l : List J} {i : Nat} (h : i < l.length) : arrGet l i = l[i] := by simp [arrGet, h]

/-- the places at which two data differ (fuel: their sizes) -/
def difF : Nat → Ig → J → J → List (List Step)
  | 0, _, _, _ => []
  | n + 1, ig, .arr l, .arr m =>
    (List.range (min l.length m.length)).flatMap (fun (i : Nat) => under1 ig (.nth (i : Int)) fun g => difF n g (arrGet l i) (arrGet m i)) ++
      (if l.length = m.length then [] else under1 ig (.nth ((min l.length m.length : Nat) : Int)) fun _ => [[]])
  | n + 1, ig, .obj ks l, .obj ks' l' => (keysU ks ks').flatMap fun k => under1 ig (.child k) fun g => difF n g (look ks l k) (look ks' l' k)
  | _ + 1, _, a, b => if leafEq a b then [] else [[]]

def cov1 : List (Option Step) → List Step → Bool
  | [], _ => true
  | _ :: _, [] => false
  | x :: r, st :: p => igM x st && cov1 r p

theorem under1_none (st : Step) (f : Ig → List (List Step)) : under1 none st f = (f none).map (st :: ·) := by simp [under1, igSkip, igSub]
theorem under1_filter (x : Option Step) (r : List (Option Step)) (st : Step) (f : Ig → List (List Step)) (h : ∀ y r', r = y :: r' → f (some r) = (f none).filter fun p => !cov1 r p) :
    under1 (some (x :: r)) st f = (under1 none st f).filter fun p => !cov1 (x :: r) p := by
  rw [under1_none]
  unfold under1
  cases r with
  | nil =>
    cases hm : igM x st
    · have e : (fun p => !cov1 [x] p) ∘ (st :: ·) = fun p : List Step => true := by
        funext p
        simp [cov1, hm]
      rw [List.filter_map, e, List.filter_eq_self.2 (fun _ _ => rfl)]
      simp [igSkip, igSub, hm]
    · have e : (fun p => !cov1 [x] p) ∘ (st :: ·) = fun p : List Step => false := by
        funext p
        simp [cov1, hm]
      simp [igSkip, hm, List.filter_map, e]
  | cons y r' =>
    cases hm : igM x st
    · have e : (fun p => !cov1 (x :: y :: r') p) ∘ (st :: ·) = fun p : List Step => true := by
        funext p
        simp [cov1, hm]
      rw [List.filter_map, e, List.filter_eq_self.2 (fun _ _ => rfl)]
      simp [igSkip, igSub, hm]
    · have e : (fun p => !cov1 (x :: y :: r') p) ∘ (st :: ·) = fun p : List Step => !cov1 (y :: r') p := by
        funext p
        simp [cov1, hm]
      simp [igSkip, igSub, hm, List.filter_map, e, h y r' rfl]
theorem filter_flatMap {α β : Type} (l : List α) (f : α → List β) (q : β → Bool) : (l.flatMap f).filter q = l.flatMap fun a => (f a).filter q := by
  induction l with
  | nil => rfl
  | cons a l ih => simp [List.flatMap_cons, ih]

/-- what is told beside an ignored path is what it does not cover -/
theorem difF_ig : ∀ (n : Nat) (x : Option Step) (r : List (Option Step)) (a b : J), difF n (some (x :: r)) a b = (difF n none a b).filter fun p => !cov1 (x :: r) p
  | 0, _, _, _, _ => rfl
  | n + 1, x, r, a, b => by
    have hi : ∀ (a b : J) y r', r = y :: r' → difF n (some r) a b = (difF n none a b).filter fun p => !cov1 r p := by
      rintro a b y r' rfl
      exact difF_ig n y r' a b
    have leaf : ∀ c : Bool, (if c then [] else [[]] : List (List Step)) = (if c then [] else [[]] : List (List Step)).filter fun p => !cov1 (x :: r) p := by
      intro c
      cases c <;> simp [cov1]
    cases a <;> cases b <;> try exact leaf _
    · rename_i l m
      simp only [difF]
      rw [List.filter_append, filter_flatMap]
      congr 1
      · congr 1
        funext i
        exact under1_filter x r _ _ (hi _ _)
      · split
        · rfl
        · exact under1_filter x r _ _ (fun y r' e => by simp [e, cov1])
    · rename_i ks l ks' l'
      simp only [difF]
      rw [filter_flatMap]
      congr 1
      funext k
      exact under1_filter x r _ _ (hi _ _)

theorem mem_under1 {ig : Ig} {st : Step} {f : Ig → List (List Step)} {p : List Step} (h : p ∈ under1 ig st f) : ∃ q, p = st :: q := by
  unfold under1 at h
  split at h
  · simp at h
  · obtain ⟨q, _, rfl⟩ := List.mem_map.1 h
    exact ⟨q, rfl⟩
theorem nodup_under1 {st : Step} {f : Ig → List (List Step)} (h : (f none).Nodup) : (under1 none st f).Nodup := by
  rw [under1_none]
  exact List.Pairwise.map _ (fun a b hne e => hne (by simpa using e)) h
theorem nodup_flat {α : Type} (st : α → Step) (hst : ∀ a b, st a = st b → a = b) (f : α → List (List Step)) (hf : ∀ a p, p ∈ f a → ∃ q, p = st a :: q) : ∀ (l : List α), l.Nodup → (∀ a ∈ l, (f a).Nodup) → (l.flatMap f).Nodup
  | [], _, _ => by simp
  | a :: l, h, hn => by
    obtain ⟨h1, h2⟩ := List.nodup_cons.1 h
    rw [List.flatMap_cons, List.nodup_append]
    refine ⟨hn a (by simp), nodup_flat st hst f hf l h2 (fun b hb => hn b (by simp [hb])), fun x hx y hy e => ?_⟩
    subst e
    obtain ⟨b, hb, hy⟩ := List.mem_flatMap.1 hy
    obtain ⟨q, e1⟩ := hf a x hx
    obtain ⟨q', e2⟩ := hf b x hy
    rw [e1] at e2
    simp only [List.cons.injEq] at e2
    exact h1 (by rw [hst a b e2.1]; exact hb)
/-- each place is told once -/
theorem nodup_difF : ∀ (n : Nat) (a b : J), a.ok → b.ok → (difF n none a b).Nodup
  | 0, _, _, _, _ => by simp [difF]
  | n + 1, a, b, ha, hb => by
    have leaf : ∀ c : Bool, (if c then [] else [[]] : List (List Step)).Nodup := by
      intro c
      cases c <;> simp
    cases a <;> cases b <;> try exact leaf _
    · rename_i l m
      unfold J.ok at ha hb
      simp only [difF]
      rw [List.nodup_append]
      refine ⟨nodup_flat (fun i : Nat => .nth (i : Int)) (fun a b e => by simp only [Step.nth.injEq] at e; omega) _ (fun i p hp => mem_under1 hp) _ List.nodup_range (fun i hi => nodup_under1 (f := fun g => difF n g (arrGet l i) (arrGet m i)) (nodup_difF n _ _ ?_ ?_)), ?_, fun x hx y hy e => ?_⟩
      · have h : i < l.length := by simp at hi; omega
        rw [arrGet_eq h]
        exact J.oks_get ha i h
      · have h : i < m.length := by simp at hi; omega
        rw [arrGet_eq h]
        exact J.oks_get hb i h
      · split
        · simp
        · exact nodup_under1 (by simp)
      · subst e
        obtain ⟨i, hi, hx⟩ := List.mem_flatMap.1 hx
        obtain ⟨q, e1⟩ := mem_under1 hx
        split at hy
        · simp at hy
        · obtain ⟨q', e2⟩ := mem_under1 hy
          rw [e1] at e2
          simp only [List.cons.injEq, Step.nth.injEq] at e2
          simp at hi
          omega
    · rename_i ks l ks' l'
      unfold J.ok at ha hb
      simp only [difF]
      refine nodup_flat (fun k => .child k) (fun a b e => by simpa using e) _ (fun k p hp => mem_under1 hp) _ (nodup_keysU ha.1 hb.1) (fun k hk => nodup_under1 (f := fun g => difF n g (look ks l k) (look ks' l' k)) (nodup_difF n _ _ ?_ ?_))
      · exact look_all (p := J.ok) (by unfold J.ok; trivial) (fun q hq => J.oks_get ha.2.2 q hq)
      · exact look_all (p := J.ok) (by unfold J.ok; trivial) (fun q hq => J.oks_get hb.2.2 q hq)

theorem look_nodes {k : ByteArray} : ∀ {ks : List ByteArray} {l : List J}, (look ks l k).nodes ≤ 1 + J.nodesL l
  | [], l => by unfold look; simp only [J.nodes]; omega
  | _ :: _, [] => by unfold look; simp only [J.nodes]; omega
  | a :: ks, x :: xs => by
    unfold look
    split
    · simp only [J.nodesL]; omega
    · have := look_nodes (k := k) (ks := ks) (l := xs)
      simp only [J.nodesL]
      omega
theorem look_nodes_mem {k : ByteArray} : ∀ {ks : List ByteArray} {l : List J}, k ∈ ks → ks.length = l.length → (look ks l k).nodes ≤ J.nodesL l
  | [], _, h, _ => by simp at h
  | _ :: _, [], _, h => by simp at h
  | a :: ks, x :: xs, h, hl => by
    unfold look
    split
    · simp only [J.nodesL]; omega
    · rename_i hne
      have hk : k ∈ ks := by
        rcases List.mem_cons.1 h with rfl | h
        · exact absurd rfl hne
        · exact h
      have := look_nodes_mem hk (by simpa using hl : ks.length = xs.length)
      simp only [J.nodesL]
      omega
theorem look_lt {ks ks' : List ByteArray} {l l' : List J} {k : ByteArray} (h1 : ks.length = l.length) (h2 : ks'.length = l'.length) (hk : k ∈ keysU ks ks') :
    (look ks l k).nodes + (look ks' l' k).nodes < (J.obj ks l).nodes + (J.obj ks' l').nodes := by
  have a1 := look_nodes (k := k) (ks := ks) (l := l)
  have a2 := look_nodes (k := k) (ks := ks') (l := l')
  simp only [J.nodes]
  rcases mem_keysU.1 hk with h | h
  · have := look_nodes_mem h h1
    omega
  · have := look_nodes_mem h h2
    omega
end Go.Proofs.Ytikpedfggbibpaa
namespace Go.Proofs.Ytikpedfggbibpaa
open Go.RowKit Go.Lib
set_option linter.unusedVariables false
set_option linter.unusedSimpArgs false

def Step.val : Step → Value
  | .child s => .iface 9 (.string s)
  | .nth n => .iface 3 (.int .i64 n)
/-- a path as Diff tells it: the whole is a wildcard -/
def enc : List Step → List Value
  | [] => [.nilIface]
  | p => p.map Step.val
theorem enc_cons (st : Step) (p : List Step) : enc (st :: p) = st.val :: p.map Step.val := rfl
theorem enc_len (p : List Step) : 0 < (enc p).length := by cases p <;> simp [enc]
theorem enc_len_le (p : List Step) : (enc p).length ≤ p.length + 1 := by cases p <;> simp [enc]
theorem enc_one (p : List Step) : ∀ u ∈ enc p, u.oneCell' = true := by
  intro u hu
  cases p with
  | nil => simp [enc] at hu; subst hu; rfl
  | cons st p =>
    rw [enc_cons, ← List.map_cons] at hu
    obtain ⟨s, _, rfl⟩ := List.mem_map.1 hu
    cases s <;> rfl

/-- a path in a row of its own: its block, its room, its steps -/
abbrev DI : Type := Nat × Nat × List Step
def dval (d : DI) : Value := .slice (some ⟨d.1, 0, none⟩) (enc d.2.2).length d.2.1
def APath (w : World) (d : DI) : Prop := w.ownsRow 0 20 1 (dval d) (enc d.2.2).length (enc d.2.2)
theorem APath.lt {w : World} {d : DI} (h : APath w d) : d.1 < w.heap.size := (World.ownsRow.lt h d.1 rfl).2
theorem APath.cell {w : World} {d : DI} (h : APath w d) (i : Nat) (u : Value) (hu : (enc d.2.2)[i]? = some u) : w.cell? ⟨d.1, i, none⟩ = some u := by
  have := World.ownsRow.cells h (g := d.1) rfl i u hu
  rw [Addr.add_lit, Nat.zero_add] at this
  exact this
theorem APath.kept {w w' : World} {d : DI} {row : Option Nat} (h : APath w d) (hg : w.grownBy w' row) (hne : some d.1 ≠ row) : APath w' d := World.ownsRow.kept h hg (Or.inr hne)
theorem APath.ext {w w' : World} {d : DI} (h : APath w d) (k : Ext w w') : APath w' d := ownsRow_ext h k
theorem APath.type {w : World} {d : DI} (h : APath w d) : ∃ cur, w.heap[d.1]? = some (.cells cur 20 (0, 0)) := by
  rcases h.2 with ⟨h1, _⟩ | ⟨g, cap, cur, h1, _, hh, _⟩
  · cases h1
  · simp only [dval, Value.slice.injEq, Option.some.injEq, Addr.mk.injEq, and_true, true_and] at h1
    obtain ⟨rfl, _⟩ := h1
    exact ⟨cur, hh⟩

/-- what has been told (in a row of its own), what is about to be, and what is still to be taken over -/
structure DP (w : World) (B : Nat) (v : Value) (A pend D : List DI) (gd : Option Nat) : Prop where
  nd : ((A ++ pend ++ D).map (·.1)).Nodup
  all : ∀ d ∈ A ++ pend ++ D, B ≤ d.1 ∧ APath w d
  row : w.ownsRow B 86 1 v A.length (A.map dval)
  ne : ∀ g, gd = some g → v.ownBlock ≠ some g

theorem DP.nil (w : World) (B : Nat) : DP w B (.slice none 0 0) [] [] [] none :=
  ⟨by simp, by simp, World.ownsRow_nil w B _ 1, by simp⟩
theorem DP.ext {w w' : World} {B : Nat} {v : Value} {A pend D : List DI} {gd : Option Nat} (h : DP w B v A pend D gd) (k : Ext w w') : DP w' B v A pend D gd :=
  ⟨h.nd, fun d hd => ⟨(h.all d hd).1, (h.all d hd).2.ext k⟩, ownsRow_ext h.row k, h.ne⟩
/-- the row of what has been told is of another kind than a path -/
theorem DP.rowne {w : World} {B : Nat} {v : Value} {A pend D : List DI} {gd : Option Nat} (h : DP w B v A pend D gd) {d : DI} (hd : APath w d) : v.ownBlock ≠ some d.1 := by
  intro e
  obtain ⟨cur, hc⟩ := hd.type
  rcases h.row.2 with ⟨rfl, _⟩ | ⟨g, cap, cur', rfl, _, hh, _⟩
  · cases e
  · simp only [Value.ownBlock, Option.some.injEq] at e
    subst e
    rw [hc] at hh
    simp only [Option.some.injEq, Obj.cells.injEq] at hh
    exact absurd hh.2.1 (by decide)

/-- a call has told of some more: they are to be taken over -/
theorem DP.take {w w1 w' : World} {B : Nat} {v vds : Value} {A D : List DI} (h : DP w B v A [] [] none) (hx : Ext w w1) (k : Ext w1 w') (hd : DP w' w1.heap.size vds D [] [] none) (hB : B ≤ w.heap.size) : DP w' B v A [] D vds.ownBlock := by
  have hA : ∀ d ∈ A, B ≤ d.1 ∧ APath w d := fun d hd => h.all d (by simp [hd])
  have hD : ∀ d ∈ D, w1.heap.size ≤ d.1 ∧ APath w' d := fun d hd' => hd.all d (by simp [hd'])
  have h1 := h.nd
  have h2 := hd.nd
  simp only [List.append_nil] at h1 h2
  refine ⟨?_, fun d hd' => ?_, ownsRow_ext (ownsRow_ext h.row hx) k, fun g hg e => ?_⟩
  · simp only [List.append_nil, List.map_append]
    rw [List.nodup_append]
    refine ⟨h1, h2, fun x hx' y hy e => ?_⟩
    obtain ⟨a, ha, rfl⟩ := List.mem_map.1 hx'
    obtain ⟨b, hb, rfl⟩ := List.mem_map.1 hy
    have a1 := (hA a ha).2.lt
    have b1 := (hD b hb).1
    have := hx.size
    omega
  · simp only [List.append_nil, List.mem_append] at hd'
    rcases hd' with hd' | hd'
    · exact ⟨(hA d hd').1, ((hA d hd').2.ext hx).ext k⟩
    · exact ⟨Nat.le_trans hB (Nat.le_trans hx.size (hD d hd').1), (hD d hd').2⟩
  · have a1 := (h.row.lt g e).2
    have b1 := (hd.row.lt g hg).1
    have := hx.size
    omega

/-- a path that tells the whole is turned into one that tells a part, in place -/
theorem DP.put {w w' : World} {B : Nat} {v : Value} {A D : List DI} {gd : Option Nat} {g c : Nat} {st : Step} (h : DP w B v A [] ((g, c, []) :: D) gd) (hw : w' = w.setCell ⟨g, 0, none⟩ st.val) : DP w' B v A [(g, c, [st])] D gd := by
  have hg := h.all (g, c, []) (by simp)
  have hgw : w.grownBy w' (some g) := by
    rw [hw]
    exact ⟨rfl, rfl, rfl, by simp [World.setCell], fun k hk hne => heap_setCell_other _ _ _ _ (fun e => hne (by rw [e]))⟩
  have hnd := h.nd
  simp only [List.append_nil, List.map_append, List.map_cons] at hnd
  rw [List.nodup_append] at hnd
  obtain ⟨n1, n2, n3⟩ := hnd
  obtain ⟨n4, n5⟩ := List.nodup_cons.1 n2
  refine ⟨?_, fun d hd => ?_, h.row.kept hgw (Or.inr (h.rowne hg.2)), h.ne⟩
  · have := h.nd
    simpa using this
  · simp only [List.append_assoc, List.mem_append, List.mem_singleton] at hd
    rcases hd with hd | rfl | hd
    · have ha := h.all d (by simp [hd])
      refine ⟨ha.1, ha.2.kept hgw (fun e => ?_)⟩
      have e' : d.1 = g := Option.some.inj e
      exact n3 d.1 (List.mem_map.2 ⟨d, hd, rfl⟩) g (by simp) e'
    · refine ⟨hg.1, rfl, Or.inr ?_⟩
      rcases hg.2.2 with ⟨h1, _⟩ | ⟨g1, cap, cur, h1, _, hh, h3, h4, h5, h6⟩
      · cases h1
      · simp only [dval, Value.slice.injEq, Option.some.injEq, Addr.mk.injEq, and_true, true_and] at h1
        obtain ⟨rfl, rfl⟩ := h1
        refine ⟨g, c, cur.setIfInBounds 0 st.val, rfl, Nat.zero_le _, ?_, h3, h4, by simpa using h5, ?_⟩
        · rw [hw, setCell_eq_setRow w g 0 cur _ (0, 0) st.val hh]
          exact setRow_heap _ _ _ _ _ _ hh
        · have hs : 0 < cur.size := by
            simp only [enc, List.length_singleton] at h3
            omega
          simp only [enc, List.length_singleton, Nat.one_mul, List.map_cons, List.map_nil] at h6 ⊢
          rw [Array.toList_setIfInBounds]
          cases hcur : cur.toList with
          | nil => have h0 : cur.toList.length = 0 := by rw [hcur]; rfl
                   rw [Array.length_toList] at h0; omega
          | cons x xs => simp
    · have ha := h.all d (by simp [hd])
      refine ⟨ha.1, ha.2.kept hgw (fun e => ?_)⟩
      have e' : d.1 = g := Option.some.inj e
      exact n4 (List.mem_map.2 ⟨d, hd, e'⟩)
/-- a path in new memory is to be told in the place of one -/
theorem DP.fresh {w w' : World} {B : Nat} {v : Value} {A D : List DI} {gd : Option Nat} {d d' : DI} (h : DP w B v A [] (d :: D) gd) (k : Ext w w') (hd : APath w' d') (hn : w.heap.size ≤ d'.1) (hB : B ≤ w.heap.size) : DP w' B v A [d'] D gd := by
  have hnd := h.nd
  simp only [List.append_nil, List.map_append, List.map_cons] at hnd
  rw [List.nodup_append] at hnd
  obtain ⟨n1, n2, n3⟩ := hnd
  obtain ⟨n4, n5⟩ := List.nodup_cons.1 n2
  refine ⟨?_, fun x hx => ?_, ownsRow_ext h.row k, h.ne⟩
  · simp only [List.append_assoc, List.map_append, List.map_cons, List.map_nil, List.singleton_append]
    rw [List.nodup_append]
    refine ⟨n1, List.nodup_cons.2 ⟨fun hm => ?_, n5⟩, fun x hx y hy e => ?_⟩
    · obtain ⟨y, hy, e⟩ := List.mem_map.1 hm
      have := (h.all y (by simp [hy])).2.lt
      omega
    · obtain ⟨z, hz, rfl⟩ := List.mem_map.1 hx
      have := (h.all z (by simp [hz])).2.lt
      rcases List.mem_cons.1 hy with rfl | hy
      · omega
      · exact n3 z.1 hx y (List.mem_cons_of_mem _ hy) e
  · simp only [List.append_assoc, List.mem_append, List.mem_singleton] at hx
    rcases hx with hx | rfl | hx
    · have ha := h.all x (by simp [hx])
      exact ⟨ha.1, ha.2.ext k⟩
    · exact ⟨Nat.le_trans hB hn, hd⟩
    · have ha := h.all x (by simp [hx])
      exact ⟨ha.1, ha.2.ext k⟩
/-- a first path, in new memory -/
theorem DP.first {w w' : World} {B : Nat} {v : Value} {A : List DI} {d' : DI} (h : DP w B v A [] [] none) (k : Ext w w') (hd : APath w' d') (hn : w.heap.size ≤ d'.1) (hB : B ≤ w.heap.size) : DP w' B v A [d'] [] none := by
  have n1 := h.nd
  simp only [List.append_nil] at n1
  refine ⟨?_, fun x hx => ?_, ownsRow_ext h.row k, h.ne⟩
  · simp only [List.append_nil, List.map_append, List.map_cons, List.map_nil]
    rw [List.nodup_append]
    refine ⟨n1, by simp, fun x hx y hy e => ?_⟩
    obtain ⟨z, hz, rfl⟩ := List.mem_map.1 hx
    have := (h.all z (by simp [hz])).2.lt
    simp only [List.mem_singleton] at hy
    omega
  · simp only [List.append_nil, List.mem_append, List.mem_singleton] at hx
    rcases hx with hx | rfl
    · have ha := h.all x (by simp [hx])
      exact ⟨ha.1, ha.2.ext k⟩
    · exact ⟨Nat.le_trans hB hn, hd⟩
/-- it is told -/
theorem DP.push {w w' : World} {B : Nat} {v v' : Value} {A D : List DI} {gd : Option Nat} {d : DI} (h : DP w B v A [d] D gd) (hg : w.grownBy w' v.ownBlock) (ho : w'.ownsRow B 86 1 v' (A.length + 1) (A.map dval ++ [dval d]))
    (hat : v'.ownBlock = v.ownBlock ∨ ∀ g, gd = some g → v'.ownBlock ≠ some g) : DP w' B v' (A ++ [d]) [] D gd := by
  refine ⟨by have := h.nd; simpa using this, fun x hx => ?_, by simpa using ho, fun g hgd => ?_⟩
  · have ha := h.all x (by simpa using hx)
    exact ⟨ha.1, ha.2.kept hg (Ne.symm (h.rowne ha.2))⟩
  · rcases hat with e | e
    · rw [e]; exact h.ne g hgd
    · exact e g hgd
theorem DP.done {w : World} {B : Nat} {v : Value} {A : List DI} {gd : Option Nat} (h : DP w B v A [] [] gd) : DP w B v A [] [] none := ⟨h.nd, h.all, h.row, by simp⟩
theorem DP.base {w : World} {B B' : Nat} {v : Value} {A : List DI} (h : DP w B v A [] [] none) (hb : B' ≤ B) : DP w B' v A [] [] none :=
  ⟨h.nd, fun d hd => ⟨Nat.le_trans hb (h.all d hd).1, (h.all d hd).2⟩, ownsRow_base h.row hb, by simp⟩

/-- the cells of a row of paths -/
def DRow (w : World) (g : Nat) (D : List DI) : Prop := ∀ i d, D[i]? = some d → w.cell? ⟨g, i, none⟩ = some (dval d)
theorem DP.drow {w : World} {B : Nat} {v : Value} {A : List DI} (h : DP w B v A [] [] none) (hA : A ≠ []) : ∃ g c, v = .slice (some ⟨g, 0, none⟩) A.length c ∧ DRow w g A ∧ B ≤ g ∧ g < w.heap.size ∧ w.heap[g]?.isSome = true := by
  rcases h.row.2 with ⟨_, h0⟩ | ⟨g, cap, cur, rfl, hb, hh, hc, rest⟩
  · exact absurd (List.length_eq_zero_iff.1 h0) hA
  · refine ⟨g, cap, rfl, fun i d hd => ?_, hb, (Array.getElem?_eq_some_iff.1 hh).1, by rw [hh]; rfl⟩
    have := h.row.cells (g := g) rfl i (dval d) (by rw [List.getElem?_map, hd]; rfl)
    rw [Addr.add_lit, Nat.zero_add] at this
    exact this
end Go.Proofs.Ytikpedfggbibpaa
namespace Go.Proofs.Ytikpedfggbibpaa
open Go.RowKit Go.Lib
set_option linter.unusedVariables false
set_option linter.unusedSimpArgs false

def ival : Option Step → Value
  | none => .nilIface
  | some st => st.val

/-- a list of at most one ignored path, in memory -/
def IgAt (w : World) (v : Value) : Ig → Prop
  | none => ∃ a c, v = .slice a 0 c
  | some q => ∃ b o c bq oq cq, v = .slice (some ⟨b, o, none⟩) 1 c ∧ w.cell? ⟨b, o, none⟩ = some (.slice (some ⟨bq, oq, none⟩) q.length cq) ∧ q.length ≤ cq ∧ 0 < q.length ∧ q.length ≤ 4 ∧
      ∀ i, (h : i < q.length) → w.cell? ⟨bq, oq + i, none⟩ = some (ival q[i])
theorem IgAt.keep {w w' : World} (k : Keep w w') : ∀ {g : Ig} {v : Value}, IgAt w v g → IgAt w' v g
  | none, _, h => h
  | some q, _, ⟨b, o, c, bq, oq, cq, e, h1, h2, h3, h4, h5⟩ => ⟨b, o, c, bq, oq, cq, e, k _ _ h1, h2, h3, h4, fun i hi => k _ _ (h5 i hi)⟩
theorem IgAt.slice {w : World} : ∀ {g : Ig} {v : Value}, IgAt w v g → ∃ a n c, v = .slice a n c ∧ n ≤ 1 ∧ (n = 0 ↔ g = none)
  | none, _, ⟨a, c, e⟩ => ⟨a, 0, c, e, by omega, by simp⟩
  | some q, _, ⟨b, o, c, bq, oq, cq, e, _⟩ => ⟨_, 1, c, e, by omega, by simp⟩
/-- numbers of an ignored path count from 0 -/
def IgOk : Ig → Prop
  | none => True
  | some q => ∀ n : Int, some (Step.nth n) ∈ q → 0 ≤ n

set_option maxRecDepth 20000 in
set_option maxHeartbeats 1000000 in
theorem ignoreIndex_any (i : Int) (v : Value) (g : Ig) (w : World) (h : IgAt w v g) :
    Calls Try.prog 103 #[.int .i64 i, v] w fun e w' => e = .returned (.bool (igSkip g (.nth i))) ∧ w' = w := by
  cases g with
  | none =>
    obtain ⟨a, c, rfl⟩ := h
    go_enter Try.func103, Try.ntmps103
    go_wp2
    refine wp_loop_rounds 1 ?_
    rw [rounds_succ]
    go_wp2
    go_ret
    exact ⟨rfl, rfl⟩
  | some q =>
    obtain ⟨b, o, c, bq, oq, cq, rfl, h1, h2, h3, h4, h5⟩ := h
    match q, h3 with
    | [x], _ =>
      have h6 := h5 0 (by simp)
      simp only [Nat.add_zero, List.getElem_cons_zero, List.length_singleton] at h6 h1
      clear h5 h2 h3 h4
      cases x with
      | none =>
        simp only [ival] at h6
        go_enter Try.func103, Try.ntmps103
        go_wp2
        refine wp_loop_rounds 1 ?_
        rw [rounds_succ]
        go_wp2
        go_ret
        exact ⟨rfl, rfl⟩
      | some st =>
        cases st with
        | child s =>
          simp only [ival, Step.val] at h6
          go_enter Try.func103, Try.ntmps103
          go_wp2
          refine wp_loop_rounds 2 ?_
          rw [rounds_succ]
          go_wp2
          rw [rounds_succ]
          go_wp2
          go_ret
          exact ⟨rfl, rfl⟩
        | nth n =>
          simp only [ival, Step.val] at h6
          by_cases hn : i = n
          · subst hn
            go_enter Try.func103, Try.ntmps103
            go_wp2
            refine wp_loop_rounds 2 ?_
            rw [rounds_succ]
            go_wp2
            go_ret
            exact ⟨by simp [igSkip, igM, Step.eqb], rfl⟩
          · have hn2 : ¬ n = i := fun e => hn e.symm
            go_enter Try.func103, Try.ntmps103
            go_wp2
            refine wp_loop_rounds 2 ?_
            rw [rounds_succ]
            go_wp2
            rw [rounds_succ]
            go_wp2
            go_ret
            exact ⟨by simp [igSkip, igM, Step.eqb, hn2], rfl⟩
    | x :: y :: r, _ =>
      have hr : r.length ≤ 2 := by simp at h4; omega
      simp only [List.length_cons] at h1
      have hk : ((r.length : Int) + 1 + 1 == 1) = false := by simp; omega
      clear h5 h2 h3 h4
      go_enter Try.func103, Try.ntmps103
      go_wp2
      refine wp_loop_rounds 2 ?_
      rw [rounds_succ]
      go_wp2
      rw [rounds_succ]
      go_wp2
      go_ret
      exact ⟨rfl, rfl⟩

set_option maxRecDepth 20000 in
set_option maxHeartbeats 1000000 in
theorem ignoreKey_any (k : ByteArray) (v : Value) (g : Ig) (w : World) (h : IgAt w v g) :
    Calls Try.prog 104 #[.string k, v] w fun e w' => e = .returned (.bool (igSkip g (.child k))) ∧ w' = w := by
  cases g with
  | none =>
    obtain ⟨a, c, rfl⟩ := h
    go_enter Try.func104, Try.ntmps104
    go_wp2
    refine wp_loop_rounds 1 ?_
    rw [rounds_succ]
    go_wp2
    go_ret
    exact ⟨rfl, rfl⟩
  | some q =>
    obtain ⟨b, o, c, bq, oq, cq, rfl, h1, h2, h3, h4, h5⟩ := h
    match q, h3 with
    | [x], _ =>
      have h6 := h5 0 (by simp)
      simp only [Nat.add_zero, List.getElem_cons_zero, List.length_singleton] at h6 h1
      clear h5 h2 h3 h4
      cases x with
      | none =>
        simp only [ival] at h6
        go_enter Try.func104, Try.ntmps104
        go_wp2
        refine wp_loop_rounds 1 ?_
        rw [rounds_succ]
        go_wp2
        go_ret
        exact ⟨rfl, rfl⟩
      | some st =>
        cases st with
        | nth s =>
          simp only [ival, Step.val] at h6
          go_enter Try.func104, Try.ntmps104
          go_wp2
          refine wp_loop_rounds 2 ?_
          rw [rounds_succ]
          go_wp2
          rw [rounds_succ]
          go_wp2
          go_ret
          exact ⟨rfl, rfl⟩
        | child n =>
          simp only [ival, Step.val] at h6
          by_cases hn : k = n
          · subst hn
            go_enter Try.func104, Try.ntmps104
            go_wp2
            refine wp_loop_rounds 2 ?_
            rw [rounds_succ]
            go_wp2
            go_ret
            exact ⟨by simp [igSkip, igM, Step.eqb], rfl⟩
          · have hn2 : ¬ n = k := fun e => hn e.symm
            go_enter Try.func104, Try.ntmps104
            go_wp2
            refine wp_loop_rounds 2 ?_
            rw [rounds_succ]
            go_wp2
            · have hx : (k.toList == n.toList) = true := by assumption
              rw [bytes_beq] at hx
              exact absurd (of_decide_eq_true hx) hn
            rw [rounds_succ]
            go_wp2
            go_ret
            exact ⟨by simp [igSkip, igM, Step.eqb, hn2], rfl⟩
    | x :: y :: r, _ =>
      have hr : r.length ≤ 2 := by simp at h4; omega
      simp only [List.length_cons] at h1
      have hk : ((r.length : Int) + 1 + 1 == 1) = false := by simp; omega
      clear h5 h2 h3 h4
      go_enter Try.func104, Try.ntmps104
      go_wp2
      refine wp_loop_rounds 2 ?_
      rw [rounds_succ]
      go_wp2
      rw [rounds_succ]
      go_wp2
      go_ret
      exact ⟨rfl, rfl⟩
end Go.Proofs.Ytikpedfggbibpaa
