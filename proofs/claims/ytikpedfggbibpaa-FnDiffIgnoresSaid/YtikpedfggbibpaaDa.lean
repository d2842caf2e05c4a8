/- Where two values differ: the plain definitions and laws. No program in sight. -/
import Derived.Test.YtikpedfggbibpaaWm
namespace Go.Proofs.Ytikpedfggbibpaa
open Go.RowKit
set_option linter.unusedVariables false
set_option linter.unusedSimpArgs false

def Step.eqb : Step → Step → Bool
  | .child a, .child b => decide (a = b)
  | .nth m, .nth n => decide (m = n)
  | _, _ => false
theorem Step.eqb_iff : ∀ {a b : Step}, a.eqb b = true ↔ a = b
  | .child a, .child b => by simp [Step.eqb]
  | .nth m, .nth n => by simp [Step.eqb]
  | .child a, .nth n => by simp [Step.eqb]
  | .nth m, .child b => by simp [Step.eqb]

/-- a step of an ignored path: none is a wildcard -/
def igM : Option Step → Step → Bool
  | none, _ => true
  | some a, b => a.eqb b
abbrev Ig : Type := Option (List (Option Step))
def igSkip : Ig → Step → Bool
  | some [x], st => igM x st
  | _, _ => false
def igSub : Ig → Step → Ig
  | some (x :: y :: r), st => if igM x st then some (y :: r) else none
  | _, _ => none

/-- two leaves are the same -/
def leafEq : J → J → Bool
  | .null, .null => true
  | .bool a, .bool b => a == b
  | .int a, .int b => decide (a = b)
  | .str a, .str b => decide (a = b)
  | _, _ => false

/-- the keys of two objects, each once -/
def hasK (a : List ByteArray) (k : ByteArray) : Bool := a.any fun x => decide (x = k)
theorem hasK_iff {a : List ByteArray} {k : ByteArray} : hasK a k = true ↔ k ∈ a := by
  unfold hasK
  rw [List.any_eq_true]
  constructor
  · rintro ⟨x, hx, h⟩
    simp only [decide_eq_true_eq] at h
    rw [← h]
    exact hx
  · intro h
    exact ⟨k, h, by simp⟩
theorem hasK_not {a : List ByteArray} {k : ByteArray} : (!hasK a k) = true ↔ k ∉ a := by
  rw [Bool.not_eq_true', ← hasK_iff]
  simp
def keysU (a b : List ByteArray) : List ByteArray := a ++ b.filter fun k => !hasK a k
theorem mem_keysU {a b : List ByteArray} {k : ByteArray} : k ∈ keysU a b ↔ k ∈ a ∨ k ∈ b := by
  unfold keysU
  simp only [List.mem_append, List.mem_filter, hasK_not]
  constructor
  · rintro (h | ⟨h, _⟩)
    · exact Or.inl h
    · exact Or.inr h
  · rintro (h | h)
    · exact Or.inl h
    · by_cases hk : k ∈ a
      · exact Or.inl hk
      · exact Or.inr ⟨h, hk⟩
theorem nodup_keysU {a b : List ByteArray} (ha : a.Nodup) (hb : b.Nodup) : (keysU a b).Nodup := by
  unfold keysU
  rw [List.nodup_append]
  refine ⟨ha, (List.filter_sublist).nodup hb, fun x hx y hy e => ?_⟩
  subst e
  simp only [List.mem_filter, hasK_not] at hy
  exact hy.2 hx

/-- one part's differences, behind its step -/
def under1 (ig : Ig) (st : Step) (f : Ig → List (List Step)) : List (List Step) := if igSkip ig st then [] else (f (igSub ig st)).map (st :: ·)

def arrGet (l : List J) (i : Nat) : J := (l[i]?).getD .null
theorem arrGet_eq {l : List J} {i : Nat} (h : i < l.length) : arrGet l i = l[i] := by simp [arrGet, h]

/-- the places at which two data differ (fuel: their sizes) -/
def difF : Nat → Ig → J → J → List (List Step)
  | 0, _, _, _ => []
  | n + 1, ig, .arr l, .arr m =>
    (List.range (min l.length m.length)).flatMap (fun (i : Nat) => under1 ig (.nth (i : Int)) fun g => difF n g (arrGet l i) (arrGet m i)) ++
      (if l.length = m.length then [] else under1 ig (.nth ((min l.length m.length : Nat) : Int)) fun _ => [[]])
  | n + 1, ig, .obj ks l, .obj ks' l' => (keysU ks ks').flatMap fun k => under1 ig (.child k) fun g => difF n g (look ks l k) (look ks' l' k)
  | _ + 1, _, a, b => if leafEq a b then [] else [[]]

def cov1 : List (Option Step) → List Step → Bool
  | [], _ => true
  | _ :: _, [] => false
  | x :: r, st :: p => igM x st && cov1 r p

theorem under1_none (st : Step) (f : Ig → List (List Step)) : under1 none st f = (f none).map (st :: ·) := by simp [under1, igSkip, igSub]
theorem under1_filter (x : Option Step) (r : List (Option Step)) (st : Step) (f : Ig → List (List Step)) (h : ∀ y r', r = y :: r' → f (some r) = (f none).filter fun p => !cov1 r p) :
    under1 (some (x :: r)) st f = (under1 none st f).filter fun p => !cov1 (x :: r) p := by
  rw [under1_none]
  unfold under1
  cases r with
  | nil =>
    cases hm : igM x st
    · have e : (fun p => !cov1 [x] p) ∘ (st :: ·) = fun p : List Step => true := by
        funext p
        simp [cov1, hm]
      rw [List.filter_map, e, List.filter_eq_self.2 (fun _ _ => rfl)]
      simp [igSkip, igSub, hm]
    · have e : (fun p => !cov1 [x] p) ∘ (st :: ·) = fun p : List Step => false := by
        funext p
        simp [cov1, hm]
      simp [igSkip, hm, List.filter_map, e]
  | cons y r' =>
    cases hm : igM x st
    · have e : (fun p => !cov1 (x :: y :: r') p) ∘ (st :: ·) = fun p : List Step => true := by
        funext p
        simp [cov1, hm]
      rw [List.filter_map, e, List.filter_eq_self.2 (fun _ _ => rfl)]
      simp [igSkip, igSub, hm]
    · have e : (fun p => !cov1 (x :: y :: r') p) ∘ (st :: ·) = fun p : List Step => !cov1 (y :: r') p := by
        funext p
        simp [cov1, hm]
      simp [igSkip, igSub, hm, List.filter_map, e, h y r' rfl]
theorem filter_flatMap {α β : Type} (l : List α) (f : α → List β) (q : β → Bool) : (l.flatMap f).filter q = l.flatMap fun a => (f a).filter q := by
  induction l with
  | nil => rfl
  | cons a l ih => simp [List.flatMap_cons, ih]

/-- what is told beside an ignored path is what it does not cover -/
theorem difF_ig : ∀ (n : Nat) (x : Option Step) (r : List (Option Step)) (a b : J), difF n (some (x :: r)) a b = (difF n none a b).filter fun p => !cov1 (x :: r) p
  | 0, _, _, _, _ => rfl
  | n + 1, x, r, a, b => by
    have hi : ∀ (a b : J) y r', r = y :: r' → difF n (some r) a b = (difF n none a b).filter fun p => !cov1 r p := by
      rintro a b y r' rfl
      exact difF_ig n y r' a b
    have leaf : ∀ c : Bool, (if c then [] else [[]] : List (List Step)) = (if c then [] else [[]] : List (List Step)).filter fun p => !cov1 (x :: r) p := by
      intro c
      cases c <;> simp [cov1]
    cases a <;> cases b <;> try exact leaf _
    · rename_i l m
      simp only [difF]
      rw [List.filter_append, filter_flatMap]
      congr 1
      · congr 1
        funext i
        exact under1_filter x r _ _ (hi _ _)
      · split
        · rfl
        · exact under1_filter x r _ _ (fun y r' e => by simp [e, cov1])
    · rename_i ks l ks' l'
      simp only [difF]
      rw [filter_flatMap]
      congr 1
      funext k
      exact under1_filter x r _ _ (hi _ _)

theorem mem_under1 {ig : Ig} {st : Step} {f : Ig → List (List Step)} {p : List Step} (h : p ∈ under1 ig st f) : ∃ q, p = st :: q := by
  unfold under1 at h
  split at h
  · simp at h
  · obtain ⟨q, _, rfl⟩ := List.mem_map.1 h
    exact ⟨q, rfl⟩
theorem nodup_under1 {st : Step} {f : Ig → List (List Step)} (h : (f none).Nodup) : (under1 none st f).Nodup := by
  rw [under1_none]
  exact List.Pairwise.map _ (fun a b hne e => hne (by simpa using e)) h
theorem nodup_flat {α : Type} (st : α → Step) (hst : ∀ a b, st a = st b → a = b) (f : α → List (List Step)) (hf : ∀ a p, p ∈ f a → ∃ q, p = st a :: q) : ∀ (l : List α), l.Nodup → (∀ a ∈ l, (f a).Nodup) → (l.flatMap f).Nodup
  | [], _, _ => by simp
  | a :: l, h, hn => by
    obtain ⟨h1, h2⟩ := List.nodup_cons.1 h
    rw [List.flatMap_cons, List.nodup_append]
    refine ⟨hn a (by simp), nodup_flat st hst f hf l h2 (fun b hb => hn b (by simp [hb])), fun x hx y hy e => ?_⟩
    subst e
    obtain ⟨b, hb, hy⟩ := List.mem_flatMap.1 hy
    obtain ⟨q, e1⟩ := hf a x hx
    obtain ⟨q', e2⟩ := hf b x hy
    rw [e1] at e2
    simp only [List.cons.injEq] at e2
    exact h1 (by rw [hst a b e2.1]; exact hb)
/-- each place is told once -/
theorem nodup_difF : ∀ (n : Nat) (a b : J), a.ok → b.ok → (difF n none a b).Nodup
  | 0, _, _, _, _ => by simp [difF]
  | n + 1, a, b, ha, hb => by
    have leaf : ∀ c : Bool, (if c then [] else [[]] : List (List Step)).Nodup := by
      intro c
      cases c <;> simp
    cases a <;> cases b <;> try exact leaf _
    · rename_i l m
      unfold J.ok at ha hb
      simp only [difF]
      rw [List.nodup_append]
      refine ⟨nodup_flat (fun i : Nat => .nth (i : Int)) (fun a b e => by simp only [Step.nth.injEq] at e; omega) _ (fun i p hp => mem_under1 hp) _ List.nodup_range (fun i hi => nodup_under1 (f := fun g => difF n g (arrGet l i) (arrGet m i)) (nodup_difF n _ _ ?_ ?_)), ?_, fun x hx y hy e => ?_⟩
      · have h : i < l.length := by simp at hi; omega
        rw [arrGet_eq h]
        exact J.oks_get ha i h
      · have h : i < m.length := by simp at hi; omega
        rw [arrGet_eq h]
        exact J.oks_get hb i h
      · split
        · simp
        · exact nodup_under1 (by simp)
      · subst e
        obtain ⟨i, hi, hx⟩ := List.mem_flatMap.1 hx
        obtain ⟨q, e1⟩ := mem_under1 hx
        split at hy
        · simp at hy
        · obtain ⟨q', e2⟩ := mem_under1 hy
          rw [e1] at e2
          simp only [List.cons.injEq, Step.nth.injEq] at e2
          simp at hi
          omega
    · rename_i ks l ks' l'
      unfold J.ok at ha hb
      simp only [difF]
      refine nodup_flat (fun k => .child k) (fun a b e => by simpa using e) _ (fun k p hp => mem_under1 hp) _ (nodup_keysU ha.1 hb.1) (fun k hk => nodup_under1 (f := fun g => difF n g (look ks l k) (look ks' l' k)) (nodup_difF n _ _ ?_ ?_))
      · exact look_all (p := J.ok) (by unfold J.ok; trivial) (fun q hq => J.oks_get ha.2.2 q hq)
      · exact look_all (p := J.ok) (by unfold J.ok; trivial) (fun q hq => J.oks_get hb.2.2 q hq)

theorem look_nodes {k : ByteArray} : ∀ {ks : List ByteArray} {l : List J}, (look ks l k).nodes ≤ 1 + J.nodesL l
  | [], l => by unfold look; simp only [J.nodes]; omega
  | _ :: _, [] => by unfold look; simp only [J.nodes]; omega
  | a :: ks, x :: xs => by
    unfold look
    split
    · simp only [J.nodesL]; omega
    · have := look_nodes (k := k) (ks := ks) (l := xs)
      simp only [J.nodesL]
      omega
theorem look_nodes_mem {k : ByteArray} : ∀ {ks : List ByteArray} {l : List J}, k ∈ ks → ks.length = l.length → (look ks l k).nodes ≤ J.nodesL l
  | [], _, h, _ => by simp at h
  | _ :: _, [], _, h => by simp at h
  | a :: ks, x :: xs, h, hl => by
    unfold look
    split
    · simp only [J.nodesL]; omega
    · rename_i hne
      have hk : k ∈ ks := by
        rcases List.mem_cons.1 h with rfl | h
        · exact absurd rfl hne
        · exact h
      have := look_nodes_mem hk (by simpa using hl : ks.length = xs.length)
      simp only [J.nodesL]
      omega
theorem look_lt {ks ks' : List ByteArray} {l l' : List J} {k : ByteArray} (h1 : ks.length = l.length) (h2 : ks'.length = l'.length) (hk : k ∈ keysU ks ks') :
    (look ks l k).nodes + (look ks' l' k).nodes < (J.obj ks l).nodes + (J.obj ks' l').nodes := by
  have a1 := look_nodes (k := k) (ks := ks) (l := l)
  have a2 := look_nodes (k := k) (ks := ks') (l := l')
  simp only [J.nodes]
  rcases mem_keysU.1 hk with h | h
  · have := look_nodes_mem h h1
    omega
  · have := look_nodes_mem h h2
    omega
end Go.Proofs.Ytikpedfggbibpaa
