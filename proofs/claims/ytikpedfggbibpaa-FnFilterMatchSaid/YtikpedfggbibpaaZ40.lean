/- FnFilterMatch: trees of leaves, what suits them, how they grow. No program in sight. FnFilterMatch: keys cut at full stops; walks: cutKey, zzIndex, zzSplit. Walks: suited. -/
import Derived.Test.YtikpedfggbibpaaZ39
namespace Go.Proofs.Ytikpedfggbibpaa
open Go.RowKit Go.Lib
set_option linter.unusedVariables false
set_option linter.unusedSimpArgs false

abbrev Pth : Type := List ByteArray
/-- a leaf of a filter -/
def J.isLeaf : J → Bool
  | .null => true
  | .bool _ => true
  | .int _ => true
  | .str _ => true
  | _ => false

/-- whether data suit a filter (fuel: their sizes) -/
def suitF : Nat → J → J → Bool
  | 0, _, _ => false
  | n + 1, f, .arr l => l.any fun x => suitF n f x
  | n + 1, .obj ks l, .obj ks' l' => ks.all fun k => suitF n (look ks l k) (look ks' l' k)
  | _ + 1, .obj _ _, _ => false
  | _ + 1, f, v => leafEq f v

/-- the tree of such leaves: each leaf at its path, and nothing else -/
inductive TreeOf : (Pth → J → Prop) → J → Prop
  | leaf (E : Pth → J → Prop) (c : J) : c.isLeaf = true → (∀ p x, E p x ↔ p = [] ∧ x = c) → TreeOf E c
  | obj (E : Pth → J → Prop) (ks : List ByteArray) (l : List J) : ks.Nodup → ks.length = l.length → (∀ p x, E p x → ∃ k r, p = k :: r ∧ k ∈ ks) → (∀ k ∈ ks, TreeOf (fun r x => E (k :: r) x) (look ks l k)) → (∀ k ∈ ks, ∃ r x, E (k :: r) x) → TreeOf E (.obj ks l)

theorem TreeOf.leaf_inv {E : Pth → J → Prop} {c : J} (h : TreeOf E c) (hc : c.isLeaf = true) : ∀ p x, E p x ↔ p = [] ∧ x = c := by
  cases h with
  | leaf _ _ h1 h2 => exact h2
  | obj ks l => cases hc
theorem TreeOf.obj_inv {E : Pth → J → Prop} {ks : List ByteArray} {l : List J} (h : TreeOf E (.obj ks l)) : ks.Nodup ∧ ks.length = l.length ∧ (∀ p x, E p x → ∃ k r, p = k :: r ∧ k ∈ ks) ∧ (∀ k ∈ ks, TreeOf (fun r x => E (k :: r) x) (look ks l k)) ∧ (∀ k ∈ ks, ∃ r x, E (k :: r) x) := by
  cases h with
  | leaf _ _ h1 h2 => cases h1
  | obj _ _ _ h1 h2 h3 h4 h5 => exact ⟨h1, h2, h3, h4, h5⟩
theorem TreeOf.cases_on' {E : Pth → J → Prop} {T : J} (h : TreeOf E T) : (T.isLeaf = true) ∨ ∃ ks l, T = .obj ks l := by
  cases h with
  | leaf _ _ h1 h2 => exact Or.inl h1
  | obj ks l => exact Or.inr ⟨_, _, rfl⟩
theorem TreeOf.congr {E E' : Pth → J → Prop} {T : J} (h : TreeOf E T) (he : ∀ p x, E p x ↔ E' p x) : TreeOf E' T := by
  have : E = E' := by funext p x; exact propext (he p x)
  rw [← this]
  exact h

/-- two trees of the same leaves suit the same -/
theorem suit_congr : ∀ (n : Nat) (E : Pth → J → Prop) (T T' v : J), TreeOf E T → TreeOf E T' → suitF n T v = suitF n T' v
  | 0, _, _, _, _, _, _ => rfl
  | n + 1, E, T, T', v, h, h' => by
    by_cases hv : ∃ l, v = .arr l
    · obtain ⟨l, rfl⟩ := hv
      have : (fun x => suitF n T x) = fun x => suitF n T' x := funext fun x => suit_congr n E T T' x h h'
      simp only [suitF, this]
    rcases h.cases_on' with hl | ⟨ks, l, rfl⟩
    · have e1 := h.leaf_inv hl
      have h0 : E [] T := (e1 [] T).2 ⟨rfl, rfl⟩
      rcases h'.cases_on' with hl' | ⟨ks', l', rfl⟩
      · have := ((h'.leaf_inv hl') [] T).1 h0
        rw [this.2]
      · obtain ⟨_, _, h3, _⟩ := h'.obj_inv
        obtain ⟨k, r, e, _⟩ := h3 _ _ h0
        cases e
    · obtain ⟨_, _, h3, h4, h5⟩ := h.obj_inv
      rcases h'.cases_on' with hl' | ⟨ks', l', rfl⟩
      · have h0 : E [] T' := ((h'.leaf_inv hl') [] T').2 ⟨rfl, rfl⟩
        obtain ⟨k, r, e, _⟩ := h3 _ _ h0
        cases e
      · obtain ⟨_, _, h3', h4', h5'⟩ := h'.obj_inv
        cases v with
        | arr l => exact absurd ⟨_, rfl⟩ hv
        | obj kv lv =>
          simp only [suitF]
          have hk : ∀ k, k ∈ ks ↔ k ∈ ks' := fun k => by
            constructor
            · intro hk
              obtain ⟨r, x, hx⟩ := h5 k hk
              obtain ⟨k', r', e, hk'⟩ := h3' _ _ hx
              simp only [List.cons.injEq] at e
              rw [e.1]
              exact hk'
            · intro hk
              obtain ⟨r, x, hx⟩ := h5' k hk
              obtain ⟨k', r', e, hk'⟩ := h3 _ _ hx
              simp only [List.cons.injEq] at e
              rw [e.1]
              exact hk'
          rw [Bool.eq_iff_iff, List.all_eq_true, List.all_eq_true]
          constructor
          · intro ha k hk'
            have hk0 := (hk k).2 hk'
            rw [← suit_congr n _ _ _ _ (h4 k hk0) (h4' k hk')]
            exact ha k hk0
          · intro ha k hk0
            have hk' := (hk k).1 hk0
            rw [suit_congr n _ _ _ _ (h4 k hk0) (h4' k hk')]
            exact ha k hk'
        | null => rfl
        | bool b => rfl
        | int b => rfl
        | flt b => rfl
        | str b => rfl

/-- the place of a key -/
def idxK (ks : List ByteArray) (k : ByteArray) : Option Nat := ks.findIdx? fun x => decide (x = k)
theorem idxK_some {ks : List ByteArray} {k : ByteArray} {i : Nat} (h : idxK ks k = some i) : ∃ hi : i < ks.length, ks[i] = k := by
  unfold idxK at h
  obtain ⟨hi, h1, _⟩ := List.findIdx?_eq_some_iff_getElem.1 h
  exact ⟨hi, by simpa using h1⟩
theorem idxK_none {ks : List ByteArray} {k : ByteArray} (h : idxK ks k = none) : k ∉ ks := by
  unfold idxK at h
  rw [List.findIdx?_eq_none_iff] at h
  intro hk
  have := h k hk
  simp at this
theorem idxK_mem {ks : List ByteArray} {k : ByteArray} (h : k ∈ ks) : ∃ i, idxK ks k = some i := by
  cases hi : idxK ks k with
  | none => exact absurd h (idxK_none hi)
  | some i => exact ⟨i, rfl⟩

/-- a leaf more, behind keys -/
def growJ : Option J → Pth → J → Option J
  | none, [], c => some c
  | some _, [], _ => none
  | none, k :: r, c => (growJ none r c).map fun y => .obj [k] [y]
  | some (.obj ks l), k :: r, c => match idxK ks k with
    | some i => (growJ l[i]? r c).map fun y => .obj ks (l.set i y)
    | none => (growJ none r c).map fun y => .obj (ks ++ [k]) (l ++ [y])
  | some _, _ :: _, _ => none

def TreeO (E : Pth → J → Prop) : Option J → Prop
  | none => ∀ p x, ¬ E p x
  | some T => TreeOf E T
/-- neither is the beginning of the other -/
def Apart (p q : Pth) : Prop := ¬ (∃ r, q = p ++ r) ∧ ¬ (∃ r, p = q ++ r)
theorem Apart.symm {p q : Pth} (h : Apart p q) : Apart q p := ⟨h.2, h.1⟩
theorem Apart.cons {k : ByteArray} {p q : Pth} : Apart (k :: p) (k :: q) ↔ Apart p q := by
  unfold Apart
  constructor
  · rintro ⟨h1, h2⟩
    exact ⟨fun ⟨r, e⟩ => h1 ⟨r, by rw [e]; rfl⟩, fun ⟨r, e⟩ => h2 ⟨r, by rw [e]; rfl⟩⟩
  · rintro ⟨h1, h2⟩
    exact ⟨fun ⟨r, e⟩ => h1 ⟨r, by simpa using e⟩, fun ⟨r, e⟩ => h2 ⟨r, by simpa using e⟩⟩
theorem Apart.heads {k k' : ByteArray} {p q : Pth} (h : k ≠ k') : Apart (k :: p) (k' :: q) :=
  ⟨fun ⟨r, e⟩ => h (by simp only [List.cons_append, List.cons.injEq] at e; exact e.1.symm), fun ⟨r, e⟩ => h (by simp only [List.cons_append, List.cons.injEq] at e; exact e.1)⟩

theorem look_set {k : ByteArray} {y : J} : ∀ {ks : List ByteArray} {l : List J} {i : Nat} (hi : i < ks.length) (hl : ks.length = l.length) (hn : ks.Nodup), look ks (l.set i y) k = if ks[i] = k then y else look ks l k
  | [], l, i, hi, _, _ => by simp at hi
  | a :: ks, [], i, _, hl, _ => by simp at hl
  | a :: ks, x :: xs, 0, hi, hl, hn => by
    simp only [List.set_cons_zero, look, List.getElem_cons_zero]
    by_cases h : a = k
    · simp [h]
    · simp [h]
  | a :: ks, x :: xs, i + 1, hi, hl, hn => by
    obtain ⟨h1, h2⟩ := List.nodup_cons.1 hn
    have hi' : i < ks.length := by simpa using hi
    simp only [List.set_cons_succ, look, List.getElem_cons_succ]
    by_cases h : a = k
    · subst h
      have hne : ¬ ks[i] = a := fun e => h1 (by rw [← e]; exact List.getElem_mem _)
      simp [hne]
    · simp only [h, if_false]
      exact look_set hi' (by simpa using hl) h2
theorem look_snoc {k k' : ByteArray} {y : J} : ∀ {ks : List ByteArray} {l : List J} (hl : ks.length = l.length) (hk : k' ∉ ks), look (ks ++ [k']) (l ++ [y]) k = if k' = k then y else look ks l k
  | [], [], _, _ => by simp only [List.nil_append, look]
  | [], x :: xs, hl, _ => by simp at hl
  | a :: ks, [], hl, _ => by simp at hl
  | a :: ks, x :: xs, hl, hk => by
    simp only [List.mem_cons, not_or] at hk
    simp only [List.cons_append, look]
    by_cases h : a = k
    · subst h
      have hne : ¬ k' = a := hk.1
      simp [hne]
    · simp only [h, if_false]
      exact look_snoc (by simpa using hl) hk.2

/-- a tree that has grown by a leaf; the leaf lies apart from all others -/
theorem grow_tree : ∀ (p : Pth) (c : J) (o : Option J) (E : Pth → J → Prop) (T : J), c.isLeaf = true → TreeO E o → growJ o p c = some T → TreeOf (fun q x => E q x ∨ (q = p ∧ x = c)) T ∧ ∀ q x, E q x → Apart p q
  | [], c, none, E, T, hc, ho, h => by
    simp only [growJ, Option.some.injEq] at h
    subst h
    exact ⟨TreeOf.leaf _ _ hc (fun p x => ⟨fun h => h.elim (fun h => (ho p x h).elim) id, Or.inr⟩), fun q x h => (ho q x h).elim⟩
  | [], c, some _, E, T, hc, ho, h => by simp [growJ] at h
  | k :: r, c, none, E, T, hc, ho, h => by
    simp only [growJ, Option.map_eq_some_iff] at h
    obtain ⟨y, hy, rfl⟩ := h
    have ih := grow_tree r c none (fun _ _ => False) y hc (fun _ _ h => h) hy
    refine ⟨TreeOf.obj _ _ _ (by simp) rfl (fun p x h => ?_) (fun k' hk' => ?_) (fun k' hk' => ⟨r, c, Or.inr ⟨by simp at hk'; rw [hk'], rfl⟩⟩), fun q x h => (ho q x h).elim⟩
    · rcases h with h | ⟨rfl, rfl⟩
      · exact (ho p x h).elim
      · exact ⟨k, r, rfl, by simp⟩
    · simp only [List.mem_singleton] at hk'
      subst hk'
      have e : look [k'] [y] k' = y := by simp [look]
      rw [e]
      refine ih.1.congr fun q x => ?_
      constructor
      · rintro (h | ⟨rfl, rfl⟩)
        · exact h.elim
        · exact Or.inr ⟨rfl, rfl⟩
      · rintro (h | ⟨h1, rfl⟩)
        · exact (ho _ _ h).elim
        · exact Or.inr ⟨by simpa using h1, rfl⟩
  | k :: r, c, some (.obj ks l), E, T, hc, ho, h => by
    obtain ⟨n1, n2, n3, n4, n5⟩ := TreeOf.obj_inv ho
    simp only [growJ] at h
    cases hi : idxK ks k with
    | some i =>
      obtain ⟨hik, hke⟩ := idxK_some hi
      have hil : i < l.length := by omega
      simp only [hi, Option.map_eq_some_iff, List.getElem?_eq_getElem hil] at h
      obtain ⟨y, hy, rfl⟩ := h
      have hmem : k ∈ ks := by rw [← hke]; exact List.getElem_mem _
      have hlk : look ks l k = l[i] := look_hit hil (by rw [List.getElem?_eq_getElem hik, hke]) n1
      have hch := n4 k hmem
      rw [hlk] at hch
      have ih := grow_tree r c (some l[i]) (fun r x => E (k :: r) x) y hc hch hy
      refine ⟨TreeOf.obj _ _ _ n1 (by simpa using n2) (fun p x h => ?_) (fun k' hk' => ?_) (fun k' hk' => ?_), fun q x h => ?_⟩
      · rcases h with h | ⟨rfl, rfl⟩
        · exact n3 p x h
        · exact ⟨k, r, rfl, hmem⟩
      · rw [look_set hik n2 n1, hke]
        by_cases hkk : k = k'
        · subst hkk
          rw [if_pos rfl]
          refine ih.1.congr fun q x => ?_
          simp
        · rw [if_neg hkk]
          refine (n4 k' hk').congr fun q x => ?_
          constructor
          · exact Or.inl
          · rintro (h | ⟨h1, _⟩)
            · exact h
            · simp only [List.cons.injEq] at h1
              exact absurd h1.1.symm hkk
      · obtain ⟨r', x', h'⟩ := n5 k' hk'
        exact ⟨r', x', Or.inl h'⟩
      · obtain ⟨k', r', rfl, hk'⟩ := n3 q x h
        by_cases hkk : k = k'
        · subst hkk
          exact Apart.cons.2 (ih.2 r' x h)
        · exact Apart.heads hkk
    | none =>
      have hnk := idxK_none hi
      simp only [hi, Option.map_eq_some_iff] at h
      obtain ⟨y, hy, rfl⟩ := h
      have ih := grow_tree r c none (fun _ _ => False) y hc (fun _ _ h => h) hy
      refine ⟨TreeOf.obj _ _ _ ?_ (by simp [n2]) (fun p x h => ?_) (fun k' hk' => ?_) (fun k' hk' => ?_), fun q x h => ?_⟩
      · rw [List.nodup_append]
        exact ⟨n1, by simp, fun a ha b hb e => by simp only [List.mem_singleton] at hb; subst hb; subst e; exact hnk ha⟩
      · rcases h with h | ⟨rfl, rfl⟩
        · obtain ⟨k', r', e, hk'⟩ := n3 p x h
          exact ⟨k', r', e, by simp [hk']⟩
        · exact ⟨k, r, rfl, by simp⟩
      · rw [look_snoc n2 hnk]
        by_cases hkk : k = k'
        · subst hkk
          rw [if_pos rfl]
          refine ih.1.congr fun q x => ?_
          constructor
          · rintro (h | ⟨rfl, rfl⟩)
            · exact h.elim
            · exact Or.inr ⟨rfl, rfl⟩
          · rintro (h | ⟨h1, rfl⟩)
            · obtain ⟨k', r', e, hk'⟩ := n3 _ _ h
              simp only [List.cons.injEq] at e
              rw [← e.1] at hk'
              exact absurd hk' hnk
            · exact Or.inr ⟨by simpa using h1, rfl⟩
        · rw [if_neg hkk]
          have hk2 : k' ∈ ks := by
            rcases List.mem_append.1 hk' with h | h
            · exact h
            · exact absurd (List.mem_singleton.1 h).symm hkk
          refine (n4 k' hk2).congr fun q x => ?_
          constructor
          · exact Or.inl
          · rintro (h | ⟨h1, _⟩)
            · exact h
            · simp only [List.cons.injEq] at h1
              exact absurd h1.1.symm hkk
      · rcases List.mem_append.1 hk' with h | h
        · obtain ⟨r', x', h'⟩ := n5 k' h
          exact ⟨r', x', Or.inl h'⟩
        · rw [List.mem_singleton.1 h]
          exact ⟨r, c, Or.inr ⟨rfl, rfl⟩⟩
      · obtain ⟨k', r', rfl, hk'⟩ := n3 q x h
        exact Apart.heads (fun e => hnk (by rw [e]; exact hk'))
  | k :: r, c, some .null, E, T, hc, ho, h => by simp [growJ] at h
  | k :: r, c, some (.bool _), E, T, hc, ho, h => by simp [growJ] at h
  | k :: r, c, some (.int _), E, T, hc, ho, h => by simp [growJ] at h
  | k :: r, c, some (.flt _), E, T, hc, ho, h => by simp [growJ] at h
  | k :: r, c, some (.str _), E, T, hc, ho, h => by simp [growJ] at h
  | k :: r, c, some (.arr _), E, T, hc, ho, h => by simp [growJ] at h

/-- where a leaf lies apart from all others, the tree can grow by it -/
theorem grow_can : ∀ (p : Pth) (c : J) (o : Option J) (E : Pth → J → Prop), TreeO E o → (∀ q x, E q x → Apart p q) → (p = [] → o = none) → ∃ T, growJ o p c = some T
  | [], c, none, E, _, _, _ => ⟨c, rfl⟩
  | [], c, some T, E, _, _, h0 => by cases h0 rfl
  | k :: r, c, none, E, _, _, _ => by
    obtain ⟨y, hy⟩ := grow_can r c none (fun _ _ => False) (fun _ _ h => h) (fun _ _ h => h.elim) (fun _ => rfl)
    exact ⟨_, by simp only [growJ, hy]; rfl⟩
  | k :: r, c, some T, E, ho, ha, _ => by
    rcases TreeOf.cases_on' ho with hl | ⟨ks, l, rfl⟩
    · have h0 : E [] T := ((TreeOf.leaf_inv ho hl) [] T).2 ⟨rfl, rfl⟩
      exact absurd ⟨k :: r, rfl⟩ (ha [] T h0).2
    · obtain ⟨n1, n2, n3, n4, n5⟩ := TreeOf.obj_inv ho
      simp only [growJ]
      cases hi : idxK ks k with
      | some i =>
        obtain ⟨hik, hke⟩ := idxK_some hi
        have hil : i < l.length := by omega
        have hmem : k ∈ ks := by rw [← hke]; exact List.getElem_mem _
        have hlk : look ks l k = l[i] := look_hit hil (by rw [List.getElem?_eq_getElem hik, hke]) n1
        have hch := n4 k hmem
        rw [hlk] at hch
        have hr : r = [] → some l[i] = none := fun e => by
          subst e
          obtain ⟨r', x', h'⟩ := n5 k hmem
          exact absurd ⟨r', rfl⟩ (ha _ _ h').1
        obtain ⟨y, hy⟩ := grow_can r c (some l[i]) (fun r x => E (k :: r) x) hch (fun q x h => Apart.cons.1 (ha _ _ h)) hr
        exact ⟨_, by simp only [List.getElem?_eq_getElem hil, hy]; rfl⟩
      | none =>
        obtain ⟨y, hy⟩ := grow_can r c none (fun _ _ => False) (fun _ _ h => h) (fun _ _ h => h.elim) (fun _ => rfl)
        exact ⟨_, by simp only [hy]; rfl⟩
end Go.Proofs.Ytikpedfggbibpaa
namespace Go.Proofs.Ytikpedfggbibpaa
open Go.RowKit Go.Lib
set_option linter.unusedVariables false
set_option linter.unusedSimpArgs false

/-- the pieces between full stops -/
def splitL : List UInt8 → List (List UInt8)
  | [] => [[]]
  | c :: r => if c = 46 then [] :: splitL r else match splitL r with
    | h :: t => (c :: h) :: t
    | [] => [[c]]
theorem splitL_ne : ∀ l, splitL l ≠ []
  | [] => by simp [splitL]
  | c :: r => by
    unfold splitL
    split
    · simp
    · split <;> simp
theorem splitL_end : ∀ (p : List UInt8), (∀ c ∈ p, c ≠ 46) → splitL p = [p]
  | [], _ => rfl
  | c :: r, h => by
    have h1 : c ≠ 46 := h c (by simp)
    rw [splitL, if_neg h1, splitL_end r (fun c hc => h c (by simp [hc]))]
theorem splitL_dot : ∀ (p r : List UInt8), (∀ c ∈ p, c ≠ 46) → splitL (p ++ 46 :: r) = p :: splitL r
  | [], r, _ => by simp [splitL]
  | c :: p, r, h => by
    have h1 : c ≠ 46 := h c (by simp)
    rw [List.cons_append, splitL, if_neg h1, splitL_dot p r (fun c hc => h c (by simp [hc]))]
def toB (l : List UInt8) : ByteArray := ⟨l.toArray⟩
/-- a key's parts -/
def kcut (s : ByteArray) : List ByteArray := (splitL s.data.toList).map toB
theorem kcut_ne (s : ByteArray) : kcut s ≠ [] := by
  unfold kcut
  simp [splitL_ne]

theorem extract_toB (s : ByteArray) (i j : Nat) : s.extract i j = toB ((s.data.toList.take j).drop i) := by
  unfold toB
  apply ByteArray.ext
  rw [ByteArray.data_extract]
  apply Array.toList_inj.1
  simp [List.drop_take]
theorem getB (s : ByteArray) (i : Nat) (h : i < s.size) : s.data.toList[i]? = some s[i] := by
  rw [Array.getElem?_toList]
  exact Array.getElem?_eq_getElem h
theorem take_succ_B (s : ByteArray) (i : Nat) (h : i < s.size) : s.data.toList.take (i + 1) = s.data.toList.take i ++ [s[i]] := by
  rw [List.take_add_one, getB s i h]
  rfl
/-- a text more in a row of the call's own -/
theorem wpList_spush {ops : Array Oper} {rest : List Oper} {o : Oper} {a : Act} {Q : Exit → Act → World → Prop} (s x : Operand) (hgd : o.guard = none)
    (ho : o.op = .call { callee := .builtin .append, args := #[s, x], argTypes := #[24, 24] })
    (w w1 : World) (v : Value) (P : List ByteArray) (y : ByteArray) (hP : OwnStrs w1 w.heap.size v P) (hX : Ext w w1) (hn : P.length ≤ 100000)
    (H : Nat) (hH : w1.heap.size = H) (hs : a.eval s = v) (hx : a.eval x = .slice (some ⟨H, 0, none⟩) 1 1)
    (h : ∀ g c w', OwnStrs w' w.heap.size (.slice (some ⟨g, 0, none⟩) (P.length + 1) c) (P ++ [y]) → Ext w w' → wpList Try.prog ops Q rest (a.put o.dst (.slice (some ⟨g, 0, none⟩) (P.length + 1) c)) w') :
    wpList Try.prog ops Q (o :: rest) a (w1.alloc (.cells #[.string y] 9)) := by
  obtain ⟨i0, hi, hz0, hz1, hz2⟩ := info_parts Try.infoStr
  subst hH
  have EX : Ext w1 (w1.alloc (.cells #[.string y] 9)) := (Ext.refl w1).alloc _
  refine wpList_append_lies _ hgd s x 24 ho w.heap.size 9 i0 (.string ByteArray.empty) 1 16 Try.underlying24 hi hz0 hz1 hz2 rfl (by decide) v P.length (P.map Value.string) hs (ownsRow_ext hP EX)
    ⟨w1.heap.size, 0, none⟩ 1 1 [.string y] hx rfl (cell_one_new _ _ _) (by intro u hu; simp at hu; subst hu; rfl) (by decide) (by unfold maxLen; omega) (by omega) (by have := hX.size; simp; omega) (w1.heap.size + 1) (by simp) ?_
  intro g c w' hown hgrow hat hlt
  exact h g c w' (by unfold OwnStrs; simpa using hown) ((Ext.trans hX EX).grown hgrow (Ext.trans hX EX).size (fun k hk => (hP.lt k hk).1))
theorem OwnStrs.ks {w : World} {base : Nat} {v : Value} {P : List ByteArray} (h : OwnStrs w base v P) : ∃ a c, v = .slice a P.length c ∧ KS w a P ∧ P.length ≤ c := by
  have h0 := h
  rcases h.2 with ⟨rfl, hz⟩ | ⟨g, cap, cur, rfl, hb, hh, hc, rest⟩
  · have : P = [] := List.eq_nil_of_length_eq_zero hz
    subst this
    exact ⟨none, 0, rfl, fun h => absurd rfl h, Nat.le_refl _⟩
  · refine ⟨_, cap, rfl, fun _ => ⟨g, 0, rfl, fun i hi => ?_⟩, hc⟩
    have := World.ownsRow.cells h0 (g := g) rfl i (.string P[i]) (by rw [List.getElem?_map, List.getElem?_eq_getElem hi]; rfl)
    rw [Addr.add_lit] at this
    exact this

set_option maxRecDepth 20000 in
set_option maxHeartbeats 4000000 in
theorem cutKey_any (s : ByteArray) (hs : s.size ≤ 1000) (w : World) : Calls Try.prog 49 #[.string s] w fun e w' => ∃ a c, e = .returned (.slice a (kcut s).length c) ∧ KS w' a (kcut s) ∧ (kcut s).length ≤ c ∧ Ext w w' := by
  go_enter Try.func49, Try.ntmps49
  go_wp2
  go_loopw [3, 4, 5] (fun o f i wr => ∃ (m F : Nat) (P : List ByteArray), m ≤ s.size + 1 ∧ i = .int .i64 m ∧ f = .int .i64 F ∧ P.length ≤ m ∧ OwnStrs wr w.heap.size o P ∧ Ext w wr ∧
      (m ≤ s.size → F ≤ m ∧ (∀ c ∈ (s.data.toList.take m).drop F, c ≠ 46) ∧ kcut s = P ++ (splitL (s.data.toList.drop F)).map toB) ∧ (m = s.size + 1 → kcut s = P)) (fun _ _ i _ => s.size + 1 - (intOf i).toNat)
  case atStart => exact ⟨0, 0, [], by omega, rfl, rfl, by simp, World.ownsRow_nil _ _ _ _, Ext.refl _, fun _ => ⟨Nat.le_refl _, by simp, rfl⟩, fun h => by omega⟩
  case round =>
    obtain ⟨m, F, P, hm, rfl, rfl, hPl, hP, hx, hin, hend⟩ := hrel
    have HP := Lib.hid hP
    have HX := Lib.hid hx
    have HIN := Lib.hid hin
    have HEND := Lib.hid hend
    clear hP hx hin hend
    by_cases hlt : m ≤ s.size
    · obtain ⟨hFm, hno, hkc⟩ := HIN.out hlt
      have HNO := Lib.hid hno
      have HKC := Lib.hid hkc
      have HEX := Lib.hid (extract_toB s F m)
      have hlen : s.data.toList.length = s.size := by simp
      have HLEN := Lib.hid hlen
      have hFm' : (F : Int) ≤ (m : Int) := by omega
      have hm1 : (m : Int) ≤ (s.size : Int) := by omega
      clear hno hkc hlen HIN HEND
      by_cases heq : m = s.size
      · subst heq
        have HFIN : Hid (kcut s = P ++ [s.extract F s.size]) := by
          show kcut s = P ++ [s.extract F s.size]
          rw [HKC.out, HEX.out]
          have e : (s.data.toList.take s.size).drop F = s.data.toList.drop F := by rw [List.take_of_length_le (by rw [HLEN.out]; exact Nat.le_refl _)]
          have hno := HNO.out
          rw [e] at hno ⊢
          rw [splitL_end _ hno]
          rfl
        go_wp2_with (at_builtin; refine wpList_spush (.tmp 22) (.tmp 27) rfl rfl w wr u3 P _ HP.out HX.out (by omega) wr.heap.size rfl rfl rfl ?_; intro g9 c9 w9 hp9 hx9; have HP9 := Lib.hid hp9; have HX9 := Lib.hid hx9; clear hp9 hx9)
        go_roundw
        case rel => exact ⟨s.size + 1, s.size + 1, _, by omega, by go_num, by go_num, by simp; omega, by have := HP9.out; simpa using this, HX9.out, fun h => by omega, fun _ => HFIN.out⟩
        case measure => simp [intOf] <;> omega
      · have hlt2 : m < s.size := by omega
        have hlt3 : (m : Int) < (s.size : Int) := by omega
        have hne : ((m : Int) == (s.size : Int)) = false := beq_eq_false_iff_ne.2 (by omega)
        have hne2 : ¬ m = s.size := heq
        have HTS := Lib.hid (take_succ_B s m hlt2)
        have HTF : Hid ((s.data.toList.take (m + 1)).drop F = (s.data.toList.take m).drop F ++ [s[m]]) := by
          show (s.data.toList.take (m + 1)).drop F = (s.data.toList.take m).drop F ++ [s[m]]
          rw [HTS.out, List.drop_append_of_le_length (by rw [List.length_take, HLEN.out]; omega)]
        have HDR : Hid (s.data.toList.drop F = (s.data.toList.take m).drop F ++ s[m] :: s.data.toList.drop (m + 1)) := by
          show s.data.toList.drop F = (s.data.toList.take m).drop F ++ s[m] :: s.data.toList.drop (m + 1)
          have h1 : s.data.toList.drop F = (s.data.toList.take m ++ s.data.toList.drop m).drop F := by rw [List.take_append_drop]
          have h2 : s.data.toList.drop m = s[m] :: s.data.toList.drop (m + 1) := by
            have h' : m < s.data.toList.length := by rw [HLEN.out]; exact hlt2
            rw [List.drop_eq_getElem_cons h']
            congr 1
          rw [h1, List.drop_append_of_le_length (by rw [List.length_take, HLEN.out]; omega), h2]
        generalize hc : s[m] = c at HTF HDR
        by_cases h46 : c = 46
        · subst h46
          have HK2 : Hid (kcut s = (P ++ [s.extract F m]) ++ (splitL (s.data.toList.drop (m + 1))).map toB) := by
            show kcut s = (P ++ [s.extract F m]) ++ (splitL (s.data.toList.drop (m + 1))).map toB
            rw [HKC.out, HDR.out, splitL_dot _ _ HNO.out, HEX.out]
            simp
          go_wp2_with (at_builtin; refine wpList_spush (.tmp 22) (.tmp 27) rfl rfl w wr u3 P _ HP.out HX.out (by omega) wr.heap.size rfl rfl rfl ?_; intro g9 c9 w9 hp9 hx9; have HP9 := Lib.hid hp9; have HX9 := Lib.hid hx9; clear hp9 hx9)
          go_roundw
          case rel => exact ⟨m + 1, m + 1, _, by omega, by go_num, by go_num, by simp; omega, by have := HP9.out; simpa using this, HX9.out, fun _ => ⟨Nat.le_refl _, by simp [List.drop_take], HK2.out⟩, fun h => by omega⟩
          case measure => simp [intOf]; omega
        · have hc46 : ¬ c.toNat = 46 := fun e => h46 (UInt8.toNat_inj.1 e)
          go_wp2
          go_roundw
          case rel => exact ⟨m + 1, F, P, by omega, by go_num, rfl, by omega, HP.out, HX.out, fun _ => ⟨by omega, fun x hx => by
            rw [HTF.out] at hx
            rcases List.mem_append.1 hx with hx | hx
            · exact HNO.out x hx
            · rw [List.mem_singleton.1 hx]; exact h46, HKC.out⟩, fun h => by omega⟩
          case measure => simp [intOf]; omega
    · have hme : m = s.size + 1 := by omega
      subst hme
      have HK := Lib.hid (HEND.out rfl)
      obtain ⟨a9, c9, e9, hk9, hc9⟩ := HP.out.ks
      subst e9
      have hk9' := Lib.hid hk9
      clear hk9 HIN HEND
      go_wp2
      go_ret
      rw [HK.out]
      exact ⟨a9, c9, rfl, hk9'.out, hc9, HX.out⟩

/-! ### zzIndex, zzSplit -/
def dotS : ByteArray := { data := #[46] }
def DotPost (s : ByteArray) (w : World) (e : Ending) (w' : World) : Prop :=
  ∃ i : Int, e = .returned (.int .i64 i) ∧ ((i = -1 ∧ ∀ c ∈ s.data.toList, c ≠ 46) ∨ (∃ q : Nat, q < s.size ∧ i = (q : Int) ∧ s.data.toList = s.data.toList.take q ++ 46 :: s.data.toList.drop (q + 1) ∧ ∀ c ∈ s.data.toList.take q, c ≠ 46)) ∧ w = w'
theorem toList_toB (l : List UInt8) : (toB l).toList = l := by
  rw [ByteArray.toList_eq]
  rfl
theorem toB_inj {l m : List UInt8} (h : toB l = toB m) : l = m := by
  rw [← toList_toB l, ← toList_toB m, h]

set_option maxRecDepth 20000 in
set_option maxHeartbeats 4000000 in
theorem zzIndex_any (s : ByteArray) (hs : s.size ≤ 1000) (w : World) : Calls Try.prog 120 #[.string s, .string { data := #[46] }] w (DotPost s w) := by
  have hlen : s.data.toList.length = s.size := by simp
  have HLEN := Lib.hid hlen
  clear hlen
  go_enter Try.func120, Try.ntmps120
  go_wp2
  go_loop [5] (fun i => ∃ m : Nat, m ≤ s.size ∧ i = .int .i64 m ∧ ∀ c ∈ s.data.toList.take m, c ≠ 46) (fun i => s.size - (intOf i).toNat)
  case atStart => exact ⟨0, Nat.zero_le _, rfl, by simp⟩
  case round =>
    obtain ⟨m, hm, rfl, hno⟩ := hrel
    have HNO := Lib.hid hno
    clear hno
    by_cases hlt : m < s.size
    · have hm1 : (m : Int) + 1 ≤ (s.size : Int) := by omega
      have hex : s.extract m (m + 1) = toB [s[m]] := by
        rw [extract_toB, take_succ_B s m hlt, List.drop_append_of_le_length (by rw [List.length_take, HLEN.out]; omega), List.drop_of_length_le (by rw [List.length_take]; omega)]
        rfl
      have HTS := Lib.hid (take_succ_B s m hlt)
      have HDR : Hid (s.data.toList = s.data.toList.take m ++ s[m] :: s.data.toList.drop (m + 1)) := by
        show s.data.toList = s.data.toList.take m ++ s[m] :: s.data.toList.drop (m + 1)
        have h' : m < s.data.toList.length := by rw [HLEN.out]; exact hlt
        have h2 : s.data.toList.drop m = s[m] :: s.data.toList.drop (m + 1) := by
          rw [List.drop_eq_getElem_cons h']
          congr 1
        rw [← h2, List.take_append_drop]
      generalize s[m] = c at hex HTS HDR
      by_cases h46 : c = 46
      · subst h46
        have hex' : s.extract m (m + 1) = { data := #[46] } := hex
        clear hex
        go_wp2
        go_ret
        exact ⟨(m : Int), rfl, Or.inr ⟨m, hlt, rfl, HDR.out, HNO.out⟩, rfl⟩
      · have hne : ((s.extract m (m + 1)).toList == [46]) = false := by
          rw [hex, toList_toB]
          exact beq_eq_false_iff_ne.2 (fun e => h46 (by simpa using e))
        have hne2 : ¬ (s.extract m (m + 1)).toList = [46] := beq_eq_false_iff_ne.1 hne
        clear hex
        go_wp2
        go_round
        case rel => exact ⟨m + 1, by omega, by go_num, fun x hx => by
          rw [HTS.out] at hx
          rcases List.mem_append.1 hx with hx | hx
          · exact HNO.out x hx
          · rw [List.mem_singleton.1 hx]; exact h46⟩
        case measure => simp [intOf]; omega
    · have hme : m = s.size := by omega
      subst hme
      have hm1 : ¬ (s.size : Int) + 1 ≤ (s.size : Int) := by omega
      have HALL : Hid (∀ c ∈ s.data.toList, c ≠ 46) := fun c hc => HNO.out c (by rw [List.take_of_length_le (by rw [HLEN.out]; exact Nat.le_refl _)]; exact hc)
      clear HNO
      go_wp2
      go_ret
      exact ⟨-1, rfl, Or.inl ⟨rfl, HALL.out⟩, rfl⟩

theorem kcut_none {s : ByteArray} (h : ∀ c ∈ s.data.toList, c ≠ 46) : kcut s = [s] := by
  unfold kcut
  rw [splitL_end _ h]
  rfl
theorem kcut_some {s : ByteArray} {q : Nat} (hq : q < s.size) (h : s.data.toList = s.data.toList.take q ++ 46 :: s.data.toList.drop (q + 1)) (hn : ∀ c ∈ s.data.toList.take q, c ≠ 46) : kcut s = s.extract 0 q :: kcut (s.extract (q + 1) s.size) := by
  unfold kcut
  rw [h, splitL_dot _ _ hn, List.map_cons]
  congr 1
  · rw [extract_toB]
    rfl
  · rw [extract_toB]
    have : (toB ((s.data.toList.take s.size).drop (q + 1))).data.toList = s.data.toList.drop (q + 1) := by
      rw [List.take_of_length_le (by simp)]
      rfl
    rw [this]

set_option maxRecDepth 20000 in
set_option maxHeartbeats 4000000 in
theorem zzSplit_any (s : ByteArray) (hs : s.size ≤ 1000) (w : World) : Calls Try.prog 102 #[.string s, .string { data := #[46] }] w fun e w' => ∃ g c, e = .returned (.slice (some ⟨g, 0, none⟩) (kcut s).length c) ∧ KS w' (some ⟨g, 0, none⟩) (kcut s) ∧ (kcut s).length ≤ c ∧ w.heap.size ≤ g ∧ Ext w w' := by
  have HZ := Lib.hid (fun (t : ByteArray) (ht : t.size ≤ 1000) w1 => zzIndex_any t ht w1)
  go_enter Try.func102, Try.ntmps102
  go_wp2
  go_loopw [0, 5] (fun t o wr => ∃ (T : ByteArray) (P : List ByteArray), t = .string T ∧ T.size + P.length ≤ s.size ∧ OwnStrs wr w.heap.size o P ∧ kcut s = P ++ kcut T ∧ Ext w wr) (fun t _ _ => match t with | .string T => T.size | _ => 0)
  case atStart => exact ⟨s, [], rfl, by simp, World.ownsRow_nil _ _ _ _, rfl, Ext.refl _⟩
  case round =>
    obtain ⟨T, P, rfl, hsz, hP, hk, hx⟩ := hrel
    have HP := Lib.hid hP
    have HX := Lib.hid hx
    have HK := Lib.hid hk
    have hT : T.size ≤ 1000 := by omega
    have HC := Lib.hid (HZ.out T hT wr)
    clear hP hx hk
    go_wp2_with (first
      | (go_at_call 120; refine (HC.out).mono ?_; rintro e w1 ⟨i, rfl, hi, rfl⟩; clear HC; rcases hi with ⟨rfl, hno⟩ | ⟨q, hq, rfl, hsp, hno⟩
         all_goals first
           | (have HNO : Hid (kcut T = [T]) := kcut_none hno
              clear hno)
           | (have HSP : Hid (kcut T = T.extract 0 q :: kcut (T.extract (q + 1) T.size)) := kcut_some hq hsp hno
              have hq1 : (q : Int) + 1 ≤ (T.size : Int) := by omega
              have hq2 : (q : Int) ≤ (T.size : Int) := by omega
              clear hsp hno))
      | (at_builtin; refine wpList_spush (.tmp 42) (.tmp 44) rfl rfl w wr u5 P _ HP.out HX.out (by omega) wr.heap.size rfl rfl rfl ?_; intro g9 c9 w9 hp9 hx9; have HP9 := Lib.hid hp9; have HX9 := Lib.hid hx9; clear hp9 hx9)
      | (at_builtin; refine wpList_spush (.tmp 46) (.tmp 50) rfl rfl w wr u5 P _ HP.out HX.out (by omega) wr.heap.size rfl rfl rfl ?_; intro g9 c9 w9 hp9 hx9; have HP9 := Lib.hid hp9; have HX9 := Lib.hid hx9; clear hp9 hx9))
    · have hk9 := HP9.out.ks
      obtain ⟨a9', c9', e9, hk9, hc9⟩ := hk9
      have el : (P ++ [T]).length = P.length + 1 := by simp
      rw [el] at e9 hc9
      simp only [Value.slice.injEq, true_and] at e9
      obtain ⟨rfl, rfl⟩ := e9
      have HKF : Hid (kcut s = P ++ [T]) := by rw [HK.out, HNO.out]; rfl
      have HK9 := Lib.hid hk9
      have HC9 := Lib.hid hc9
      clear hk9 hc9 el
      go_ret
      rw [HKF.out]
      exact ⟨_, c9, by simp, HK9.out, by simp; exact HC9.out, (HP9.out.lt g9 rfl).1, HX9.out⟩
    · go_roundw
      case rel => exact ⟨_, P ++ [T.extract 0 q], rfl, by simp; omega, by have := HP9.out; simpa using this, by rw [HK.out, HSP.out]; simp, HX9.out⟩
      case measure => simp; omega
end Go.Proofs.Ytikpedfggbibpaa
namespace Go.Proofs.Ytikpedfggbibpaa
open Go.RowKit Go.Lib
set_option linter.unusedVariables false
set_option linter.unusedSimpArgs false

theorem memberOf_none (x : V) (s : ByteArray) (hs : s ∉ x.keys) (v : Value) (w : World) (h : RV w x v) :
    Calls Try.prog 59 #[v, .string s] w (ValPost .null w) := by
  obtain ⟨k, n, f, t, l, ks⟩ := x
  unfold RV at h
  obtain ⟨al, lc, ak, kc, rfl, z, hl, hk⟩ := h
  have hksl : ks.length ≤ reachN := by have := z.hkl; have := z.hkc; omega
  have HI : Hid (∀ w1, Keep w w1 → Calls Try.prog 42 #[.slice ak ks.length kc, .string s] w1 fun e w' => e = .returned (.int .i64 (Lib.idxOfS ks s)) ∧ w1 = w') := fun w1 hk1 =>
    (index_strs ak kc ks s w1 (hk.keep hk1) hksl).mono fun e w' ⟨a, b⟩ => ⟨a, b.symm⟩
  have KK : ∀ (A B : Obj), Keep w ((w.alloc A).alloc B) := fun A B => (Keep.alloc _ _).trans (Keep.alloc _ _)
  have hm : s ∉ ks := hs
  have hix : Lib.idxOfS ks s = -1 := by
    have := Lib.idxOfS_miss ks ks.length s (fun j hj e => hm (by
      simp [List.getD, hj] at e
      rw [← e]
      exact List.getElem_mem _))
    rwa [List.take_length] at this
  rw [hix] at HI
  have HN := Lib.hid (fun w1 => null_any w1)
  clear hl hk z hksl hm hs hix
  go_enter Try.func59, Try.ntmps59
  go_wp2_with (first
    | (go_at_call 42; refine (HI.out _ (KK _ _)).mono ?_; rintro e w' ⟨rfl, rfl⟩)
    | (go_at_call 90; refine (HN.out _).mono ?_; rintro e w' ⟨rfl, rfl⟩))
  refine bodyPost_ret (results_cell_row rfl _ _ (w.heap.size + 1) 26 _ _ _ rfl ((heap_alloc_old _ _ (by simp)).trans (by rw [← World.size_alloc]; exact heap_alloc_new _ _)) Try.underlying26 rfl (by kernel_rfl)) rfl ?_
  exact ⟨_, rfl, V.wNull _, (((Ext.refl _).alloc _).alloc _).alloc _⟩

/-- the value at a key of whatever data -/
def J.memb : J → ByteArray → J
  | .obj ks l, k => look ks l k
  | _, _ => .null
def J.isObj : J → Bool
  | .obj _ _ => true
  | _ => false
def J.isArr : J → Bool
  | .arr _ => true
  | _ => false
theorem memb_any (b : J) (hb : b.ok) (hsm : b.nodes ≤ 2000) (s : ByteArray) (v : Value) (w : World) (h : RV w (V.ofJ b) v) : Calls Try.prog 59 #[v, .string s] w (ValPost (b.memb s) w) := by
  have leaf : (V.ofJ b).keys = [] → b.memb s = .null → Calls Try.prog 59 #[v, .string s] w (ValPost (b.memb s) w) := fun h1 h2 => by
    rw [h2]
    exact memberOf_none _ s (by rw [h1]; simp) v w h
  cases b with
  | obj ks l => exact memberOf_any ks l s hb (by have := J.nodesL_len l; simp only [J.nodes] at hsm; omega) v w h
  | null => exact leaf rfl rfl
  | bool q => exact leaf rfl rfl
  | int q => exact leaf rfl rfl
  | flt q => exact leaf rfl rfl
  | str q => exact leaf rfl rfl
  | arr q => exact leaf rfl rfl
theorem memb_lt {ks : List ByteArray} {l : List J} {b : J} {k : ByteArray} (h1 : ks.length = l.length) (hb : b.ok) (hk : k ∈ ks) : (look ks l k).nodes + (b.memb k).nodes < (J.obj ks l).nodes + b.nodes := by
  have leaf : b.memb k = .null → (look ks l k).nodes + (b.memb k).nodes < (J.obj ks l).nodes + b.nodes := fun e => by
    rw [e]
    have := look_nodes_mem hk h1
    have := b.nodes_pos
    simp only [J.nodes]
    omega
  cases b with
  | obj ks' l' => exact look_lt h1 (by unfold J.ok at hb; exact hb.2.1) (mem_keysU.2 (Or.inl hk))
  | _ => exact leaf rfl
theorem memb_ok {b : J} (hb : b.ok) (k : ByteArray) : (b.memb k).ok := by
  cases b with
  | obj ks l => exact look_ok (by unfold J.ok at hb; exact hb.2.2) k
  | _ => unfold J.memb J.ok; trivial
theorem memb_nofl {b : J} (hb : b.nofl) (k : ByteArray) : (b.memb k).nofl := by
  cases b with
  | obj ks l => exact look_nofl (by unfold J.nofl at hb; exact hb) k
  | _ => unfold J.memb J.nofl; trivial
theorem suitF_obj (n : Nat) (ks : List ByteArray) (l : List J) (b : J) (hb : b.isArr = false) : suitF (n + 1) (.obj ks l) b = ((ks.all fun k => suitF n (look ks l k) (b.memb k)) && b.isObj) := by
  cases b <;> simp_all [suitF, J.memb, J.isObj, J.isArr]

def SuAt (n : Nat) : Prop := ∀ (f v : J), f.nodes + v.nodes ≤ n → f.ok → v.ok → f.nofl → v.nofl → (∃ E, TreeOf E f) → n ≤ 2000 → ∀ (vf vv : Value) (w : World), RV w (V.ofJ f) vf → RV w (V.ofJ v) vv →
  Calls Try.prog 19 #[vf, vv] w (Gives (.bool (suitF n f v)) w)

theorem Try.enters_suited (args : Array Value) (w : World) : (callFunc 57 args).run Try.prog w = .ok (.enter 57 args) w := enters_of Try.func57 (by kernel_rfl) rfl args w
set_option maxRecDepth 20000 in
set_option maxHeartbeats 2000000 in
theorem suited_fn (bf : Nat) (c0 c1 c2 c3 c4 c5 vx : Value) (r : Bool) (w : World) (h0 : w.cell? ⟨bf, 0, none⟩ = some c0) (h1 : w.cell? ⟨bf, 1, none⟩ = some c1) (h2 : w.cell? ⟨bf, 2, none⟩ = some c2) (h3 : w.cell? ⟨bf, 3, none⟩ = some c3) (h4 : w.cell? ⟨bf, 4, none⟩ = some c4) (h5 : w.cell? ⟨bf, 5, none⟩ = some c5)
    (x : V) (hx : RV w x vx) (hc : ∀ w1, Ext w w1 → Calls Try.prog 19 #[.agg #[c0, c1, c2, c3, c4, c5], vx] w1 (Gives (.bool r) w1)) :
    Calls Try.prog 57 #[vx, .pointer (some ⟨bf, 0, none⟩)] w (Gives (.bool r) w) := by
  obtain ⟨al, lc, ak, kc, rfl⟩ := hx.six
  have hbf := lt_of_cell h0
  simp only at hbf
  have HC := Lib.hid hc
  clear hc hx
  go_enter Try.func57, Try.ntmps57
  go_wp2_with (go_at_call 19; refine (HC.out _ ((Ext.refl _).alloc _)).mono ?_; rintro e w1 ⟨rfl, hx1⟩; have HX := Lib.hid hx1; clear hx1 HC)
  go_ret
  exact .mk rfl (((Ext.refl _).alloc _).trans HX.out)

set_option maxRecDepth 20000 in
set_option maxHeartbeats 2000000 in
theorem suited_arr (N : Nat) (ih : SuAt N) (f : J) (l : List J) (hn : f.nodes + (J.arr l).nodes ≤ N + 1) (hN : N + 1 ≤ 2000) (hf : f.ok) (hfn : f.nofl) (hv : (J.arr l).ok) (hvn : (J.arr l).nofl) (ht : ∃ E, TreeOf E f)
    (vf vv : Value) (w : World) (h1 : RV w (V.ofJ f) vf) (h2 : RV w (V.ofJ (.arr l)) vv) : Calls Try.prog 19 #[vf, vv] w (Gives (.bool (suitF (N + 1) f (.arr l))) w) := by
  have H1 := Lib.hid h1
  obtain ⟨fal, flc, fak, fkc, rfl⟩ := h1.six
  clear h1
  unfold V.ofJ RV at h2
  obtain ⟨al, lc, ak, kc, rfl, z, hl, hk⟩ := h2
  rw [V.ofJs_length]
  have hll : l.length ≤ reachN := by have h3 := z.hll; have h4 := z.hlc; rw [V.ofJs_length] at h3 h4; omega
  generalize hW : (w.alloc (.cells #[.int .i64 (V.ofJ f).kind, .int .i64 (V.ofJ f).n, .float .f64 (V.ofJ f).f, .string (V.ofJ f).s, .slice fal (V.ofJ f).l.length flc, .slice fak (V.ofJ f).keys.length fkc] 26)).alloc (.cells #[.int .i64 7, .int .i64 0, .float .f64 0, .string ByteArray.empty, .slice al l.length lc, .slice ak ([] : List ByteArray).length kc] 26) = w1
  have X1 : Ext w w1 := by rw [← hW]; exact ((Ext.refl _).alloc _).alloc _
  have T1 : ∀ (i : Nat), i < 6 → w1.cell? ⟨w.heap.size, i, none⟩ = #[Value.int .i64 (V.ofJ f).kind, .int .i64 (V.ofJ f).n, .float .f64 (V.ofJ f).f, .string (V.ofJ f).s, .slice fal (V.ofJ f).l.length flc, .slice fak (V.ofJ f).keys.length fkc][i]? := fun i hi => by
    rw [← hW]
    exact box1_cell _ _ _ _ i
  have HC : Hid (Calls Try.prog 15 #[.slice al l.length lc, .func (.func 57) #[] #[.pointer (some ⟨w.heap.size, 0, none⟩)]] w1 (AnyPost (fun q => suitF N f (arrGet l q)) l.length w1)) := by
    have := containsFunc_any 57 #[.pointer (some ⟨w.heap.size, 0, none⟩)] Try.enters_suited (V.ofJs l) (fun q => suitF N f (arrGet l q)) al lc w1 (fun hne => by
      obtain ⟨b, o, e, hr⟩ := hl hne
      exact ⟨b, o, e, RVs.keep X1.keep _ hr⟩) (by rw [V.ofJs_length]; exact hll) (fun q hq v w' hx hv' => by
      have hq' : q < l.length := by rwa [V.ofJs_length] at hq
      rw [V.ofJs_get l q hq', ← arrGet_eq hq'] at hv'
      have t1 := arrGet_lt hq'
      have K := hx.keep
      exact suited_fn w.heap.size _ _ _ _ _ _ v _ w' (K _ _ (T1 0 (by omega))) (K _ _ (T1 1 (by omega))) (K _ _ (T1 2 (by omega))) (K _ _ (T1 3 (by omega))) (K _ _ (T1 4 (by omega))) (K _ _ (T1 5 (by omega))) _ hv' (fun w2 hx2 =>
        ih f (arrGet l q) (by omega) hf (arrGet_ok (by unfold J.ok at hv; exact hv) hq') hfn (arrGet_nofl (by unfold J.nofl at hvn; exact hvn) hq') ht (by omega) _ _ w2 (RV.keep (X1.trans (hx.trans hx2)).keep _ H1.out) (RV.keep hx2.keep _ hv')))
    rw [V.ofJs_length] at this
    exact this
  have HRES : Hid (suitF (N + 1) f (.arr l) = l.any fun x => suitF N f x) := by
    cases f <;> rfl
  have HC2 : Hid (∀ w', (w.alloc (.cells #[.int .i64 (V.ofJ f).kind, .int .i64 (V.ofJ f).n, .float .f64 (V.ofJ f).f, .string (V.ofJ f).s, .slice fal (V.ofJ f).l.length flc, .slice fak (V.ofJ f).keys.length fkc] 26)).alloc (.cells #[.int .i64 7, .int .i64 0, .float .f64 0, .string ByteArray.empty, .slice al l.length lc, .slice ak ([] : List ByteArray).length kc] 26) = w' → Calls Try.prog 15 #[.slice al l.length lc, .func (.func 57) #[] #[.pointer (some ⟨w.heap.size, 0, none⟩)]] w' (AnyPost (fun q => suitF N f (arrGet l q)) l.length w') ∧ Ext w w') := fun w' e => by
    obtain rfl : w1 = w' := hW.symm.trans e
    exact ⟨HC.out, X1⟩
  clear hl hk z hll hn hN hf hfn hv hvn ht ih T1 X1 hW HC
  go_enter Try.func19, Try.ntmps19
  go_wp2_with (go_at_call 15; refine ((HC2.out _ rfl).1).mono ?_; rintro e w2 ⟨r, rfl, hr, hx2⟩; have HR := Lib.hid hr; have HX2 := Lib.hid (Ext.trans (HC2.out _ rfl).2 hx2); clear hr hx2 HC2)
  go_ret
  refine .mk (congrArg Value.bool ?_) HX2.out
  rw [HRES.out, Bool.eq_iff_iff, List.any_eq_true]
  show r = true ↔ _
  rw [HR.out]
  constructor
  · rintro ⟨q, hq, h⟩
    exact ⟨l[q], List.getElem_mem _, by rw [← arrGet_eq hq]; exact h⟩
  · rintro ⟨x, hx, h⟩
    obtain ⟨q, hq, rfl⟩ := List.getElem_of_mem hx
    exact ⟨q, hq, by rw [arrGet_eq hq]; exact h⟩

set_option maxRecDepth 20000 in
set_option maxHeartbeats 2000000 in
theorem suited_leaf (N : Nat) (f b : J) (hl : f.isLeaf = true) (hb : b.isArr = false) (hfn : f.nofl)
    (vf vv : Value) (w : World) (h1 : RV w (V.ofJ f) vf) (h2 : RV w (V.ofJ b) vv) : Calls Try.prog 19 #[vf, vv] w (Gives (.bool (suitF (N + 1) f b)) w) := by
  have hres : suitF (N + 1) f b = leafEq f b := by cases f <;> cases b <;> simp_all [suitF, J.isLeaf, J.isArr]
  have hlf : leafs f b = true := by cases f <;> cases b <;> simp_all [leafs, J.isLeaf, J.isArr]
  have HA : Hid (∀ w1, Keep w w1 → Calls Try.prog 58 #[vf, vv] w1 (Gives (.bool (leafEq f b)) w1)) := fun w1 hk => alike_any f b hlf hfn vf vv w1 (RV.keep hk _ h1) (RV.keep hk _ h2)
  have k1 : ((V.ofJ f).kind != 8) = true := by cases f <;> simp_all [V.ofJ, V.kind, J.isLeaf]
  have k2 : ((V.ofJ b).kind == 7) = false := by cases b <;> simp_all [V.ofJ, V.kind, J.isArr]
  have k3 : ((V.ofJ f).kind == 8) = false := by cases f <;> simp_all [V.ofJ, V.kind, J.isLeaf]
  obtain ⟨fal, flc, fak, fkc, rfl⟩ := h1.six
  obtain ⟨al, lc, ak, kc, rfl⟩ := h2.six
  rw [hres]
  clear h1 h2 hres hlf hl hb hfn
  generalize leafEq f b = r at *
  generalize (V.ofJ f).kind = fk at *
  generalize (V.ofJ b).kind = bk at *
  go_enter Try.func19, Try.ntmps19
  go_wp2_with (go_at_call 58; refine (HA.out _ ((Keep.alloc _ _).trans (Keep.alloc _ _))).mono ?_; rintro e w1 ⟨rfl, hx1⟩; have HX1 := Lib.hid hx1; clear hx1 HA)
  go_ret
  exact .mk rfl ((((Ext.refl _).alloc _).alloc _).trans HX1.out)

set_option maxRecDepth 100000 in
set_option maxHeartbeats 16000000 in
theorem suited_obj (N : Nat) (ih : SuAt N) (ks : List ByteArray) (l : List J) (b : J) (hn : (J.obj ks l).nodes + b.nodes ≤ N + 1) (hN : N + 1 ≤ 2000) (hf : (J.obj ks l).ok) (hfn : (J.obj ks l).nofl) (hv : b.ok) (hvn : b.nofl) (hba : b.isArr = false) (ht : ∃ E, TreeOf E (.obj ks l))
    (vf vv : Value) (w : World) (hvf : RV w (V.ofJ (.obj ks l)) vf) (hvv : RV w (V.ofJ b) vv) : Calls Try.prog 19 #[vf, vv] w (Gives (.bool (suitF (N + 1) (.obj ks l) b)) w) := by
  have hoka := hf
  unfold J.ok at hoka
  have hkl : ks.length = l.length := hoka.2.1
  have hl1 : ks.length ≤ 2000 := by have := J.nodesL_len l; simp only [J.nodes] at hn; omega
  have HMB : Hid (∀ w1, Ext w w1 → ∀ s, Calls Try.prog 59 #[vv, .string s] w1 (ValPost (b.memb s) w1)) := fun w1 hx s => memb_any b hv (by omega) s vv w1 (RV.keep hx.keep _ hvv)
  have HIH0 : Hid (∀ s, s ∈ ks → ∀ w1 va vb, RV w1 (V.ofJ (look ks l s)) va → RV w1 (V.ofJ (b.memb s)) vb → Calls Try.prog 19 #[va, vb] w1 (Gives (.bool (suitF N (look ks l s) (b.memb s))) w1)) := fun s hs w1 va vb r1 r2 => by
    have t1 := memb_lt (b := b) hoka.2.1 hv hs
    obtain ⟨E, hE⟩ := ht
    exact ih _ _ (by omega) (look_ok hoka.2.2 s) (memb_ok hv s) (look_nofl (by unfold J.nofl at hfn; exact hfn) s) (memb_nofl hvn s) ⟨_, hE.obj_inv.2.2.2.1 s hs⟩ (by omega) va vb w1 r1 r2
  have HRES := Lib.hid (suitF_obj N ks l b hba)
  have hkind : (V.ofJ b).kind = 8 ↔ b.isObj = true := by cases b <;> simp [V.ofJ, V.kind, J.isObj]
  have HKIND := Lib.hid hkind
  clear hkind
  have k7 : ((V.ofJ b).kind == 7) = false := by cases b <;> simp_all [V.ofJ, V.kind, J.isArr]
  have HLK : Hid (∀ i, (h : i < ks.length) → (h' : i < l.length) → look ks l ks[i] = l[i]) := fun i h h' => look_hit h' (List.getElem?_eq_getElem h) hoka.1
  unfold V.ofJ RV at hvf
  obtain ⟨al, lc, ak, kc, rfl, z, hl, hk⟩ := hvf
  have HELA : Hid (∀ i, (h : i < ks.length) → ∃ b o d0 d1 d2 d3 d4 d5, al = some ⟨b, o, none⟩ ∧ ElemAt w b (o + i * 6) (V.ofJ (look ks l ks[i])) d0 d1 d2 d3 d4 d5) := fun i h => by
    have h' : i < l.length := by omega
    obtain ⟨b, o, d0, d1, d2, d3, d4, d5, e, E⟩ := RV.elem (k := 0) (n := 0) (f := 0) (s := ByteArray.empty) (ks := []) hl i (by rw [V.ofJs_length]; exact h')
    rw [V.ofJs_get l i h', ← HLK.out i h h'] at E
    exact ⟨b, o, d0, d1, d2, d3, d4, d5, e, E⟩
  have HKS := Lib.hid hk
  obtain ⟨bal, blc, bak, bkc, rfl⟩ := hvv.six
  rw [V.ofJs_length] at *
  clear hf ih hn hN hoka hl hk z HLK hfn hv hvn hba ht hvv
  rw [← hkl]
  clear hkl
  generalize (V.ofJ b).kind = bk at *
  generalize (V.ofJ b).n = bn at *
  generalize (V.ofJ b).f = bf at *
  generalize (V.ofJ b).s = bs at *
  generalize (V.ofJ b).l.length = bll at *
  generalize (V.ofJ b).keys.length = bkl at *
  go_enter Try.func19, Try.ntmps19
  go_wp2
  generalize hw2 : World.alloc (World.alloc w _) _ = w2
  have X2 : Ext w w2 := by rw [← hw2]; exact ((Ext.refl _).alloc _).alloc _
  have t0 : w2.cell? ⟨w.heap.size, 4, none⟩ = some (.slice al ks.length lc) := by rw [← hw2]; exact (box1_cell _ _ _ _ 4).trans rfl
  have t1 : w2.cell? ⟨w.heap.size, 5, none⟩ = some (.slice ak ks.length kc) := by rw [← hw2]; exact (box1_cell _ _ _ _ 5).trans rfl
  have t2 : w2.cell? ⟨w.heap.size + 1, 0, none⟩ = some (.int .i64 bk) := by rw [← hw2]; exact (box2_cell _ _ _ _ 0).trans rfl
  have t3 : w2.cell? ⟨w.heap.size + 1, 1, none⟩ = some (.int .i64 bn) := by rw [← hw2]; exact (box2_cell _ _ _ _ 1).trans rfl
  have t4 : w2.cell? ⟨w.heap.size + 1, 2, none⟩ = some (.float .f64 bf) := by rw [← hw2]; exact (box2_cell _ _ _ _ 2).trans rfl
  have t5 : w2.cell? ⟨w.heap.size + 1, 3, none⟩ = some (.string bs) := by rw [← hw2]; exact (box2_cell _ _ _ _ 3).trans rfl
  have t6 : w2.cell? ⟨w.heap.size + 1, 4, none⟩ = some (.slice bal bll blc) := by rw [← hw2]; exact (box2_cell _ _ _ _ 4).trans rfl
  have t7 : w2.cell? ⟨w.heap.size + 1, 5, none⟩ = some (.slice bak bkl bkc) := by rw [← hw2]; exact (box2_cell _ _ _ _ 5).trans rfl
  have HX2 := Lib.hid X2
  clear hw2 X2
  go_loopw [5] (fun i wr => ∃ m : Nat, m ≤ ks.length ∧ i = .int .i64 m ∧ (∀ q, (h : q < ks.length) → q < m → suitF N (look ks l ks[q]) (b.memb ks[q]) = true) ∧ Ext w2 wr) (fun i _ => ks.length - (intOf i).toNat)
  case atStart => exact ⟨0, Nat.zero_le _, rfl, fun q _ h => by omega, Ext.refl _⟩
  case round =>
    obtain ⟨m, hm, rfl, hall, hB⟩ := hrel
    have HB := Lib.hid hB
    have HA := Lib.hid hall
    clear hB hall
    by_cases hlt : m < ks.length
    · obtain ⟨b1, o1, d0, d1, d2, d3, d4, d5, rfl, E⟩ := HELA.out m hlt
      obtain ⟨bK, oK, rfl, hKc⟩ := HKS.out (by intro e; subst e; simp at hlt)
      obtain ⟨ek, en, ef, es, eal, ell, elc, eak, ekl, ekc, rfl, rfl, rfl, rfl, rfl, rfl⟩ := E.rv.shape
      have HE := Lib.hid E.rv
      have hK0 := hKc m hlt
      have HMEM : Hid (ks[m] ∈ ks) := List.getElem_mem hlt
      have HNX : Hid (∀ q, (h : q < ks.length) → q < m + 1 → suitF N (look ks l ks[m]) (b.memb ks[m]) = true → suitF N (look ks l ks[q]) (b.memb ks[q]) = true) := fun q h hq hx => by
        by_cases hqm : q = m
        · subst hqm; exact hx
        · exact HA.out q h (by omega)
      generalize ks[m] = kx at *
      have hM1 : (m : Int) < (ks.length : Int) := by omega
      have hM0 : (0 : Int) ≤ (m : Int) := by omega
      have HIH : Hid (∀ w1 vb, Ext w2 w1 → RV w1 (V.ofJ (b.memb kx)) vb → Calls Try.prog 19 #[(.agg #[.int .i64 ek, .int .i64 en, .float .f64 ef, .string es, .slice eal ell elc, .slice eak ekl ekc]), vb] w1 (Gives (.bool (suitF N (look ks l kx) (b.memb kx))) w1)) := fun w1 vb hx rb =>
        HIH0.out kx HMEM.out w1 _ _ (RV.keep (Ext.trans HX2.out hx).keep _ HE.out) rb
      generalize hr : suitF N (look ks l kx) (b.memb kx) = r at HIH HNX
      have HR := Lib.hid hr
      clear hr
      have s0 := t0
      have s1 := t1
      have s2 := t2
      have s3 := t3
      have s4 := t4
      have s5 := t5
      have s6 := t6
      have s7 := t7
      have s8 := HX2.out.get E.h0
      have s9 := HX2.out.get E.h1
      have s10 := HX2.out.get E.h2
      have s11 := HX2.out.get E.h3
      have s12 := HX2.out.get E.h4
      have s13 := HX2.out.get E.h5
      have s14 := HX2.out.get hK0
      have r0 := HB.out.get s0
      have r1 := HB.out.get s1
      have r2 := HB.out.get s2
      have r3 := HB.out.get s3
      have r4 := HB.out.get s4
      have r5 := HB.out.get s5
      have r6 := HB.out.get s6
      have r7 := HB.out.get s7
      have r8 := HB.out.get s8
      have r9 := HB.out.get s9
      have r10 := HB.out.get s10
      have r11 := HB.out.get s11
      have r12 := HB.out.get s12
      have r13 := HB.out.get s13
      have r14 := HB.out.get s14
      have d0 : wr.drew.cell? ⟨w.heap.size, 4, none⟩ = some (.slice (some ⟨b1, o1, none⟩) ks.length lc) := r0
      have d1 : wr.drew.cell? ⟨w.heap.size, 5, none⟩ = some (.slice (some ⟨bK, oK, none⟩) ks.length kc) := r1
      have d2 : wr.drew.cell? ⟨w.heap.size + 1, 0, none⟩ = some (.int .i64 bk) := r2
      have d3 : wr.drew.cell? ⟨w.heap.size + 1, 1, none⟩ = some (.int .i64 bn) := r3
      have d4 : wr.drew.cell? ⟨w.heap.size + 1, 2, none⟩ = some (.float .f64 bf) := r4
      have d5 : wr.drew.cell? ⟨w.heap.size + 1, 3, none⟩ = some (.string bs) := r5
      have d6 : wr.drew.cell? ⟨w.heap.size + 1, 4, none⟩ = some (.slice bal bll blc) := r6
      have d7 : wr.drew.cell? ⟨w.heap.size + 1, 5, none⟩ = some (.slice bak bkl bkc) := r7
      have d8 : wr.drew.cell? ⟨b1, o1 + m * 6, none⟩ = some (.int .i64 ek) := r8
      have d9 : wr.drew.cell? ⟨b1, o1 + m * 6 + 1, none⟩ = some (.int .i64 en) := r9
      have d10 : wr.drew.cell? ⟨b1, o1 + m * 6 + 2, none⟩ = some (.float .f64 ef) := r10
      have d11 : wr.drew.cell? ⟨b1, o1 + m * 6 + 3, none⟩ = some (.string es) := r11
      have d12 : wr.drew.cell? ⟨b1, o1 + m * 6 + 4, none⟩ = some (.slice eal ell elc) := r12
      have d13 : wr.drew.cell? ⟨b1, o1 + m * 6 + 5, none⟩ = some (.slice eak ekl ekc) := r13
      have d14 : wr.drew.cell? ⟨bK, oK + m, none⟩ = some (.string kx) := r14
      go_wp2_with fail
      go_region_held3 (fun w' => w'.cell? ⟨w.heap.size, 4, none⟩ = some (.slice (some ⟨b1, o1, none⟩) ks.length lc) ∧ w'.cell? ⟨w.heap.size, 5, none⟩ = some (.slice (some ⟨bK, oK, none⟩) ks.length kc) ∧ w'.cell? ⟨w.heap.size + 1, 0, none⟩ = some (.int .i64 bk) ∧ w'.cell? ⟨w.heap.size + 1, 1, none⟩ = some (.int .i64 bn) ∧ w'.cell? ⟨w.heap.size + 1, 2, none⟩ = some (.float .f64 bf) ∧ w'.cell? ⟨w.heap.size + 1, 3, none⟩ = some (.string bs) ∧ w'.cell? ⟨w.heap.size + 1, 4, none⟩ = some (.slice bal bll blc) ∧ w'.cell? ⟨w.heap.size + 1, 5, none⟩ = some (.slice bak bkl bkc) ∧ w'.cell? ⟨b1, o1 + m * 6, none⟩ = some (.int .i64 ek) ∧ w'.cell? ⟨b1, o1 + m * 6 + 1, none⟩ = some (.int .i64 en) ∧ w'.cell? ⟨b1, o1 + m * 6 + 2, none⟩ = some (.float .f64 ef) ∧ w'.cell? ⟨b1, o1 + m * 6 + 3, none⟩ = some (.string es) ∧ w'.cell? ⟨b1, o1 + m * 6 + 4, none⟩ = some (.slice eal ell elc) ∧ w'.cell? ⟨b1, o1 + m * 6 + 5, none⟩ = some (.slice eak ekl ekc) ∧ w'.cell? ⟨bK, oK + m, none⟩ = some (.string kx))
        (first
          | (go_split_ands
             with_reducible exact ⟨k5.get s0, k5.get s1, k5.get s2, k5.get s3, k5.get s4, k5.get s5, k5.get s6, k5.get s7, k5.get s8, k5.get s9, k5.get s10, k5.get s11, k5.get s12, k5.get s13, k5.get s14⟩)
          | (go_split_ands
             with_reducible exact ⟨k4.get s0, k4.get s1, k4.get s2, k4.get s3, k4.get s4, k4.get s5, k4.get s6, k4.get s7, k4.get s8, k4.get s9, k4.get s10, k4.get s11, k4.get s12, k4.get s13, k4.get s14⟩)
          | (go_split_ands
             with_reducible exact ⟨d0, d1, d2, d3, d4, d5, d6, d7, d8, d9, d10, d11, d12, d13, d14⟩)
          | (go_split_ands
             with_reducible exact ⟨r0, r1, r2, r3, r4, r5, r6, r7, r8, r9, r10, r11, r12, r13, r14⟩)
          | go_keep)
        (first
          | (go_at_call 59; refine (HMB.out _ (Ext.trans HX2.out (by first | exact Ext.drew HB.out | exact HB.out)) kx).mono ?_; rintro e w4 ⟨vb1, rfl, rvb, hx4⟩; have RB1 := Lib.hid rvb; have X4 : Hid (Ext w2 w4) := (by first | exact Ext.trans (Ext.drew HB.out) hx4 | exact Ext.trans HB.out hx4); have k4 := X4.out.keep; clear rvb hx4)
          | (go_at_call 19; refine (HIH.out _ _ X4.out RB1.out).mono ?_; rintro e w5 ⟨rfl, hx5⟩; have X5 : Hid (Ext w2 w5) := Ext.trans X4.out hx5; have k5 := X5.out.keep; clear hx5))
      cases r
      all_goals go_wp2_with fail
      · go_ret
        refine .mk (congrArg Value.bool ?_) (Ext.trans HX2.out X5.out)
        have : (ks.all fun k => suitF N (look ks l k) (b.memb k)) = false := by
          rw [Bool.eq_false_iff]
          intro h
          rw [List.all_eq_true] at h
          have := h kx HMEM.out
          rw [HR.out] at this
          cases this
        rw [HRES.out, this]
        rfl
      · go_roundw
        case rel => exact ⟨m + 1, by omega, by go_num, fun q h hq => HNX.out q h hq (by first | rfl | trivial), X5.out⟩
        case measure => simp [intOf]; omega
    · have HALL : Hid ((ks.all fun k => suitF N (look ks l k) (b.memb k)) = true) := by
        show (ks.all fun k => suitF N (look ks l k) (b.memb k)) = true
        rw [List.all_eq_true]
        intro k hk
        obtain ⟨q, hq, rfl⟩ := List.getElem_of_mem hk
        exact HA.out q hq (by omega)
      have r1 := HB.out.get t1
      have r2 := HB.out.get t2
      clear HELA HIH0 HA
      by_cases hk8 : bk = 8
      · subst hk8
        have HO : Hid (b.isObj = true) := HKIND.out.1 rfl
        go_wp2
        go_ret
        exact .mk (congrArg Value.bool (by rw [HRES.out, HALL.out, HO.out]; rfl)) (Ext.trans HX2.out HB.out)
      · have q8 : (bk == 8) = false := beq_eq_false_iff_ne.2 hk8
        have HO : Hid (b.isObj = false) := by
          show b.isObj = false
          rw [Bool.eq_false_iff]
          exact fun h => hk8 (HKIND.out.2 h)
        go_wp2
        go_ret
        exact .mk (congrArg Value.bool (by rw [HRES.out, HALL.out, HO.out]; rfl)) (Ext.trans HX2.out HB.out)

theorem suited_any : ∀ n, SuAt n
  | 0 => fun f v h => by have := J.nodes_pos f; omega
  | N + 1 => fun f v h hf hv hfn hvn ht hN vf vv w h1 h2 => by
    by_cases ha : v.isArr = true
    · cases v <;> simp [J.isArr] at ha
      exact suited_arr N (suited_any N) f _ h hN hf hfn hv hvn ht vf vv w h1 h2
    have ha' : v.isArr = false := by simpa using ha
    obtain ⟨E, hE⟩ := ht
    rcases hE.cases_on' with hl | ⟨ks, l, rfl⟩
    · exact suited_leaf N f v hl ha' hfn vf vv w h1 h2
    · exact suited_obj N (suited_any N) ks l v h hN hf hfn hv hvn ha' ⟨E, hE⟩ vf vv w h1 h2
end Go.Proofs.Ytikpedfggbibpaa
