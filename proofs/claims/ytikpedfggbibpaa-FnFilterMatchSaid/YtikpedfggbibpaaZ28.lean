/- Walks: diff of two arrays. -/
import Derived.Test.YtikpedfggbibpaaZ27
namespace Go.Proofs.Ytikpedfggbibpaa
open Go.RowKit Go.Lib
set_option linter.unusedVariables false
set_option linter.unusedSimpArgs false

theorem Try.infoIface : (Try.prog.info? 20).map (fun i => (i.zero, i.size, i.bytes)) = some (some .nilIface, 1, 16) := by kernel_rfl

/-- an append of a path to what has been told, the path's header in the walk's own spelling -/
theorem wpList_push' {ops : Array Oper} {rest : List Oper} {o : Oper} {a : Act} {Q : Exit → Act → World → Prop} (s x : Operand) (hgd : o.guard = none)
    (ho : o.op = .call { callee := .builtin .append, args := #[s, x], argTypes := #[84, 84] })
    (w w1 : World) (v vd : Value) (A D : List DI) (d : DI) (gd : Option Nat) (hP : DP w1 w.heap.size v A [d] D gd) (hvd : vd = dval d) (hX : Ext w w1) (hgl : ∀ g, gd = some g → g < w1.heap.size) (hA : A.length ≤ 1000000)
    (H : Nat) (hH : w1.heap.size = H) (hs : a.eval s = v) (hx : a.eval x = .slice (some ⟨H, 0, none⟩) 1 1)
    (h : ∀ g c w', DP w' w.heap.size (.slice (some ⟨g, 0, none⟩) (A.length + 1) c) (A ++ [d]) [] D gd → Ext w w' → w1.grownBy w' v.ownBlock → wpList Try.prog ops Q rest (a.put o.dst (.slice (some ⟨g, 0, none⟩) (A.length + 1) c)) w') :
    wpList Try.prog ops Q (o :: rest) a (w1.alloc (.cells #[vd] 86)) := by
  subst hvd
  exact wpList_push s x hgd ho w w1 v A D d gd hP hX hgl hA H hH hs hx h

/-- a step laid ahead of a path, in new memory -/
theorem wpList_cons {ops : Array Oper} {rest : List Oper} {o : Oper} {a : Act} {Q : Exit → Act → World → Prop} (s x : Operand) (hgd : o.guard = none)
    (ho : o.op = .call { callee := .builtin .append, args := #[s, x], argTypes := #[86, 86] })
    (w1 : World) (st st' : Step) (q : List Step) (g0 c0 : Nat) (hd : APath w1 (g0, c0, st' :: q)) (hq : q.length ≤ 1000000)
    (H : Nat) (hH : w1.heap.size = H) (hs : a.eval s = .slice (some ⟨H, 0, none⟩) 1 1) (hx : a.eval x = .slice (some ⟨g0, 0, none⟩) (q.length + 1) c0)
    (h : ∀ g c w', APath w' (g, c, st :: st' :: q) → w1.heap.size ≤ g → Ext w1 w' → g < w'.heap.size → wpList Try.prog ops Q rest (a.put o.dst (.slice (some ⟨g, 0, none⟩) (1 + (q.length + 1)) c)) w') :
    wpList Try.prog ops Q (o :: rest) a (w1.alloc (.cells #[st.val] 20)) := by
  obtain ⟨i0, hi, hz0, hz1, hz2⟩ := info_parts Try.infoIface
  subst hH
  have ho0 := own_fresh w1 w1.heap.size 20 1 [st.val] (Nat.le_refl _) rfl
  have hlt := hd.lt
  refine wpList_append_lies _ hgd s x 86 ho w1.heap.size 20 i0 .nilIface 1 16 Try.underlying86 hi hz0 hz1 hz2 rfl (by decide) (.slice (some ⟨w1.heap.size, 0, none⟩) 1 1) 1 [st.val] hs ho0
    ⟨g0, 0, none⟩ (q.length + 1) c0 ((st' :: q).map Step.val) hx (by simp) (fun j u hu => ?_) (fun u hu => ?_) (by omega) (by unfold maxLen; omega) (by omega) (by simp) (w1.heap.size + 1) (by simp) ?_
  · rw [Addr.add_lit, Nat.zero_add]
    have := hd.cell j u (by rw [enc_cons, ← List.map_cons]; exact hu)
    exact Eq.trans (World.cell?_alloc_lt _ _ _ hlt) this
  · exact enc_one (st' :: q) u (by rw [enc_cons, ← List.map_cons]; exact hu)
  · intro g c w' hown hgrow hat hgl
    have hg : w1.heap.size ≤ g := by
      rcases hat with e | e
      · simp only [Value.ownBlock, Option.some.injEq] at e; omega
      · omega
    have hx1 : Ext w1 w' := ((Ext.refl w1).alloc (.cells [st.val].toArray 20)).grown hgrow (by simp) (fun k hk => by simp only [Value.ownBlock, Option.some.injEq] at hk; omega)
    refine h g c w' ⟨?_, ?_⟩ hg hx1 hgl
    · simp [enc]
    · have e : (enc (st :: st' :: q)).length = 1 + (q.length + 1) := by simp [enc]; omega
      rcases hown.2 with ⟨h1, _⟩ | ⟨g1, cap1, cur1, h1, _, h3, h4, h5, h6, h7⟩
      · cases h1
      · simp only [Value.slice.injEq, Option.some.injEq, Addr.mk.injEq, and_true, true_and] at h1
        obtain ⟨rfl, rfl⟩ := h1
        refine Or.inr ⟨g, c, cur1, rfl, Nat.zero_le _, h3, by simp only [e]; exact h4, h5, h6, ?_⟩
        simp only [e, h7]
        simp [enc]

/-- the ignored paths that are handed on to the parts of an array -/
def ChI (w : World) (ci : Value) (k : Int) (g : Ig) : Prop := ∀ i : Nat, ((k = (i : Int) ∨ k < 0) → IgAt w ci (igSub g (.nth (i : Int)))) ∧ (¬ (k = (i : Int) ∨ k < 0) → igSub g (.nth (i : Int)) = none)
theorem ChI.keep {w w' : World} {ci : Value} {k : Int} {g : Ig} (h : ChI w ci k g) (kk : Keep w w') : ChI w' ci k g := fun i => ⟨fun hi => ((h i).1 hi).keep kk, (h i).2⟩
theorem ChI.none_of {w : World} {g : Ig} (h : ∀ i : Nat, igSub g (.nth (i : Int)) = none) : ChI w (.slice none 0 0) (-1) g := fun i => ⟨fun _ => by rw [h i]; exact ⟨none, 0, rfl⟩, fun _ => h i⟩

/-- no two arrays at the same place have different lengths (fuel: their sizes) -/
def evenF : Nat → J → J → Prop
  | 0, _, _ => True
  | n + 1, .arr l, .arr m => l.length = m.length ∧ ∀ i, i < l.length → evenF n (arrGet l i) (arrGet m i)
  | n + 1, .obj ks l, .obj ks' l' => ∀ k ∈ keysU ks ks', evenF n (look ks l k) (look ks' l' k)
  | _ + 1, _, _ => True

def DiffAt (n : Nat) : Prop := ∀ (a b : J), a.nodes + b.nodes ≤ n → a.ok → a.nofl → b.ok → b.nofl → a.nodes ≤ 1000 → b.nodes ≤ 1000 → ∀ (g : Ig), IgOk g → (g = none ∨ evenF n a b) → ∀ (va vb vg : Value) (w : World), RA w 0 a va → RA w 0 b vb → IgAt w vg g →
  Calls Try.prog 92 #[va, vb, .bool false, vg] w (DiffPost n g a b w)

theorem mem_under1' {ig : Ig} {st : Step} {f : Ig → List (List Step)} {p : List Step} (h : p ∈ under1 ig st f) : ∃ q g, p = st :: q ∧ q ∈ f g := by
  unfold under1 at h
  split at h
  · simp at h
  · obtain ⟨q, hq, rfl⟩ := List.mem_map.1 h
    exact ⟨q, _, rfl, hq⟩
theorem arrGet_lt {l : List J} {i : Nat} (h : i < l.length) : (arrGet l i).nodes < (J.arr l).nodes := by
  rw [arrGet_eq h]
  have := J.nodes_mem (List.getElem_mem h)
  simp only [J.nodes]
  omega
theorem look_ok {ks : List ByteArray} {l : List J} (h : J.oks l) (k : ByteArray) : (look ks l k).ok := look_all (p := J.ok) (by unfold J.ok; trivial) fun q hq => J.oks_get h q hq
theorem look_nofl {ks : List ByteArray} {l : List J} (h : J.nofls l) (k : ByteArray) : (look ks l k).nofl := look_all (p := J.nofl) (by unfold J.nofl; trivial) fun q hq => J.nofls_get h q hq
theorem arrGet_ok {l : List J} (h : J.oks l) {i : Nat} (hi : i < l.length) : (arrGet l i).ok := by rw [arrGet_eq hi]; exact J.oks_get h i hi
theorem arrGet_nofl {l : List J} (h : J.nofls l) {i : Nat} (hi : i < l.length) : (arrGet l i).nofl := by rw [arrGet_eq hi]; exact J.nofls_get h i hi

theorem difF_path_le : ∀ (n : Nat) (a b : J) (g : Ig), a.ok → b.ok → ∀ p ∈ difF n g a b, p.length ≤ a.nodes + b.nodes
  | 0, _, _, _, _, _, p, h => by simp [difF] at h
  | n + 1, a, b, g, ha, hb, p, h => by
    have leaf : ∀ c : Bool, p ∈ (if c then [] else [[]] : List (List Step)) → p.length ≤ a.nodes + b.nodes := by
      intro c hc
      cases c <;> simp at hc
      subst hc
      simp
    cases a <;> cases b <;> try exact leaf _ h
    · rename_i l m
      unfold J.ok at ha hb
      simp only [difF, List.mem_append] at h
      rcases h with h | h
      · obtain ⟨i, hi, h⟩ := List.mem_flatMap.1 h
        obtain ⟨q, g', rfl, hq⟩ := mem_under1' h
        simp at hi
        have h1 := difF_path_le n _ _ _ (arrGet_ok ha (by omega)) (arrGet_ok hb (by omega)) q hq
        have h2 := arrGet_lt (l := l) (i := i) (by omega)
        have h3 := arrGet_lt (l := m) (i := i) (by omega)
        simp only [List.length_cons]
        omega
      · split at h
        · simp at h
        · obtain ⟨q, g', rfl, hq⟩ := mem_under1' h
          simp at hq
          subst hq
          have := (J.arr l).nodes_pos
          simp only [List.length_cons, List.length_nil]
          omega
    · rename_i ks l ks' l'
      unfold J.ok at ha hb
      simp only [difF] at h
      obtain ⟨k, hk, h⟩ := List.mem_flatMap.1 h
      obtain ⟨q, g', rfl, hq⟩ := mem_under1' h
      have h1 := difF_path_le n _ _ _ (look_ok ha.2.2 k) (look_ok hb.2.2 k) q hq
      have h2 := look_lt ha.2.1 hb.2.1 hk
      simp only [List.length_cons]
      omega

/-- the differences of the first parts of two arrays -/
def arrPre (n : Nat) (g : Ig) (l m : List J) (k : Nat) : List (List Step) := (List.range k).flatMap fun (i : Nat) => under1 g (.nth (i : Int)) fun g' => difF n g' (arrGet l i) (arrGet m i)
theorem arrPre_succ (n : Nat) (g : Ig) (l m : List J) (k : Nat) : arrPre n g l m (k + 1) = arrPre n g l m k ++ under1 g (.nth (k : Int)) fun g' => difF n g' (arrGet l k) (arrGet m k) := by
  unfold arrPre
  rw [List.range_succ, List.flatMap_append, List.flatMap_singleton]
theorem under1_len (g : Ig) (st : Step) (f : Ig → List (List Step)) (c : Nat) (h : ∀ g', (f g').length ≤ c) : (under1 g st f).length ≤ c := by
  unfold under1
  split
  · simp
  · rw [List.length_map]; exact h _
theorem nodesL_take_succ (l : List J) (k : Nat) (h : k < l.length) : J.nodesL (l.take (k + 1)) = J.nodesL (l.take k) + (arrGet l k).nodes := by
  rw [arrGet_eq h]
  induction l generalizing k with
  | nil => simp at h
  | cons x xs ih =>
    cases k with
    | zero => simp [J.nodesL]
    | succ k =>
      have := ih k (by simpa using h)
      simp only [List.take_succ_cons, J.nodesL, List.getElem_cons_succ]
      rw [this]
      omega
theorem nodesL_take_le (l : List J) (k : Nat) : J.nodesL (l.take k) ≤ J.nodesL l := by
  induction l generalizing k with
  | nil => simp
  | cons x xs ih =>
    cases k with
    | zero => simp [J.nodesL]
    | succ k => have := ih k; simp only [List.take_succ_cons, J.nodesL]; omega

def wOf (ks : List ByteArray) (l : List J) (k : ByteArray) : Nat := if hasK ks k then (look ks l k).nodes else 0
theorem sum_wOf {ks : List ByteArray} {l : List J} (ks' : List ByteArray) (hn : ks.Nodup) (hl : ks.length = l.length) : ((keysU ks ks').map (wOf ks l)).sum = J.nodesL l := by
  unfold keysU
  rw [List.map_append, List.sum_append, ← sum_look hn hl]
  have h1 : ks.map (wOf ks l) = ks.map fun k => (look ks l k).nodes := List.map_congr_left fun k hk => by simp [wOf, hasK_iff.2 hk]
  have h2 : ((ks'.filter fun k => !hasK ks k).map (wOf ks l)).sum = 0 := by
    have : ∀ (q : List ByteArray), (∀ k ∈ q, hasK ks k = false) → (q.map (wOf ks l)).sum = 0 := by
      intro q
      induction q with
      | nil => intro _; rfl
      | cons x xs ih =>
        intro h
        rw [List.map_cons, List.sum_cons, ih (fun k hk => h k (by simp [hk]))]
        simp [wOf, h x (by simp)]
    refine this _ fun k hk => ?_
    have := (List.mem_filter.1 hk).2
    simpa using this
  rw [h1, h2]
  simp
theorem keysU_comm {a b : List ByteArray} (ha : a.Nodup) (hb : b.Nodup) : (keysU a b).Perm (keysU b a) := by
  refine (List.perm_ext_iff_of_nodup (nodup_keysU ha hb) (nodup_keysU hb ha)).2 fun k => ?_
  rw [mem_keysU, mem_keysU]
  exact Or.comm
theorem flat_len_le {α β : Type} (f : α → List β) (c : α → Nat) : ∀ (l : List α), (∀ a ∈ l, (f a).length ≤ c a) → (l.flatMap f).length ≤ (l.map c).sum
  | [], _ => by simp
  | a :: l, h => by
    have h1 := h a (by simp)
    have h2 := flat_len_le f c l (fun b hb => h b (by simp [hb]))
    rw [List.flatMap_cons, List.length_append, List.map_cons, List.sum_cons]
    omega
theorem sum_add {α : Type} (c d : α → Nat) : ∀ (l : List α), (l.map fun a => c a + d a).sum = (l.map c).sum + (l.map d).sum
  | [] => rfl
  | a :: l => by
    have := sum_add c d l
    simp only [List.map_cons, List.sum_cons]
    omega
mutual
theorem arrPre_len : ∀ (n : Nat) (g : Ig) (l m : List J), J.oks l → J.oks m → ∀ k, k ≤ l.length → k ≤ m.length → (arrPre n g l m k).length ≤ J.nodesL (l.take k) + J.nodesL (m.take k)
  | n, g, l, m, hl, hm, 0, _, _ => by simp [arrPre]
  | n, g, l, m, hl, hm, k + 1, h1, h2 => by
    have ih := arrPre_len n g l m hl hm k (by omega) (by omega)
    rw [arrPre_succ, List.length_append, nodesL_take_succ l k (by omega), nodesL_take_succ m k (by omega)]
    have := under1_len g (.nth (k : Int)) (fun g' => difF n g' (arrGet l k) (arrGet m k)) ((arrGet l k).nodes + (arrGet m k).nodes) (fun g' => by
      have := difF_len_le n (arrGet l k) (arrGet m k) g' (arrGet_ok hl (by omega)) (arrGet_ok hm (by omega))
      omega)
    omega
termination_by n g l m hl hm k => (n, k + 1)
theorem difF_len_le : ∀ (n : Nat) (a b : J) (g : Ig), a.ok → b.ok → (difF n g a b).length + 1 ≤ a.nodes + b.nodes
  | 0, a, b, _, _, _ => by have := a.nodes_pos; have := b.nodes_pos; simp [difF]; omega
  | n + 1, a, b, g, ha, hb => by
    have leaf : ∀ c : Bool, (if c then [] else [[]] : List (List Step)).length + 1 ≤ a.nodes + b.nodes := by
      intro c
      have := a.nodes_pos
      have := b.nodes_pos
      cases c <;> simp <;> omega
    cases a <;> cases b <;> try exact leaf _
    · rename_i l m
      unfold J.ok at ha hb
      have h1 := arrPre_len n g l m ha hb (min l.length m.length) (Nat.min_le_left _ _) (Nat.min_le_right _ _)
      have h2 := nodesL_take_le l (min l.length m.length)
      have h3 := nodesL_take_le m (min l.length m.length)
      have h4 : (if l.length = m.length then [] else under1 g (.nth ((min l.length m.length : Nat) : Int)) fun _ => [[]] : List (List Step)).length ≤ 1 := by
        split
        · simp
        · exact under1_len _ _ _ 1 (fun _ => by simp)
      unfold arrPre at h1
      simp only [difF, List.length_append, J.nodes]
      omega
    · rename_i ks l ks' l'
      unfold J.ok at ha hb
      simp only [difF, J.nodes]
      have h1 := flat_len_le (fun k => under1 g (.child k) fun g' => difF n g' (look ks l k) (look ks' l' k)) (fun k => wOf ks l k + wOf ks' l' k) (keysU ks ks') (fun k hk => by
        refine under1_len _ _ _ _ fun g' => ?_
        have h2 := difF_len_le n (look ks l k) (look ks' l' k) g' (look_ok ha.2.2 k) (look_ok hb.2.2 k)
        have hx : (look ks l k).nodes ≤ wOf ks l k + 1 ∧ (hasK ks k = true → (look ks l k).nodes = wOf ks l k) := by
          unfold wOf
          cases hc : hasK ks k
          · have : k ∉ ks := fun h => by rw [hasK_iff.2 h] at hc; cases hc
            rw [look_miss this]
            simp [J.nodes]
          · simp
        have hy : (look ks' l' k).nodes ≤ wOf ks' l' k + 1 ∧ (hasK ks' k = true → (look ks' l' k).nodes = wOf ks' l' k) := by
          unfold wOf
          cases hc : hasK ks' k
          · have : k ∉ ks' := fun h => by rw [hasK_iff.2 h] at hc; cases hc
            rw [look_miss this]
            simp [J.nodes]
          · simp
        rcases mem_keysU.1 hk with h | h
        · have := hx.2 (hasK_iff.2 h)
          omega
        · have := hy.2 (hasK_iff.2 h)
          omega)
      rw [sum_add, sum_wOf ks' ha.1 ha.2.1, perm_sum ((keysU_comm ha.1 hb.1).map _), sum_wOf ks hb.1 hb.2.1] at h1
      omega
termination_by n a b g ha hb => (n, 0)
end


def igIsNone : Ig → Bool
  | none => true
  | some _ => false
theorem igOk_sub {g : Ig} (h : IgOk g) (st : Step) : IgOk (igSub g st) := by
  unfold igSub
  split
  · split
    · intro n hn
      exact h n (List.mem_cons_of_mem _ hn)
    · trivial
  · trivial
end Go.Proofs.Ytikpedfggbibpaa
