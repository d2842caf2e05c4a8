/- FnFilterMatch: the roads of a filter, written with full stops; walks: clashes, roads. Walks: grown. Walks: roads. A drawn region: what is held of the world may hang on what has come up already. No program in sight. -/
import Derived.Test.YtikpedfggbibpaaZ42
import Derived.Test.YtikpedfggbibpaaZ41
import Derived.Deep.RegionHeld3
namespace Go.Proofs.Ytikpedfggbibpaa
open Go.RowKit Go.Lib
set_option linter.unusedVariables false
set_option linter.unusedSimpArgs false

/-! ### plain -/
/-- neither text begins with the other -/
def NoPre (a b : ByteArray) : Prop := ¬ (a.data.toList <+: b.data.toList) ∧ ¬ (b.data.toList <+: a.data.toList)
theorem NoPre.symm {a b : ByteArray} (h : NoPre a b) : NoPre b a := ⟨h.2, h.1⟩
mutual
/-- the roads of the leaves -/
def RD : J → ByteArray → List ByteArray
  | .obj ks l, a => RDs ks l a
  | _, a => [a]
def RDs : List ByteArray → List J → ByteArray → List ByteArray
  | k :: ks, x :: xs, a => RD x (a ++ k ++ dotS) ++ RDs ks xs a
  | _, _, _ => []
end
/-- the parts of a path, each with a full stop behind it -/
def dotted (q : Pth) : List UInt8 := q.flatMap fun k => k.data.toList ++ [46]
theorem dotted_append (p q : Pth) : dotted (p ++ q) = dotted p ++ dotted q := by simp [dotted]
theorem splitL_dotted : ∀ (l : List UInt8), ((splitL l).map toB).flatMap (fun k => k.data.toList ++ [46]) = l ++ [46]
  | [] => by simp [splitL, toB]
  | c :: r => by
    have ih := splitL_dotted r
    unfold splitL
    split
    · next h => subst h; simp only [List.map_cons, List.flatMap_cons, ih]; simp [toB]
    · split
      · next h t e => rw [e] at ih; simp only [List.map_cons, List.flatMap_cons] at ih ⊢; simp only [toB, List.cons_append] at ih ⊢; simpa using ih
      · next e => exact absurd e (splitL_ne r)
theorem dotted_kcut (k : ByteArray) : dotted (kcut k) = k.data.toList ++ [46] := splitL_dotted _
/-- of parts without full stops -/
def Dotless (q : Pth) : Prop := ∀ k ∈ q, ∀ c ∈ k.data.toList, c ≠ 46
theorem Dotless.kcut (k : ByteArray) : Dotless (kcut k) := by
  intro p hp c hc
  unfold Ytikpedfggbibpaa.kcut at hp
  obtain ⟨l, hl, rfl⟩ := List.mem_map.1 hp
  exact splitL_nodot _ l hl c (by simpa [toB] using hc)
theorem Dotless.append {p q : Pth} (hp : Dotless p) (hq : Dotless q) : Dotless (p ++ q) := fun k hk => (List.mem_append.1 hk).elim (hp k) (hq k)
theorem LV.dotless {f : J} {q : Pth} {x : J} (h : LV f q x) : Dotless q := by
  induction h with
  | leaf c hc => intro k hk; simp at hk
  | obj ks l i k y r x h1 h2 h3 ih => exact (Dotless.kcut k).append ih
/-- a first part ends where the first full stop stands -/
theorem seg_prefix : ∀ (a b x y : List UInt8), (∀ c ∈ a, c ≠ 46) → (∀ c ∈ b, c ≠ 46) → (a ++ 46 :: x) <+: (b ++ 46 :: y) → a = b ∧ x <+: y
  | [], [], x, y, _, _, h => by
    rw [List.nil_append, List.nil_append, List.cons_prefix_cons] at h
    exact ⟨rfl, h.2⟩
  | [], c :: b, x, y, _, hb, h => by
    rw [List.nil_append, List.cons_append, List.cons_prefix_cons] at h
    exact absurd h.1.symm (hb c (by simp))
  | c :: a, [], x, y, ha, _, h => by
    rw [List.nil_append, List.cons_append, List.cons_prefix_cons] at h
    exact absurd h.1 (ha c (by simp))
  | c :: a, d :: b, x, y, ha, hb, h => by
    rw [List.cons_append, List.cons_append, List.cons_prefix_cons] at h
    have := seg_prefix a b x y (fun c hc => ha c (by simp [hc])) (fun c hc => hb c (by simp [hc])) h.2
    exact ⟨by rw [h.1, this.1], this.2⟩
theorem toL_inj2 {a b : ByteArray} (h : a.data.toList = b.data.toList) : a = b := toL_inj h
theorem dotted_prefix : ∀ (p q : Pth), Dotless p → Dotless q → dotted p <+: dotted q → ∃ r, q = p ++ r
  | [], q, _, _, _ => ⟨q, rfl⟩
  | k :: p, [], _, _, h => by
    simp [dotted] at h
  | k :: p, k' :: q, hp, hq, h => by
    simp only [dotted, List.flatMap_cons, List.append_assoc, List.singleton_append] at h
    obtain ⟨h1, h2⟩ := seg_prefix _ _ _ _ (hp k (by simp)) (hq k' (by simp)) h
    obtain ⟨r, e⟩ := dotted_prefix p q (fun k hk => hp k (by simp [hk])) (fun k hk => hq k (by simp [hk])) h2
    exact ⟨r, by rw [toL_inj2 h1, e]; rfl⟩
theorem Apart.dots {p q : Pth} (h : Apart p q) (hp : Dotless p) (hq : Dotless q) (a : List UInt8) : ¬ (a ++ dotted p <+: a ++ dotted q) ∧ ¬ (a ++ dotted q <+: a ++ dotted p) := by
  rw [List.prefix_append_right_inj, List.prefix_append_right_inj]
  exact ⟨fun e => h.1 (dotted_prefix p q hp hq e), fun e => h.2 (dotted_prefix q p hq hp e)⟩
theorem dotS_list : dotS.data.toList = [46] := rfl
theorem ahead_list (a k : ByteArray) : (a ++ k ++ dotS).data.toList = a.data.toList ++ dotted (kcut k) := by
  rw [dotted_kcut, ByteArray.data_append, ByteArray.data_append]
  simp [dotS]
/-- a road is a leaf's path -/
theorem RD_mem {f : J} (h : GoodF f) : ∀ (a t : ByteArray), t ∈ RD f a → ∃ q x, LV f q x ∧ t.data.toList = a.data.toList ++ dotted q := by
  induction h with
  | leaf c hc =>
    intro a t ht
    have : RD c a = [a] := by cases c <;> first | rfl | cases hc
    rw [this] at ht
    rw [List.mem_singleton.1 ht]
    exact ⟨[], c, LV.leaf c hc, by simp [dotted]⟩
  | obj ks l h1 h2 h3 h4 h5 ih =>
    intro a t ht
    have : RD (.obj ks l) a = RDs ks l a := by unfold RD; rfl
    rw [this] at ht
    have key : ∀ (ks' : List ByteArray) (l' : List J), (∀ (i : Nat) (k : ByteArray), ks'[i]? = some k → ∃ j : Nat, ks[j]? = some k ∧ ∀ y : J, l'[i]? = some y → l[j]? = some y) → t ∈ RDs ks' l' a → ∃ q x, LV (.obj ks l) q x ∧ t.data.toList = a.data.toList ++ dotted q := by
      intro ks'
      induction ks' with
      | nil => intro l' _ ht; unfold RDs at ht; simp at ht
      | cons k ks' ih2 =>
        intro l' hin ht
        cases l' with
        | nil => unfold RDs at ht; simp at ht
        | cons x xs =>
          unfold RDs at ht
          rcases List.mem_append.1 ht with ht | ht
          · obtain ⟨j, hj, hy⟩ := hin 0 k (by simp)
            obtain ⟨q, y, hq, e⟩ := ih j x (hy x (by simp)) _ t ht
            exact ⟨_, y, LV.obj ks l j k x q y hj (hy x (by simp)) hq, by rw [e, ahead_list, dotted_append, List.append_assoc]⟩
          · exact ih2 xs (fun i k' hk' => by
              obtain ⟨j, hj, hy⟩ := hin (i + 1) k' (by simpa using hk')
              exact ⟨j, hj, fun y e => hy y (by simpa using e)⟩) ht
    exact key ks l (fun i k hk => ⟨i, hk, fun y hy => hy⟩) ht
/-- the roads of a good filter: none begins another one -/
theorem RD_pair {f : J} (h : GoodF f) : ∀ (a : ByteArray), (RD f a).Pairwise NoPre := by
  induction h with
  | leaf c hc =>
    intro a
    have : RD c a = [a] := by cases c <;> first | rfl | cases hc
    rw [this]
    exact List.pairwise_singleton _ _
  | obj ks l h1 h2 h3 h4 h5 ih =>
    intro a
    have : RD (.obj ks l) a = RDs ks l a := by unfold RD; rfl
    rw [this]
    have key : ∀ (m : Nat), m ≤ ks.length → (RDs (ks.drop m) (l.drop m) a).Pairwise NoPre ∧ ∀ t ∈ RDs (ks.drop m) (l.drop m) a, ∃ (i : Nat) (k : ByteArray) (y : J) (q : Pth) (x : J), m ≤ i ∧ ks[i]? = some k ∧ l[i]? = some y ∧ LV y q x ∧ t.data.toList = a.data.toList ++ dotted (kcut k ++ q) := by
      intro m hm
      induction hd : ks.length - m generalizing m with
      | zero =>
        have : ks.drop m = [] := List.drop_eq_nil_of_le (by omega)
        rw [this]
        unfold RDs
        exact ⟨List.Pairwise.nil, fun t ht => by simp at ht⟩
      | succ n ihn =>
        have hmk : m < ks.length := by omega
        have hml : m < l.length := by omega
        obtain ⟨p1, p2⟩ := ihn (m + 1) (by omega) (by omega)
        rw [List.drop_eq_getElem_cons hmk, List.drop_eq_getElem_cons hml]
        unfold RDs
        have e1 : l[m]? = some l[m] := List.getElem?_eq_getElem hml
        have e2 : ks[m]? = some ks[m] := List.getElem?_eq_getElem hmk
        have hfst : ∀ t ∈ RD l[m] (a ++ ks[m] ++ dotS), ∃ q x, LV l[m] q x ∧ t.data.toList = a.data.toList ++ dotted (kcut ks[m] ++ q) := fun t ht => by
          obtain ⟨q, x, hq, e⟩ := RD_mem (h4 m _ e1) _ t ht
          exact ⟨q, x, hq, by rw [e, ahead_list, dotted_append, List.append_assoc]⟩
        refine ⟨List.pairwise_append.2 ⟨ih m _ e1 _, p1, fun t ht t' ht' => ?_⟩, fun t ht => ?_⟩
        · obtain ⟨q, x, hq, e⟩ := hfst t ht
          obtain ⟨i, k, y, q', x', g1, g2, g3, g4, g5⟩ := p2 t' ht'
          have := h5 m i ks[m] k l[m] y (by omega) e2 g2 e1 g3 q x q' x' hq g4
          unfold NoPre
          rw [e, g5]
          exact this.dots ((Dotless.kcut _).append hq.dotless) ((Dotless.kcut _).append g4.dotless) _
        · rcases List.mem_append.1 ht with ht | ht
          · obtain ⟨q, x, hq, e⟩ := hfst t ht
            exact ⟨m, _, _, q, x, Nat.le_refl _, e2, e1, hq, e⟩
          · obtain ⟨i, k, y, q', x', g1, g2, g3, g4, g5⟩ := p2 t ht
            exact ⟨i, k, y, q', x', by omega, g2, g3, g4, g5⟩
    have := (key 0 (Nat.zero_le _)).1
    simpa using this
theorem RD_ne {f : J} (h : GoodF f) : ∀ (a : ByteArray), RD f a ≠ [] := by
  induction h with
  | leaf c hc =>
    intro a
    have : RD c a = [a] := by cases c <;> first | rfl | cases hc
    rw [this]
    simp
  | obj ks l h1 h2 h3 h4 h5 ih =>
    intro a
    have : RD (.obj ks l) a = RDs ks l a := by unfold RD; rfl
    rw [this]
    cases ks with
    | nil => exact absurd rfl h3
    | cons k ks =>
      cases l with
      | nil => simp at h2
      | cons x xs =>
        unfold RDs
        have := ih 0 x (by simp) (a ++ k ++ dotS)
        simp [this]
mutual
theorem RD_len : ∀ (f : J) (a : ByteArray), (RD f a).length ≤ f.nodes
  | .null, a => by simp [RD, J.nodes]
  | .bool b, a => by simp [RD, J.nodes]
  | .int n, a => by simp [RD, J.nodes]
  | .flt b, a => by simp [RD, J.nodes]
  | .str s, a => by simp [RD, J.nodes]
  | .arr l, a => by simp [RD, J.nodes]
  | .obj ks l, a => by have := RDs_len ks l a; simp only [RD, J.nodes]; omega
theorem RDs_len : ∀ (ks : List ByteArray) (l : List J) (a : ByteArray), (RDs ks l a).length ≤ J.nodesL l
  | [], l, a => by unfold RDs; simp
  | k :: ks, [], a => by unfold RDs; simp
  | k :: ks, x :: xs, a => by
    have h1 := RD_len x (a ++ k ++ dotS)
    have h2 := RDs_len ks xs a
    unfold RDs
    simp only [List.length_append, J.nodesL]
    omega
end
theorem RDs_succ : ∀ (ks : List ByteArray) (l : List J) (a : ByteArray) (m : Nat) (k : ByteArray) (x : J), ks[m]? = some k → l[m]? = some x → RDs (ks.take (m + 1)) (l.take (m + 1)) a = RDs (ks.take m) (l.take m) a ++ RD x (a ++ k ++ dotS)
  | k :: ks, x :: xs, a, 0, _, _, h1, h2 => by
    simp at h1 h2
    subst h1; subst h2
    simp only [List.take_succ_cons, List.take_zero, RDs]
    simp
  | k :: ks, x :: xs, a, m + 1, k', x', h1, h2 => by
    have := RDs_succ ks xs a m k' x' (by simpa using h1) (by simpa using h2)
    simp only [List.take_succ_cons, RDs]
    rw [this, List.append_assoc]
  | [], _, _, _, _, _, h1, _ => by simp at h1
  | _ :: _, [], _, _, _, _, _, h2 => by simp at h2

/-! ### clashes -/
theorem grown_ext {a b c : World} {row : Option Nat} (h : a.grownBy b row) (k : Ext b c) : a.grownBy c row := ⟨k.os.trans h.os, k.tape.trans h.tape, k.output.trans h.output, Nat.le_trans h.size k.size, fun i hi hne => (k.block i (Nat.lt_of_lt_of_le hi h.size)).trans (h.block i hi hne)⟩
set_option maxHeartbeats 1000000 in
theorem clashes_any (base : Nat) (v : Value) (ks : List ByteArray) (w : World) (ho : OwnStrs w base v ks) (hn : ks.length * 16 ≤ reachN) (hp : ks.Pairwise NoPre) :
    Calls Try.prog 53 #[v] w fun e w' => e = .returned (.bool false) ∧ w.grownBy w' v.ownBlock := by
  have hp2 : (sortK ks).Pairwise NoPre := ((sortK_perm ks).pairwise_iff fun h => NoPre.symm h).2 hp
  have HP := Lib.hid hp2
  have HO := Lib.hid ho
  have HN := Lib.hid hn
  have hn' : ks.length ≤ 140737488351232 := by unfold reachN at hn; omega
  have hsl := sortK_length ks
  have HS := Lib.hid hsl
  have hlt := ho.lt
  have HLT := Lib.hid hlt
  have hsh : ∃ a c, v = .slice a ks.length c := by
    unfold OwnStrs at ho
    rcases ho.2 with ⟨rfl, h0⟩ | ⟨g, cap, cur, rfl, _⟩
    · exact ⟨none, 0, by rw [h0]⟩
    · exact ⟨_, _, rfl⟩
  obtain ⟨a, c, rfl⟩ := hsh
  clear hp hp2 ho hn hsl hlt
  go_enter Try.func53, Try.ntmps53
  go_wp2_with fail
  refine (sort_strs base _ ks w HO.out HN.out).mono ?_
  rintro e w2 ⟨rfl, ho2, hg2⟩
  have HG := Lib.hid hg2
  have hcell : ks.length ≠ 0 → ∃ g, a = some ⟨g, 0, none⟩ ∧ ∀ j, (h : j < (sortK ks).length) → w2.cell? ⟨g, j, none⟩ = some (.string (sortK ks)[j]) := fun h0 => by
    unfold OwnStrs at ho2
    rw [HS.out] at ho2
    rcases ho2.2 with ⟨h1, h2⟩ | ⟨g, cap, cur, h1, _⟩
    · exact absurd h2 h0
    · simp only [Value.slice.injEq] at h1
      obtain ⟨rfl, _, rfl⟩ := h1
      refine ⟨g, rfl, fun j h => ?_⟩
      have := ho2.cellAt j (by rw [HS.out] at h; omega)
      rw [this]
      simp
  have HCell := Lib.hid hcell
  clear ho2 hg2 hcell
  go_wp2
  go_loopw [3] (fun i wr => ∃ j : Nat, 1 ≤ j ∧ i = .int .i64 j ∧ Ext w2 wr) (fun i _ => ks.length - (intOf i).toNat)
  case atStart => exact ⟨1, Nat.le_refl _, rfl, Ext.refl _⟩
  case round =>
    obtain ⟨j, hj1, rfl, hb⟩ := hrel
    have HB := Lib.hid hb
    clear hb
    by_cases hlt : j < ks.length
    · obtain ⟨g, rfl, hc⟩ := HCell.out (by omega)
      have hj3 : j < (sortK ks).length := by rw [HS.out]; exact hlt
      have c1 := HB.out.keep _ _ (hc j hj3)
      have c2 := HB.out.keep _ _ (hc (j - 1) (by omega))
      have hpre : Lib.hasPrefix (sortK ks)[j].data.toList (sortK ks)[j - 1].data.toList = false := by
        have := (List.pairwise_iff_getElem.1 HP.out (j - 1) j (by omega) hj3 (by omega)).1
        rw [← Bool.not_eq_true]
        intro e
        unfold Lib.hasPrefix at e
        exact this (List.isPrefixOf_iff_prefix.1 e)
      have HPRE := Lib.hid hpre
      obtain ⟨p, hp⟩ : ∃ p, p = (sortK ks)[j] := ⟨_, rfl⟩
      obtain ⟨q, hq⟩ : ∃ q, q = (sortK ks)[j - 1] := ⟨_, rfl⟩
      rw [← hp] at c1 HPRE
      rw [← hq] at c2 HPRE
      have i0 : (0 : Int) ≤ (j : Int) - 1 := by omega
      have i1 : (j : Int) - 1 < (ks.length : Int) := by omega
      have i2 : ((j : Int) - 1).toNat = j - 1 := by omega
      have HC : Hid (∀ w1, Calls Try.prog 86 #[.string p, .string q] w1 fun e w' => e = .returned (.bool false) ∧ w' = w1) := fun w1 => (Try.strings_HasPrefix p q w1).mono fun e w' ⟨h1, h2⟩ => ⟨by rw [h1, HPRE.out], h2⟩
      clear hp hq hc hpre HPRE
      go_wp2_with fail
      go_quiet ((go_at_call 86; exact Calls.quiet_of_same (HC.out _)))
      go_wp2
      go_roundw
      case rel => exact ⟨j + 1, by omega, by go_num, HB.out.drewN _⟩
      case measure => simp [intOf]; omega
    · clear HCell
      go_wp2
      go_ret
      exact ⟨rfl, grown_ext HG.out HB.out⟩
end Go.Proofs.Ytikpedfggbibpaa
namespace Go.Proofs.Ytikpedfggbibpaa
open Go.RowKit Go.Lib
set_option linter.unusedVariables false
set_option linter.unusedSimpArgs false

def V.zero : V := .mk 0 0 0 ByteArray.empty [] []
/-- a tree, or none as yet -/
def V.ofO : Option J → V
  | none => V.zero
  | some j => V.ofJ j
theorem RV.zero (w : World) : RV w V.zero zVal := by
  unfold V.zero RV
  exact ⟨none, 0, none, 0, rfl, ⟨rfl, rfl, rfl, by unfold reachN; decide, Nat.le_refl _, by unfold reachN; decide, Nat.le_refl _, by unfold reachN; decide, by simp⟩, fun h => absurd rfl h, fun h => absurd rfl h⟩

/-- what grown leaves; the tree reads in every later world in which what was read (in w0) and what is new (since w) stand -/
def GrPost (o : Option J) (K : Pth) (x : J) (w0 w : World) (e : Ending) (w' : World) : Prop :=
  ∃ m1 m2 m3 m4 m5 m6 m7 m8 m9 m10, e = .returned (.tuple #[.agg #[.int .i64 m1, .int .i64 m2, .float .f64 m3, .string m4, .slice m5 m6 m7, .slice m8 m9 m10], .bool (growJ o K x).isSome]) ∧
    (∀ T, growJ o K x = some T → ∀ w'', Keep w0 w'' → KeepF w.heap.size w' w'' → RV w'' (V.ofJ T) (.agg #[.int .i64 m1, .int .i64 m2, .float .f64 m3, .string m4, .slice m5 m6 m7, .slice m8 m9 m10])) ∧ Ext w w'

def eVal (kd : Int) : Value := .agg #[.int .i64 kd, .int .i64 0, .float .f64 0, .string ByteArray.empty, .slice none 0 0, .slice none 0 0]
def GrAt (K : Pth) : Prop := ∀ (o : Option J) (x : J), (∀ j, o = some j → j.nodes ≤ 5000 ∧ ∃ E, TreeOf E j ∧ ∃ p x, E p x) → ∀ (vo vx : Value) (a : Option Addr) (c : Nat) (w0 w : World), Keep w0 w → (∀ j, o = some j → RV w0 (V.ofJ j) vo) → (o = none → vo = eVal 0 ∨ (vo = eVal 8 ∧ K ≠ [])) → RV w0 (V.ofJ x) vx → KS w a K → K.length ≤ c → K.length ≤ 1000 → (∀ k ∈ K, k.size ≤ 1000) →
  Calls Try.prog 50 #[vo, .slice a K.length c, vx] w (GrPost o K x w0 w)

theorem heaps3' (w : World) (A Z C : Obj) : ∃ w3, w3 = (((w.alloc A).alloc Z).alloc C) ∧ w3.heap[w.heap.size]? = some A ∧ w3.heap[w.heap.size + 1]? = some Z ∧ w3.heap[w.heap.size + 1 + 1]? = some C ∧ w3.heap.size = w.heap.size + 1 + 1 + 1 ∧ Ext w w3 :=
  ⟨_, rfl, (heaps3 w A Z C).1, (heaps3 w A Z C).2.1, (heaps3 w A Z C).2.2, by simp, (((Ext.refl w).alloc _).alloc _).alloc _⟩

theorem growJ_nil (o : Option J) (x : J) : growJ o [] x = if o.isSome then none else some x := by
  cases o <;> rfl

theorem V.ofO_kind (o : Option J) : ((V.ofO o).kind = 0 ↔ o = none) := by
  cases o with
  | none => simp [V.ofO, V.zero, V.kind]
  | some j => cases j <;> simp [V.ofO, V.ofJ, V.kind]

set_option maxRecDepth 20000 in
set_option maxHeartbeats 4000000 in
theorem grown_nil : GrAt [] := by
  intro o x ho vo vx a c w0 w hK hv1 hv2 hvx hk hc hK1 hks
  have hvo : RV w0 (V.ofO o) vo := by
    cases o with
    | some j => exact hv1 j rfl
    | none =>
      rcases hv2 rfl with rfl | ⟨_, h⟩
      · exact RV.zero w0
      · exact absurd rfl h
  clear hv1 hv2
  obtain ⟨oal, olc, oak, okc, rfl⟩ := hvo.six
  obtain ⟨xal, xlc, xak, xkc, rfl⟩ := hvx.six
  have HO := Lib.hid (V.ofO_kind o)
  have HG := Lib.hid (growJ_nil o x)
  have HX := Lib.hid hvx
  have HK := Lib.hid hK
  have hkd : ((V.ofO o).kind == 0) = (growJ o [] x).isSome := by
    rw [HG.out, Bool.eq_iff_iff, beq_iff_eq, HO.out]
    cases o <;> simp
  have HKD := Lib.hid hkd
  clear hvo hvx hk ho hks hkd hc hK
  generalize (V.ofO o).kind = kd at *
  obtain ⟨w3, e3, b0, b1, b2, bs, X3⟩ := heaps3' w (.cells #[.int .i64 kd, .int .i64 (V.ofO o).n, .float .f64 (V.ofO o).f, .string (V.ofO o).s, .slice oal (V.ofO o).l.length olc, .slice oak (V.ofO o).keys.length okc] 26 (0, 0))
    (.cells #[.int .i64 (V.ofJ x).kind, .int .i64 (V.ofJ x).n, .float .f64 (V.ofJ x).f, .string (V.ofJ x).s, .slice xal (V.ofJ x).l.length xlc, .slice xak (V.ofJ x).keys.length xkc] 26 (0, 0))
    (.cells #[.int .i64 0, .int .i64 0, .float .f64 0, .string { data := #[] }, .slice none 0 0, .slice none 0 0] 26 (0, 0))
  go_enter Try.func50, Try.ntmps50
  go_wp2_with fail
  rw [← e3]
  clear e3
  have q0 : w3.cell? ⟨w.heap.size, 0, none⟩ = some (.int .i64 kd) := (cell_of_row _ _ _ _ _ _ b0).trans rfl
  have x0 : w3.cell? ⟨w.heap.size + 1, 0, none⟩ = some (.int .i64 (V.ofJ x).kind) := (cell_of_row _ _ _ _ _ _ b1).trans rfl
  have x1 : w3.cell? ⟨w.heap.size + 1, 1, none⟩ = some (.int .i64 (V.ofJ x).n) := (cell_of_row _ _ _ _ _ _ b1).trans rfl
  have x2 : w3.cell? ⟨w.heap.size + 1, 2, none⟩ = some (.float .f64 (V.ofJ x).f) := (cell_of_row _ _ _ _ _ _ b1).trans rfl
  have x3 : w3.cell? ⟨w.heap.size + 1, 3, none⟩ = some (.string (V.ofJ x).s) := (cell_of_row _ _ _ _ _ _ b1).trans rfl
  have x4 : w3.cell? ⟨w.heap.size + 1, 4, none⟩ = some (.slice xal (V.ofJ x).l.length xlc) := (cell_of_row _ _ _ _ _ _ b1).trans rfl
  have x5 : w3.cell? ⟨w.heap.size + 1, 5, none⟩ = some (.slice xak (V.ofJ x).keys.length xkc) := (cell_of_row _ _ _ _ _ _ b1).trans rfl
  obtain ⟨⟨p0, p1, p2⟩, ⟨p3, p4, p5⟩, ⟨p6, p7, p8⟩, ⟨p9, p10, p11⟩, ⟨p12, p13, p14⟩, ⟨p15, p16, p17⟩⟩ := six_stores b2 (.int .i64 (V.ofJ x).kind) (.int .i64 (V.ofJ x).n) (.float .f64 (V.ofJ x).f) (.string (V.ofJ x).s) (.slice xal (V.ofJ x).l.length xlc) (.slice xak (V.ofJ x).keys.length xkc)
  have hneA : w.heap.size ≠ w.heap.size + 1 + 1 := by omega
  have hneX : w.heap.size + 1 ≠ w.heap.size + 1 + 1 := by omega
  have B2 := Lib.hid b2
  clear b0 b1 b2
  go_region_held3 (fun w' => w'.cell? ⟨w.heap.size, 0, none⟩ = some (.int .i64 kd) ∧ w'.cell? ⟨w.heap.size + 1, 0, none⟩ = some (.int .i64 (V.ofJ x).kind) ∧ w'.cell? ⟨w.heap.size + 1, 1, none⟩ = some (.int .i64 (V.ofJ x).n) ∧ w'.cell? ⟨w.heap.size + 1, 2, none⟩ = some (.float .f64 (V.ofJ x).f) ∧ w'.cell? ⟨w.heap.size + 1, 3, none⟩ = some (.string (V.ofJ x).s) ∧ w'.cell? ⟨w.heap.size + 1, 4, none⟩ = some (.slice xal (V.ofJ x).l.length xlc) ∧ w'.cell? ⟨w.heap.size + 1, 5, none⟩ = some (.slice xak (V.ofJ x).keys.length xkc))
    (first
      | (go_split_ands
         exact ⟨(cell_setRow_other _ _ _ _ hneA).trans q0, (cell_setRow_other _ _ _ _ hneX).trans x0, (cell_setRow_other _ _ _ _ hneX).trans x1, (cell_setRow_other _ _ _ _ hneX).trans x2, (cell_setRow_other _ _ _ _ hneX).trans x3, (cell_setRow_other _ _ _ _ hneX).trans x4, (cell_setRow_other _ _ _ _ hneX).trans x5⟩)
      | go_keep)
    (first
      | fail)
  go_wp2_with fail
  refine bodyPost_ret (results_row_tmp rfl _ _ (w.heap.size + 1 + 1) 26 _ _ _ rfl (setRow_heap _ _ _ _ _ _ B2.out) Try.underlying26 rfl (by kernel_rfl)) rfl ?_
  have EF := below_setRow X3 (g := w.heap.size + 1 + 1) (by omega) #[.int .i64 (V.ofJ x).kind, .int .i64 (V.ofJ x).n, .float .f64 (V.ofJ x).f, .string (V.ofJ x).s, .slice xal (V.ofJ x).l.length xlc, .slice xak (V.ofJ x).keys.length xkc]
  refine ⟨_, _, _, _, _, _, _, _, _, _, (congrArg (fun b => Ending.returned (.tuple #[_, .bool b])) HKD.out : _), fun T hT w2 k1 k2 => ?_, Ext.drew EF⟩
  rw [HG.out] at hT
  cases o with
  | some j => simp at hT
  | none =>
    simp at hT
    subst hT
    exact RV.keep k1 _ HX.out

set_option maxRecDepth 20000 in
set_option maxHeartbeats 4000000 in
theorem grown_bad (K : Pth) (hKn : K ≠ []) (o : Option J) (x : J) (hkd0 : (V.ofO o).kind ≠ 0) (hkd8 : (V.ofO o).kind ≠ 8) (hg : growJ o K x = none) (vo vx : Value) (a : Option Addr) (c : Nat) (w0 w : World) (hvo : RV w0 (V.ofO o) vo) (hvx : RV w0 (V.ofJ x) vx) (hK1 : K.length ≤ 1000) :
    Calls Try.prog 50 #[vo, .slice a K.length c, vx] w (GrPost o K x w0 w) := by
  obtain ⟨oal, olc, oak, okc, rfl⟩ := hvo.six
  obtain ⟨xal, xlc, xak, xkc, rfl⟩ := hvx.six
  have HG := Lib.hid hg
  have n1 : ((V.ofO o).kind != 0) = true := by simpa using hkd0
  have n2 : ((V.ofO o).kind != 8) = true := by simpa using hkd8
  have hlen : 0 < K.length := List.length_pos_iff.2 hKn
  have hlen1 : ((K.length : Int) == 0) = false := by simp; omega
  have hlen2 : ¬ K.length = 0 := by omega
  have hlen3 : ¬ K = [] := hKn
  clear hvo hvx hg
  generalize (V.ofO o).kind = kd at *
  obtain ⟨w3, e3, b0, b1, b2, bs, X3⟩ := heaps3' w (.cells #[.int .i64 kd, .int .i64 (V.ofO o).n, .float .f64 (V.ofO o).f, .string (V.ofO o).s, .slice oal (V.ofO o).l.length olc, .slice oak (V.ofO o).keys.length okc] 26 (0, 0))
    (.cells #[.int .i64 (V.ofJ x).kind, .int .i64 (V.ofJ x).n, .float .f64 (V.ofJ x).f, .string (V.ofJ x).s, .slice xal (V.ofJ x).l.length xlc, .slice xak (V.ofJ x).keys.length xkc] 26 (0, 0))
    (.cells #[.int .i64 0, .int .i64 0, .float .f64 0, .string { data := #[] }, .slice none 0 0, .slice none 0 0] 26 (0, 0))
  clear e3 b0 b1 b2 bs X3
  go_enter Try.func50, Try.ntmps50
  go_wp2_with fail
  refine bodyPost_ret (results_row_tmp rfl _ _ (w.heap.size + 1 + 1) 26 _ _ _ rfl (heaps3 _ _ _ _).2.2 Try.underlying26 rfl (by kernel_rfl)) rfl ?_
  refine ⟨_, _, _, _, _, _, _, _, _, _, (congrArg (fun b => Ending.returned (.tuple #[_, .bool b])) (by rw [HG.out]; rfl) : _), fun T hT w2 k1 k2 => ?_, (((Ext.refl _).alloc _).alloc _).alloc _⟩
  rw [HG.out] at hT
  cases hT


theorem RV.parts {w : World} {x : V} {v : Value} (h : RV w x v) : ∃ al lc ak kc, v = .agg #[.int .i64 x.kind, .int .i64 x.n, .float .f64 x.f, .string x.s, .slice al x.l.length lc, .slice ak x.keys.length kc] ∧ Szs x.kind x.n x.f x.s x.l.length lc x.keys.length kc x.keys ∧ (x.l ≠ [] → ∃ b o, al = some ⟨b, o, none⟩ ∧ RVs w b o x.l) ∧ KS w ak x.keys := by
  cases x
  unfold RV at h
  exact h
theorem clone_es0 (al : Option Addr) (lc n : Nat) (es : List V6) (w : World) (hn : es.length = n) (h88 : n * 88 ≤ reachN) (hc : n = 0 → al = none) (hcs : n ≠ 0 → ∃ b o, al = some ⟨b, o, none⟩ ∧ ∀ j u, (es.flatMap V6.cells)[j]? = some u → w.cell? ⟨b, o + j, none⟩ = some u) (h1 : ∀ u ∈ es.flatMap V6.cells, u.oneCell' = true) :
    Calls Try.prog 43 #[.slice al n lc] w fun e w' => ∃ v', e = .returned v' ∧ w'.ownsRow w.heap.size 26 6 v' n (es.flatMap V6.cells) ∧ Ext w w' := by
  by_cases h0 : n = 0
  · rw [hc h0]
    subst h0
    have : es = [] := List.length_eq_zero_iff.1 hn
    subst this
    exact (AnyE.slices_Clone_nil Try.laysCloneV 0 lc w).mono fun e w' ⟨he, hw⟩ => ⟨_, he, World.ownsRow_nil _ _ _ _, by rw [hw]; exact Ext.refl _⟩
  · obtain ⟨b, o, rfl, h⟩ := hcs h0
    exact (clone_es b o lc n es w hn h88 h h1).mono fun e w' ⟨v', he, ho, _, hx⟩ => ⟨v', he, ho, hx⟩

theorem own_sh {w : World} {base e size n : Nat} {v : Value} {xs : List Value} (h : w.ownsRow base e size v n xs) : ∃ a c, v = .slice a n c ∧ n ≤ c := by
  rcases h.2 with ⟨rfl, rfl⟩ | ⟨g, cap, cur, rfl, hb, hh, hc, rest⟩
  · exact ⟨none, 0, rfl, Nat.le_refl _⟩
  · exact ⟨_, cap, rfl, hc⟩

theorem row_mono {w : World} {base base' e size n : Nat} {v : Value} {xs : List Value} (h : w.ownsRow base e size v n xs) (hb : base' ≤ base) : w.ownsRow base' e size v n xs := by
  refine ⟨h.1, ?_⟩
  rcases h.2 with h | ⟨g, cap, cur, h1, h2, r⟩
  · exact Or.inl h
  · exact Or.inr ⟨g, cap, cur, h1, by omega, r⟩
/-- what stands ahead of the recursive call: the parts, the place, what lies there -/
def MidG (o : Option J) (k : ByteArray) (r : Pth) (x : J) (w0 : World) (i : Nat) (L : List V) (ks : List ByteArray) (es : List V6) : Prop :=
  es.length = L.length ∧ (∀ j, (h : j < L.length) → (h' : j < es.length) → RV w0 L[j] es[j].val) ∧ i < L.length ∧ L.length ≤ 5001 ∧ ks.length ≤ 5001 ∧ (∀ x ∈ ks, x.size ≤ reachN) ∧
  ∃ (o' : Option J) (F : J → J), (∀ j, o' = some j → (j.nodes ≤ 5000 ∧ ∃ E, TreeOf E j ∧ ∃ p x, E p x) ∧ L[i]? = some (V.ofJ j)) ∧ (o' = none → ∀ h : i < es.length, es[i].val = eVal 0) ∧
    growJ o (k :: r) x = (growJ o' r x).map F ∧ ∀ y, V.ofJ (F y) = .mk 8 0 0 ByteArray.empty (L.set i (V.ofJ y)) ks
theorem ofJ_obj (ks : List ByteArray) (l : List J) : V.ofJ (.obj ks l) = .mk 8 0 0 ByteArray.empty (V.ofJs l) ks := by
  unfold V.ofJ
  rfl
theorem ofJs_set : ∀ (l : List J) (i : Nat) (y : J), V.ofJs (l.set i y) = (V.ofJs l).set i (V.ofJ y)
  | [], _, _ => by simp [V.ofJs]
  | x :: xs, 0, y => by simp [V.ofJs]
  | x :: xs, i + 1, y => by simp [V.ofJs, ofJs_set xs i y]
theorem ofJs_snoc (l : List J) (y : J) (z : V) : V.ofJs (l ++ [y]) = (V.ofJs l ++ [z]).set l.length (V.ofJ y) := by
  induction l with
  | nil => simp [V.ofJs]
  | cons x xs ih => simp [V.ofJs, ih]
theorem midG_hit {o : Option J} {k : ByteArray} {r : Pth} {x : J} {w0 : World} {ks : List ByteArray} {l : List J} {es : List V6} {i : Nat} (hi : idxK ks k = some i) (hkl : ks.length = l.length) (hl5 : l.length ≤ 5000) (hgo : growJ o (k :: r) x = growJ (some (.obj ks l)) (k :: r) x)
    (hch : ∀ i, (h : i < l.length) → l[i].nodes ≤ 5000 ∧ ∃ E, TreeOf E l[i] ∧ ∃ p x, E p x) (es1 : es.length = l.length) (es2 : ∀ i, (h : i < l.length) → (h' : i < es.length) → RV w0 (V.ofJ l[i]) es[i].val) (hz : ∀ x ∈ ks, x.size ≤ reachN) : MidG o k r x w0 i (V.ofJs l) ks es := by
  obtain ⟨h1, h2⟩ := idxK_some hi
  have hil : i < l.length := by omega
  refine ⟨by rw [V.ofJs_length, es1], fun j h h' => ?_, by rw [V.ofJs_length]; exact hil, by rw [V.ofJs_length]; omega, by omega, hz, some l[i], fun y => .obj ks (l.set i y), fun j e => ?_, fun e => (by cases e), ?_, fun y => ?_⟩
  · rw [V.ofJs_length] at h
    rw [V.ofJs_get l j h]
    exact es2 j h h'
  · cases e
    exact ⟨hch i hil, by rw [List.getElem?_eq_getElem (by rw [V.ofJs_length]; exact hil), V.ofJs_get l i hil]⟩
  · rw [hgo]
    simp only [growJ, hi, List.getElem?_eq_getElem hil]
  · show V.ofJ (.obj ks (l.set i y)) = _
    rw [ofJ_obj, ofJs_set]
def zero6 : V6 := ⟨.int .i64 0, .int .i64 0, .float .f64 0, .string ByteArray.empty, .slice none 0 0, .slice none 0 0⟩
theorem midG_miss {o : Option J} {k : ByteArray} {r : Pth} {x : J} {w0 : World} {ks : List ByteArray} {l : List J} {es : List V6} (hi : idxK ks k = none) (hkl : ks.length = l.length) (hl5 : l.length ≤ 5000) (hgo : growJ o (k :: r) x = growJ (some (.obj ks l)) (k :: r) x)
    (es1 : es.length = l.length) (es2 : ∀ i, (h : i < l.length) → (h' : i < es.length) → RV w0 (V.ofJ l[i]) es[i].val) (hz : ∀ x ∈ ks, x.size ≤ reachN) (hk : k.size ≤ 1000) : MidG o k r x w0 l.length (V.ofJs l ++ [V.zero]) (ks ++ [k]) (es ++ [zero6]) := by
  refine ⟨by simp [V.ofJs_length, es1], fun j h h' => ?_, by simp [V.ofJs_length], by simp [V.ofJs_length]; omega, by simp; omega, fun y hy => ?_, none, fun y => .obj (ks ++ [k]) (l ++ [y]), fun j e => by (cases e), fun _ h => ?_, ?_, fun y => ?_⟩
  · by_cases hj : j < l.length
    · rw [List.getElem_append_left (by rw [V.ofJs_length]; exact hj), List.getElem_append_left (by omega), V.ofJs_get l j hj]
      exact es2 j hj (by omega)
    · have : j = l.length := by simp [V.ofJs_length] at h; omega
      subst this
      rw [List.getElem_append_right (by rw [V.ofJs_length]; exact Nat.le_refl _), List.getElem_append_right (by omega)]
      simp only [V.ofJs_length, es1, Nat.sub_self, List.getElem_cons_zero]
      exact RV.zero w0
  · rcases List.mem_append.1 hy with h | h
    · exact hz y h
    · rw [List.mem_singleton.1 h]
      unfold reachN
      omega
  · rw [List.getElem_append_right (by omega)]
    simp only [es1, Nat.sub_self, List.getElem_cons_zero]
    rfl
  · rw [hgo]
    simp only [growJ, hi]
  · show V.ofJ (.obj (ks ++ [k]) (l ++ [y])) = _
    rw [ofJ_obj, ofJs_snoc l y V.zero]
theorem idxK_idx {ks : List ByteArray} {k : ByteArray} (hn : ks.Nodup) : Lib.idxOfS ks k = match idxK ks k with | some i => (i : Int) | none => -1 := by
  cases hi : idxK ks k with
  | some i =>
    obtain ⟨h1, h2⟩ := idxK_some hi
    exact idx_nodup (by rw [List.getElem?_eq_getElem h1, h2]) hn
  | none =>
    have hm := idxK_none hi
    have := Lib.idxOfS_miss ks ks.length k (fun j hj e => hm (by
      rw [← e]
      simp only [List.getD, List.getElem?_eq_getElem hj, Option.getD_some]
      exact List.getElem_mem hj))
    rwa [List.take_length] at this

theorem step_append_at {w : World} {ops : Array Oper} {o : Oper} {a : Act} {K : Act → World → Prop} {Q : Exit → Act → World → Prop} {E : Prop} (hgd : o.guard = none) (s x : Operand) (t : TypeId)
    (ho : o.op = .call { callee := .builtin .append, args := #[s, x], argTypes := #[t, t] })
    (base : Nat) (e : TypeId) (i : TypeInfo) (z : Value) (size bytes : Nat) (ht : Try.prog.underlying t = some (.slice e)) (hi : Try.prog.info? e = some i) (hz : i.zero = some z)
    (hsize : i.size = size) (hby : i.bytes = bytes) (hzs : z.cells.size = size) (hsz : 0 < size)
    (v : Value) (n : Nat) (xs : List Value) (hs : a.eval s = v) (hown : w.ownsRow base e size v n xs)
    (ad : Addr) (m c : Nat) (news : List Value) (hx : a.eval x = .slice (some ad) m c) (hl : news.length = m * size) (hnews : ∀ j u, news[j]? = some u → w.cell? (ad.add j) = some u) (h1 : ∀ u ∈ news, u.oneCell' = true)
    (h63 : n + m ≤ maxLen) (hbytes : (n + m) * bytes ≤ 140737488355328) (hbase : base ≤ w.heap.size)
    (h : ∀ v' w', w'.ownsRow base e size v' (n + m) (xs ++ news) → w.grownBy w' v.ownBlock → (v'.ownBlock = v.ownBlock ∨ v'.ownBlock = some w.heap.size) → K (a.put o.dst v') w') :
    if Region.wanted o (yielded ops a.tmps) = true then Oper.wp Try.prog o a w K Q else E := by
  have hw : Region.wanted o (yielded ops a.tmps) = true := by simp [Region.wanted, hgd]
  rw [if_pos hw]
  obtain ⟨v', w', hr, h2, h3, _, h4⟩ := run_append_own_at (P := Try.prog) (w := w) base t o.type e i z size bytes ht hi hz hsize hby hzs hsz v n xs hown ad m c news hl hnews h1 h63 hbytes hbase
  unfold Oper.wp execOp
  simp only [ho, resolve, invoke, builtin, Sem.run_bind, Sem.run_pure, Result.andThen_ok, List.map_toArray, List.map_cons, List.map_nil, hs, hx, hr]
  exact h v' w' h2 h3 h4
theorem one_news {w : World} {H : Nat} {u : Value} (h : w.cell? ⟨H, 0, none⟩ = some u) : ∀ j y, [u][j]? = some y → w.cell? ((⟨H, 0, none⟩ : Addr).add j) = some y := fun j y hy => by
  cases j with
  | zero => simp at hy; subst hy; exact h
  | succ j => simp at hy
theorem six_news {w : World} {H : Nat} {c0 c1 c2 c3 c4 c5 : Value} {t : TypeId} (h : w.heap[H]? = some (.cells #[c0, c1, c2, c3, c4, c5] t (0, 0))) : ∀ j y, [c0, c1, c2, c3, c4, c5][j]? = some y → w.cell? ((⟨H, 0, none⟩ : Addr).add j) = some y := fun j y hy => by
  rw [Addr.add_lit, Nat.zero_add, cell_of_row _ _ _ _ _ _ h]
  simpa using hy
theorem two_stores' {w : World} {b : Nat} {t : TypeId} {z0 z1 z2 z3 z4 z5 : Value} (hg : w.heap[b]? = some (.cells #[z0, z1, z2, z3, z4, z5] t (0, 0))) (v4 v5 : Value) :
    (w.cell? ⟨b, 5, none⟩ = some z5 ∧ w.frozen? ⟨b, 5, none⟩ = false ∧ w.setCell ⟨b, 5, none⟩ v5 = w.setRow b #[z0, z1, z2, z3, z4, v5]) ∧
    ((w.setRow b #[z0, z1, z2, z3, z4, v5]).cell? ⟨b, 4, none⟩ = some z4 ∧ (w.setRow b #[z0, z1, z2, z3, z4, v5]).frozen? ⟨b, 4, none⟩ = false ∧ (w.setRow b #[z0, z1, z2, z3, z4, v5]).setCell ⟨b, 4, none⟩ v4 = w.setRow b #[z0, z1, z2, z3, v4, v5]) := by
  refine ⟨⟨?_, frozen_of_row _ _ _ _ _ hg, setCell_eq_setRow w b 5 _ t (0, 0) v5 hg⟩, (cell_setRow_same w b 4 _ _ t _ hg).trans rfl, frozen_of_row _ _ _ _ _ (setRow_heap w b _ _ t _ hg), (setCell_eq_setRow (w.setRow b _) b 4 _ t (0, 0) v4 (setRow_heap w b _ _ t _ hg)).trans (setRow_setRow w b _ _)⟩
  rw [cell_of_row _ _ _ _ _ _ hg]
  rfl

theorem grown_pre {a b c : World} {row : Option Nat} (h1 : Ext a b) (h2 : b.grownBy c row) : a.grownBy c row :=
  ⟨h2.os.trans h1.os, h2.tape.trans h1.tape, h2.output.trans h1.output, Nat.le_trans h1.size h2.size, fun k hk hne => (h2.block k (Nat.lt_of_lt_of_le hk h1.size) hne).trans (h1.block k hk)⟩

theorem app52 {w wc W w9 : World} {n : Nat} {vK v9 : Value} {xs : List Value} {gT : Nat} (hx : Ext w wc) (hW : Ext wc W) (hK : wc.ownsRow (w.heap.size + 3) 9 1 vK n xs) (hg : W.grownBy w9 vK.ownBlock) (hb : v9.ownBlock = vK.ownBlock ∨ v9.ownBlock = some W.heap.size) :
    wc.grownBy w9 vK.ownBlock ∧ Ext w w9 ∧ (v9.ownBlock = vK.ownBlock ∨ ∃ b, wc.heap.size ≤ b ∧ v9.ownBlock = some b) := by
  have G := grown_pre hW hg
  refine ⟨G, hx.grown G hx.size (fun k hk => by have := (hK.lt k hk).1; omega), ?_⟩
  rcases hb with h | h
  · exact Or.inl h
  · exact Or.inr ⟨_, hW.size, h⟩
theorem app57 {w wc w9 W w10 : World} {nK nL : Nat} {vK vL v9 v10 : Value} {xK xL : List Value} {gT : Nat} {z4 z5 : Value} {oX oZ : Obj} (hgt : w.heap.size + 3 ≤ gT) (hK : wc.ownsRow (w.heap.size + 3) 9 1 vK nK xK) (hL : wc.ownsRow (w.heap.size + 3) 26 6 vL nL xL)
    (hT : wc.heap[gT]? = some (.cells #[.int .i64 8, .int .i64 0, .float .f64 0, .string ByteArray.empty, z4, z5] 26 (0, 0))) (hXX : wc.heap[w.heap.size + 1]? = some oX) (hZZ : wc.heap[w.heap.size + 1 + 1]? = some oZ) (hnL : vL.ownBlock ≠ some gT) (hnK : vK.ownBlock ≠ some gT)
    (h9 : wc.grownBy w9 vK.ownBlock ∧ Ext w w9 ∧ (v9.ownBlock = vK.ownBlock ∨ ∃ b, wc.heap.size ≤ b ∧ v9.ownBlock = some b)) (hW : Ext w9 W) (hg : W.grownBy w10 vL.ownBlock) (hb : v10.ownBlock = vL.ownBlock ∨ v10.ownBlock = some W.heap.size) :
    w9.grownBy w10 vL.ownBlock ∧ Ext w w10 ∧ (v10.ownBlock = vL.ownBlock ∨ ∃ b, wc.heap.size ≤ b ∧ v10.ownBlock = some b) ∧
      w10.heap[gT]? = some (.cells #[.int .i64 8, .int .i64 0, .float .f64 0, .string ByteArray.empty, z4, z5] 26 (0, 0)) ∧ w10.heap[w.heap.size + 1]? = some oX ∧ w10.heap[w.heap.size + 1 + 1]? = some oZ := by
  have G := grown_pre hW hg
  have s9 := h9.1.size
  have hlt := (Array.getElem?_eq_some_iff.1 hT).1
  refine ⟨G, h9.2.1.grown G h9.2.1.size (fun k hk => by have := (hL.lt k hk).1; omega), ?_, ?_, ?_, ?_⟩
  · rcases hb with h | h
    · exact Or.inl h
    · exact Or.inr ⟨_, Nat.le_trans s9 hW.size, h⟩
  · exact (G.block gT (by omega) (fun e => hnL e.symm)).trans ((h9.1.block gT hlt (fun e => hnK e.symm)).trans hT)
  · exact (G.block _ (by omega) (fun e => by have := (hL.lt _ e.symm).1; omega)).trans ((h9.1.block _ (by omega) (fun e => by have := (hK.lt _ e.symm).1; omega)).trans hXX)
  · exact (G.block _ (by omega) (fun e => by have := (hL.lt _ e.symm).1; omega)).trans ((h9.1.block _ (by omega) (fun e => by have := (hK.lt _ e.symm).1; omega)).trans hZZ)

theorem row_away {w : World} {base e size n g : Nat} {v : Value} {xs : List Value} (h : w.ownsRow base e size v n xs) (hg : g < base ∨ w.heap.size ≤ g) : v.ownBlock ≠ some g := fun e => by
  have := h.lt g e
  omega

theorem key_end {w wc w9 w10 : World} {o : Option J} {k : ByteArray} {r : Pth} {x : J} {w0 : World} {gT : Nat} {ks : List ByteArray} {l : List J} {es : List V6} {aK aL aK9 aL9 : Option Addr} {cK cL cK9 cL9 : Nat} {z4 z5 : Value} {oX oZ : Obj}
    (hx : Ext w wc) (hgt : w.heap.size + 3 ≤ gT) (hkl : ks.length = l.length)
    (hr : w9.grownBy w10 (Value.slice aL l.length cL).ownBlock ∧ Ext w w10 ∧ ((Value.slice aL9 (l.length + 1) cL9).ownBlock = (Value.slice aL l.length cL).ownBlock ∨ ∃ b, wc.heap.size ≤ b ∧ (Value.slice aL9 (l.length + 1) cL9).ownBlock = some b) ∧
      w10.heap[gT]? = some (.cells #[.int .i64 8, .int .i64 0, .float .f64 0, .string ByteArray.empty, z4, z5] 26 (0, 0)) ∧ w10.heap[w.heap.size + 1]? = some oX ∧ w10.heap[w.heap.size + 1 + 1]? = some oZ)
    (ho10 : w10.ownsRow (w.heap.size + 3) 26 6 (.slice aL9 (l.length + 1) cL9) (l.length + 1) (es.flatMap V6.cells ++ [.int .i64 0, .int .i64 0, .float .f64 0, .string { data := #[] }, .slice none 0 0, .slice none 0 0]))
    (ho9 : w9.ownsRow (w.heap.size + 3) 9 1 (.slice aK9 (ks.length + 1) cK9) (ks.length + 1) (ks.map Value.string ++ [.string k]))
    (h9 : wc.grownBy w9 (Value.slice aK ks.length cK).ownBlock ∧ Ext w w9 ∧ ((Value.slice aK9 (ks.length + 1) cK9).ownBlock = (Value.slice aK ks.length cK).ownBlock ∨ ∃ b, wc.heap.size ≤ b ∧ (Value.slice aK9 (ks.length + 1) cK9).ownBlock = some b))
    (hgw : gT < wc.heap.size) (hLw : ∀ g, (Value.slice aL l.length cL).ownBlock = some g → g < wc.heap.size)
    (hnL : (Value.slice aL l.length cL).ownBlock ≠ some gT) (hnK : (Value.slice aK ks.length cK).ownBlock ≠ some gT) (hnlk : (Value.slice aL l.length cL).ownBlock ≠ (Value.slice aK ks.length cK).ownBlock ∨ (Value.slice aL l.length cL).ownBlock = none)
    (hm : MidG o k r x w0 l.length (V.ofJs l ++ [V.zero]) (ks ++ [k]) (es ++ [zero6])) :
    ∃ (gT' cL' cK' i : Nat) (aL' aK' : Option Addr) (L' : List V) (ks' : List ByteArray) (es' : List V6), Value.pointer (some ⟨gT, 0, none⟩) = .pointer (some ⟨gT', 0, none⟩) ∧ Value.int .i64 (ks.length : Int) = .int .i64 i ∧ Ext w (w10.setRow gT #[.int .i64 8, .int .i64 0, .float .f64 0, .string ByteArray.empty, .slice aL9 (l.length + 1) cL9, .slice aK9 (ks.length + 1) cK9]) ∧ w.heap.size + 3 ≤ gT' ∧
      (w10.setRow gT #[.int .i64 8, .int .i64 0, .float .f64 0, .string ByteArray.empty, .slice aL9 (l.length + 1) cL9, .slice aK9 (ks.length + 1) cK9]).heap[gT']? = some (.cells #[.int .i64 8, .int .i64 0, .float .f64 0, .string ByteArray.empty, .slice aL' L'.length cL', .slice aK' ks'.length cK'] 26 (0, 0)) ∧
      (w10.setRow gT #[.int .i64 8, .int .i64 0, .float .f64 0, .string ByteArray.empty, .slice aL9 (l.length + 1) cL9, .slice aK9 (ks.length + 1) cK9]).heap[w.heap.size + 1]? = some oX ∧
      (w10.setRow gT #[.int .i64 8, .int .i64 0, .float .f64 0, .string ByteArray.empty, .slice aL9 (l.length + 1) cL9, .slice aK9 (ks.length + 1) cK9]).heap[w.heap.size + 1 + 1]? = some oZ ∧
      (w10.setRow gT #[.int .i64 8, .int .i64 0, .float .f64 0, .string ByteArray.empty, .slice aL9 (l.length + 1) cL9, .slice aK9 (ks.length + 1) cK9]).ownsRow (w.heap.size + 3) 26 6 (.slice aL' L'.length cL') L'.length (es'.flatMap V6.cells) ∧
      (w10.setRow gT #[.int .i64 8, .int .i64 0, .float .f64 0, .string ByteArray.empty, .slice aL9 (l.length + 1) cL9, .slice aK9 (ks.length + 1) cK9]).ownsRow (w.heap.size + 3) 9 1 (.slice aK' ks'.length cK') ks'.length (ks'.map Value.string) ∧
      (Value.slice aL' L'.length cL').ownBlock ≠ some gT' ∧ (Value.slice aK' ks'.length cK').ownBlock ≠ some gT' ∧ MidG o k r x w0 i L' ks' es' := by
  have eL : (V.ofJs l ++ [V.zero]).length = l.length + 1 := by simp [V.ofJs_length]
  have eK : (ks ++ [k]).length = ks.length + 1 := by simp
  have nL : (Value.slice aL9 (l.length + 1) cL9).ownBlock ≠ some gT := fun e => by
    rcases hr.2.2.1 with h | ⟨b, h1, h2⟩
    · exact hnL (h.symm.trans e)
    · rw [h2] at e
      cases e
      omega
  have nK : (Value.slice aK9 (ks.length + 1) cK9).ownBlock ≠ some gT := fun e => by
    rcases h9.2.2 with h | ⟨b, h1, h2⟩
    · exact hnK (h.symm.trans e)
    · rw [h2] at e
      cases e
      omega
  have nKL : (Value.slice aK9 (ks.length + 1) cK9).ownBlock = none ∨ (Value.slice aK9 (ks.length + 1) cK9).ownBlock ≠ (Value.slice aL l.length cL).ownBlock := by
    rcases h9.2.2 with h | ⟨b, h1, h2⟩
    · rw [h]
      rcases hnlk with h3 | h3
      · exact Or.inr (fun e => h3 e.symm)
      · rw [h3]
        cases (Value.slice aK ks.length cK).ownBlock with
        | none => exact Or.inl rfl
        | some g => exact Or.inr (by simp)
    · refine Or.inr (fun e => ?_)
      rw [h2] at e
      have := hLw b e.symm
      omega
  have hK10 := ho9.kept hr.1 nKL
  refine ⟨gT, cL9, cK9, l.length, aL9, aK9, V.ofJs l ++ [V.zero], ks ++ [k], es ++ [zero6], rfl, by rw [hkl], below_setRow hr.2.1 (by omega) _, hgt, ?_, ?_, ?_, ?_, ?_, ?_, ?_, hm⟩
  · rw [eL, eK]
    exact setRow_heap _ _ _ _ _ _ hr.2.2.2.1
  · exact (setRow_other _ _ _ _ (by omega)).trans hr.2.2.2.2.1
  · exact (setRow_other _ _ _ _ (by omega)).trans hr.2.2.2.2.2
  · rw [eL, List.flatMap_append]
    exact ho10.kept (grownBy_setRow _ _ _) (Or.inr nL)
  · rw [eK, List.map_append]
    exact hK10.kept (grownBy_setRow _ _ _) (Or.inr nK)
  · rw [eL]; exact nL
  · rw [eK]; exact nK

theorem KeepF.le {lo lo' : Nat} {w w' : World} (h : KeepF lo w w') (hl : lo ≤ lo') : KeepF lo' w w' := fun k h1 h2 => h k (Nat.le_trans hl h1) h2
/-- the texts behind the first one -/
theorem tail_strs {w : World} (ba oa c : Nat) (k : ByteArray) (r : Pth) (h : KS w (some ⟨ba, oa, none⟩) (k :: r)) (hc : r.length + 1 ≤ c) :
    ∃ aR, (∀ W, (Instr.slice 24 (.slice (some ⟨ba, oa, none⟩) (r.length + 1) c) (some (.int .i64 1)) none none).run Try.prog W = .ok (.slice aR r.length (c - 1)) W) ∧ KS w aR r := by
  refine ⟨if c = 1 then some ⟨ba, oa, none⟩ else some ⟨ba, oa + 1, none⟩, fun W => ?_, fun hn => ?_⟩
  · have h1 : (1 : Int) ≤ ((r.length + 1 : Nat) : Int) := by omega
    have he : Try.prog.elem 24 = 9 := by kernel_rfl
    rw [run_slice_l W 24 (some ⟨ba, oa, none⟩) (r.length + 1) c (by rw [he]; exact Try.underlying24) .i64 1 (by decide) h1, he]
    rw [Try.sizeOf9 W]
    by_cases h : c = 1
    · subst h
      rfl
    · simp [Result.andThen, sliced, h, Addr.add]
  · obtain ⟨b, o, e, hcs⟩ := h (by simp)
    simp only [Option.some.injEq, Addr.mk.injEq, and_true] at e
    obtain ⟨rfl, rfl⟩ := e
    have hc1 : ¬ c = 1 := fun e => hn (List.eq_nil_of_length_eq_zero (by omega))
    refine ⟨ba, oa + 1, by rw [if_neg hc1], fun i hi => ?_⟩
    have := hcs (i + 1) (by simp; omega)
    rw [Nat.add_assoc, Nat.add_comm 1 i]
    simpa using this
theorem own_at {w : World} {base e size n cap : Nat} {a : Option Addr} {xs : List Value} (h : w.ownsRow base e size (.slice a n cap) n xs) (hn : n ≠ 0) : ∃ g, a = some ⟨g, 0, none⟩ ∧ base ≤ g ∧ g < w.heap.size := by
  rcases h.2 with ⟨h1, h2⟩ | ⟨g, cap1, cur, h1, h2, h3, _⟩
  · exact absurd h2 hn
  · simp only [Value.slice.injEq] at h1
    obtain ⟨rfl, _⟩ := h1
    exact ⟨g, rfl, h.lt g rfl⟩
theorem gr_set_end {w0 w2 : World} {ks : List ByteArray} {L : List V} {q gL cL cK : Nat} {aK : Option Addr} {es : List V6} {e9 : V6} {x : V} (k1 : Keep w0 w2) (hl : L.length ≤ cL) (hl1 : L.length ≤ 5001) (hk : ks.length ≤ cK) (hk1 : ks.length ≤ 5001) (hks : ∀ x ∈ ks, x.size ≤ reachN)
    (es1 : es.length = L.length) (es2 : ∀ i, (h : i < L.length) → (h' : i < es.length) → RV w0 L[i] es[i].val) (hx : RV w2 x e9.val) (hc : ∀ j u, ((es.set q e9).flatMap V6.cells)[j]? = some u → w2.cell? ⟨gL, j, none⟩ = some u) (hkk : KS w2 aK ks) :
    RV w2 (.mk 8 0 0 ByteArray.empty (L.set q x) ks) (.agg #[.int .i64 8, .int .i64 0, .float .f64 0, .string ByteArray.empty, .slice (some ⟨gL, 0, none⟩) L.length cL, .slice aK ks.length cK]) := by
  have hlen : (L.set q x).length = L.length := List.length_set
  unfold RV
  refine ⟨some ⟨gL, 0, none⟩, cL, aK, cK, by rw [hlen], ⟨by decide, rfl, rfl, by unfold reachN; decide, ?_, ?_, hk, by unfold reachN; omega, hks⟩, fun _ => ⟨gL, 0, rfl, ?_⟩, hkk⟩
  · rw [hlen]; exact hl
  · rw [hlen]; unfold reachN; omega
  · refine rvs_of (es := es.set q e9) (by rw [List.length_set, hlen, es1]) (fun i h h' => ?_) (fun j u hu => by rw [Nat.zero_add]; exact hc j u hu)
    have hi : i < L.length := by rw [hlen] at h; exact h
    simp only [List.getElem_set]
    split
    · exact hx
    · exact RV.keep k1 _ (es2 i hi (by rw [es1]; exact hi))
end Go.Proofs.Ytikpedfggbibpaa
namespace Go.Proofs.Ytikpedfggbibpaa
open Go.RowKit Go.Lib
set_option linter.unusedVariables false
set_option linter.unusedSimpArgs false

/-- texts of another row behind a row of the call's own -/
theorem wpList_sapp {ops : Array Oper} {rest : List Oper} {o : Oper} {a : Act} {Q : Exit → Act → World → Prop} (s x : Operand) (hgd : o.guard = none)
    (ho : o.op = .call { callee := .builtin .append, args := #[s, x], argTypes := #[24, 24] })
    (base base2 : Nat) (w w1 : World) (v v2 : Value) (P L : List ByteArray) (hP : OwnStrs w1 base v P) (hL : OwnStrs w1 base2 v2 L) (hX : Ext w w1) (hwb : w.heap.size ≤ base) (hb1 : base ≤ w1.heap.size) (hLn : L ≠ []) (hn : P.length + L.length ≤ 100000)
    (hs : a.eval s = v) (hx : a.eval x = v2)
    (h : ∀ a9 c9 w', OwnStrs w' base (.slice a9 (P.length + L.length) c9) (P ++ L) → Ext w w' → wpList Try.prog ops Q rest (a.put o.dst (.slice a9 (P.length + L.length) c9)) w') :
    wpList Try.prog ops Q (o :: rest) a w1 := by
  obtain ⟨i0, hi, hz0, hz1, hz2⟩ := info_parts Try.infoStr
  have hl0 : 0 < L.length := List.length_pos_iff.2 hLn
  have hrow : ∃ ad c, v2 = .slice (some ad) L.length c ∧ ∀ j u, (L.map Value.string)[j]? = some u → w1.cell? (ad.add j) = some u := by
    obtain ⟨a2, c2, rfl, hc2⟩ := own_sh hL
    obtain ⟨k1, k2, k3⟩ := own_KS hL
    obtain ⟨b, e, hcs⟩ := k1.news hl0
    exact ⟨b, c2, by rw [e], hcs⟩
  obtain ⟨ad, c, rfl, hnews⟩ := hrow
  refine wpList_append_own w1 hgd s x 24 ho base 9 i0 (.string ByteArray.empty) 1 16 Try.underlying24 hi hz0 hz1 hz2 rfl (by decide) v P.length (P.map Value.string) hs hP ad L.length c (L.map Value.string) hx (by simp) hnews (fun u hu => ?_) (by unfold maxLen; omega) (by omega) hb1 ?_
  · simp at hu
    obtain ⟨k, _, rfl⟩ := hu
    rfl
  · intro v' w' hown hgrow _
    obtain ⟨a9, c9, rfl, _⟩ := own_sh hown
    refine h a9 c9 w' ?_ (hX.grown hgrow hX.size fun k hk => by have := (hP.lt k hk).1; omega)
    unfold OwnStrs
    rw [List.length_append, List.map_append]
    exact hown

theorem GoodF.kind {y : J} (h : GoodF y) : y.isLeaf = true ∨ ∃ ks l, y = .obj ks l := by
  cases h with
  | leaf _ h => exact Or.inl h
  | obj ks l => exact Or.inr ⟨ks, l, rfl⟩
def RoadsAt (n : Nat) : Prop := ∀ (ks : List ByteArray) (l : List J), (J.obj ks l).nodes ≤ n → GoodF (.obj ks l) → ∀ (a : ByteArray), a.size + (V.ofJ (.obj ks l)).wt ≤ 1000 → ∀ (v : Value) (w : World), RV w (V.ofJ (.obj ks l)) v →
  Calls Try.prog 54 #[v, .string a] w fun e w' => ∃ v', e = .returned v' ∧ OwnStrs w' w.heap.size v' (RDs ks l a) ∧ Ext w w'

theorem wt_mem {x : V} : ∀ {l : List V}, x ∈ l → x.wt ≤ V.wtL l
  | y :: ys, h => by
    rw [V.wtL]
    rcases List.mem_cons.1 h with rfl | h
    · omega
    · have := wt_mem h
      omega
theorem ksum_mem {k : ByteArray} : ∀ {ks : List ByteArray}, k ∈ ks → k.size ≤ ksum ks
  | y :: ys, h => by
    unfold ksum
    rw [List.map_cons, List.sum_cons]
    rcases List.mem_cons.1 h with rfl | h
    · omega
    · have := ksum_mem h
      unfold ksum at this
      omega
set_option maxRecDepth 20000 in
set_option maxHeartbeats 4000000 in
theorem roads_step (n : Nat) (ih : RoadsAt n) : RoadsAt (n + 1) := by
  intro ks l hnd hg a hsz v w h
  obtain ⟨g1, g2, g3, g4, g5⟩ := hg.obj_inv
  have hwt : a.size + (1 + ks.length + ksum ks + V.wtL (V.ofJs l)) ≤ 1000 := by unfold V.ofJ at hsz; simp only [V.wt] at hsz; have : (ByteArray.empty).size = 0 := rfl; omega
  have hnl : J.nodesL l ≤ n := by simp only [J.nodes] at hnd; omega
  unfold V.ofJ RV at h
  obtain ⟨al, lc, ak, kc, rfl, z, hl, hk⟩ := h
  rw [V.ofJs_length]
  have HELA : Hid (∀ i, (h : i < l.length) → ∃ b o d0 d1 d2 d3 d4 d5, al = some ⟨b, o, none⟩ ∧ ElemAt w b (o + i * 6) (V.ofJ l[i]) d0 d1 d2 d3 d4 d5) := fun i h => by
    obtain ⟨b, o, d0, d1, d2, d3, d4, d5, e, E⟩ := RV.elem (k := 0) (n := 0) (f := 0) (s := ByteArray.empty) (ks := []) hl i (by rw [V.ofJs_length]; exact h)
    rw [V.ofJs_get l i h] at E
    exact ⟨b, o, d0, d1, d2, d3, d4, d5, e, E⟩
  have HLS : Hid (∀ i, (h : i < l.length) → l[i].nodes ≤ n ∧ (V.ofJ l[i]).wt ≤ V.wtL (V.ofJs l) ∧ GoodF l[i]) := fun i h => by
    refine ⟨Nat.le_trans (J.nodes_mem (List.getElem_mem h)) hnl, wt_mem ?_, g4 i _ (List.getElem?_eq_getElem h)⟩
    rw [← V.ofJs_get l i h]
    exact List.getElem_mem _
  have HKZ : Hid (∀ k ∈ ks, k.size ≤ ksum ks) := fun k hk => ksum_mem hk
  have HNL := Lib.hid hnl
  have hlen : ks.length ≤ 1000 := by omega
  have HWT := Lib.hid hwt
  have HIH := Lib.hid ih
  have HKS := Lib.hid hk
  have HKL := Lib.hid g2
  have hsa : a.size ≤ 1000 := by omega
  clear hl hk z hnd hg hsz g1 g2 g3 g4 g5 hnl hwt ih
  have hbx := heap_alloc_new w (.cells #[.int .i64 8, .int .i64 0, .float .f64 0, .string ByteArray.empty, .slice al l.length lc, .slice ak ks.length kc] 26)
  have t4 : (w.alloc (.cells #[.int .i64 8, .int .i64 0, .float .f64 0, .string ByteArray.empty, .slice al l.length lc, .slice ak ks.length kc] 26)).cell? ⟨w.heap.size, 4, none⟩ = some (.slice al l.length lc) := (cell_of_row _ _ _ _ _ _ hbx).trans rfl
  have t5 : (w.alloc (.cells #[.int .i64 8, .int .i64 0, .float .f64 0, .string ByteArray.empty, .slice al l.length lc, .slice ak ks.length kc] 26)).cell? ⟨w.heap.size, 5, none⟩ = some (.slice ak ks.length kc) := (cell_of_row _ _ _ _ _ _ hbx).trans rfl
  obtain ⟨w1, hw1⟩ : ∃ w1, w1 = w.alloc (.cells #[.int .i64 8, .int .i64 0, .float .f64 0, .string ByteArray.empty, .slice al l.length lc, .slice ak ks.length kc] 26) := ⟨_, rfl⟩
  have X1 : Ext w w1 := by rw [hw1]; exact (Ext.refl w).alloc _
  have hs1 : w1.heap.size = w.heap.size + 1 := by rw [hw1]; exact World.size_alloc _ _
  rw [← hw1] at t4 t5
  have HX1 := Lib.hid X1
  have HS1 := Lib.hid hs1
  go_enter Try.func54, Try.ntmps54
  go_wp2_with fail
  rw [← hw1]
  clear hw1 hbx X1 hs1
  go_wp2
  go_loopw [5, 11] (fun o i wr => ∃ (m : Nat) (L : List ByteArray) (aO : Option Addr) (cO : Nat), m ≤ ks.length ∧ i = .int .i64 m ∧ o = .slice aO L.length cO ∧ OwnStrs wr w1.heap.size (.slice aO L.length cO) L ∧ L = RDs (ks.take m) (l.take m) a ∧ Ext w1 wr) (fun _ i _ => ks.length - (intOf i).toNat)
  case atStart => exact ⟨0, [], none, 0, Nat.zero_le _, rfl, rfl, World.ownsRow_nil _ _ _ _, by simp [RDs], Ext.refl _⟩
  case round =>
    obtain ⟨m, L, aO, cO, hm, rfl, rfl, hP, hL, hB⟩ := hrel
    have HP := Lib.hid hP
    have HB := Lib.hid hB
    have HL := Lib.hid hL
    have q4 := HB.out.get t4
    have q5 := HB.out.get t5
    have hLl : L.length ≤ 1000 := by
      rw [hL]
      refine Nat.le_trans (RDs_len _ _ _) (Nat.le_trans (nodesL_take_le l m) ?_)
      have := nodes_wtL l
      have := HWT.out
      omega
    clear hP hB hL
    by_cases hlt : m < ks.length
    · have hml : m < l.length := by have := HKL.out; omega
      obtain ⟨b1, o1, d0, d1, d2, d3, d4, d5, rfl, E⟩ := HELA.out m hml
      obtain ⟨bK, oK, rfl, hKc⟩ := HKS.out (by intro e; subst e; simp at hlt)
      have hkm := HB.out.get (HX1.out.get (hKc m hlt))
      obtain ⟨s1, s2, s3⟩ := HLS.out m hml
      have hkz := HKZ.out _ (List.getElem_mem hlt)
      have HRS : Hid (RDs (ks.take (m + 1)) (l.take (m + 1)) a = L ++ RD l[m] (a ++ ks[m] ++ dotS)) := by
        show RDs (ks.take (m + 1)) (l.take (m + 1)) a = L ++ RD l[m] (a ++ ks[m] ++ dotS)
        rw [HL.out]
        exact RDs_succ ks l a m _ _ (List.getElem?_eq_getElem hlt) (List.getElem?_eq_getElem hml)
      generalize ks[m] = kx at *
      generalize l[m] = y at *
      have hm0 : (0 : Int) ≤ (m : Int) := by omega
      have hm1 : (m : Int) < (ks.length : Int) := by omega
      have hm2 : (m : Int) < (l.length : Int) := by omega
      have hwl : a.size + kx.size + 1 + (V.ofJ y).wt ≤ 1000 := by have := HWT.out; omega
      have hcat1 : ∀ W, (Go.Op.stringOp .add a kx).run Try.prog W = .ok (.string (a ++ kx)) W := fun W => run_string_add_sum W a kx (by omega)
      have hcat2 : ∀ W, (Go.Op.stringOp .add (a ++ kx) { data := #[46] }).run Try.prog W = .ok (.string (a ++ kx ++ dotS)) W := fun W => run_string_add_sum W (a ++ kx) dotS (by rw [ByteArray.size_append]; have : dotS.size = 1 := rfl; omega)
      have hcz : (a ++ kx ++ dotS).size = a.size + kx.size + 1 := by rw [ByteArray.size_append, ByteArray.size_append]; rfl
      have HRV := Lib.hid E.rv
      obtain ⟨yal, ylc, yak, ykc, he⟩ := E.rv.six
      simp only [Value.agg.injEq, Array.mk.injEq, List.cons.injEq, and_true] at he
      obtain ⟨rfl, rfl, rfl, rfl, rfl, rfl⟩ := he
      have z0 := HB.out.get (HX1.out.get E.h0)
      have z1 := HB.out.get (HX1.out.get E.h1)
      have z2 := HB.out.get (HX1.out.get E.h2)
      have z3 := HB.out.get (HX1.out.get E.h3)
      have z4 := HB.out.get (HX1.out.get E.h4)
      have z5 := HB.out.get (HX1.out.get E.h5)
      clear hKc E
      rcases s3.kind with hleaf | ⟨ks', l', rfl⟩
      · have hk8 : ((V.ofJ y).kind == 8) = false := by cases y <;> first | rfl | cases hleaf
        have hrd : RD y (a ++ kx ++ dotS) = [a ++ kx ++ dotS] := by cases y <;> first | rfl | cases hleaf
        have HRD := Lib.hid hrd
        have HCZ := Lib.hid hcz
        clear hrd hcz hleaf s3 hwl s1 s2 hkz
        generalize a ++ kx ++ dotS = tx at *
        generalize (V.ofJ y).kind = yk at *
        generalize (V.ofJ y).n = yn at *
        generalize (V.ofJ y).f = yf at *
        generalize (V.ofJ y).s = ys at *
        generalize (V.ofJ y).l.length = yll at *
        generalize (V.ofJ y).keys.length = ykl at *
        go_wp2_with (at_builtin; refine wpList_spush (.tmp 45) (.tmp 50) rfl rfl w1 wr (.slice aO L.length cO) L _ HP.out HB.out (by omega) wr.heap.size rfl rfl rfl ?_; intro g9 c9 w9 hp9 hx9; have HP9 := Lib.hid hp9; have HX9 := Lib.hid hx9; clear hp9 hx9)
        go_roundw
        case rel => exact ⟨m + 1, L ++ [tx], some ⟨g9, 0, none⟩, c9, by omega, by go_num, by simp, by simpa using HP9.out, by rw [HRS.out, HRD.out], HX9.out⟩
        case measure => simp [intOf]; omega
      · have HC : Hid (∀ v2, RV w (V.ofJ (.obj ks' l')) v2 → Calls Try.prog 54 #[v2, .string (a ++ kx ++ dotS)] wr fun e w' => ∃ v', e = .returned v' ∧ OwnStrs w' wr.heap.size v' (RDs ks' l' (a ++ kx ++ dotS)) ∧ Ext wr w') := fun v2 h2 =>
          HIH.out ks' l' s1 s3 _ (by rw [hcz]; exact hwl) v2 wr (RV.keep ((HX1.out.trans HB.out).keep) _ h2)
        have HNE : Hid (RDs ks' l' (a ++ kx ++ dotS) ≠ []) := by have := RD_ne s3 (a ++ kx ++ dotS); unfold RD at this; exact this
        have HLL : Hid ((RDs ks' l' (a ++ kx ++ dotS)).length ≤ 1000) := by
          refine Nat.le_trans (RDs_len _ _ _) ?_
          have := nodes_wt (.obj ks' l')
          simp only [J.nodes] at this
          omega
        have hl0 : 0 < l'.length := by
          obtain ⟨_, g2, g3, _⟩ := s3.obj_inv
          have := List.length_pos_iff.2 g3
          omega
        have hl1 : (0 : Int) < (l'.length : Int) := by omega
        have HRD : Hid (RD (.obj ks' l') (a ++ kx ++ dotS) = RDs ks' l' (a ++ kx ++ dotS)) := show RD (.obj ks' l') (a ++ kx ++ dotS) = RDs ks' l' (a ++ kx ++ dotS) from by unfold RD; rfl
        simp only [ofJ_obj, V.kind, V.n, V.f, V.s, V.l, V.keys, V.ofJs_length] at z0 z1 z2 z3 z4 z5 HRV
        have HC2 := Lib.hid (HC.out _ (by rw [ofJ_obj]; exact HRV.out))
        clear hcz s3 hwl s1 s2 hkz HC HRV
        generalize RDs ks' l' (a ++ kx ++ dotS) = L2 at *
        generalize a ++ kx ++ dotS = tx at *
        go_wp2_with (first
          | (go_at_call 54; refine (HC2.out).mono ?_; rintro e w2 ⟨v2, rfl, ho2, hx2⟩; obtain ⟨a2, c2, rfl, hc2⟩ := own_sh ho2; have HO2 := Lib.hid ho2; have HX2 := Lib.hid hx2; clear ho2 hx2 HC2)
          | (at_builtin; refine wpList_sapp (.tmp 33) (.tmp 43) rfl rfl w1.heap.size wr.heap.size w1 w2 (.slice aO L.length cO) (.slice a2 L2.length c2) L L2 (ownsRow_ext HP.out HX2.out) HO2.out (HB.out.trans HX2.out) (Nat.le_refl _) ((HB.out.trans HX2.out).size) HNE.out (by have := HLL.out; omega) rfl rfl ?_; intro a9 c9 w9 hp9 hx9; have HP9 := Lib.hid hp9; have HX9 := Lib.hid hx9; clear hp9 hx9))
        go_roundw
        case rel => exact ⟨m + 1, L ++ L2, a9, c9, by omega, by go_num, by simp, by simpa using HP9.out, by rw [HRS.out, HRD.out], HX9.out⟩
        case measure => simp [intOf]; omega
    · have : m = ks.length := by omega
      subst this
      go_wp2
      go_ret
      have e9 : L = RDs ks l a := by rw [HL.out, List.take_length, HKL.out, List.take_length]
      refine ⟨_, rfl, ?_, HX1.out.trans HB.out⟩
      rw [← e9]
      exact row_mono HP.out (by have := HS1.out; omega)
theorem roads_any : ∀ n, RoadsAt n
  | 0 => fun ks l h => by have := (J.obj ks l).nodes_pos; omega
  | n + 1 => roads_step n (roads_any n)
end Go.Proofs.Ytikpedfggbibpaa
namespace Go.Proofs.Ytikpedfggbibpaa
open Go Go.RowKit Go.Lib
set_option linter.unusedVariables false

section
variable {P : Program} {ops : Array Oper} {Q : Exit → Act → World → Prop} {md : Region.Mode} {S : Array Bool → World → Prop}

/-- whatever order is picked from here on; behind every operation S holds, for what has come up by then -/
def wpAnyG (P : Program) (md : Region.Mode) (ops : Array Oper) (Q : Exit → Act → World → Prop) (S : Array Bool → World → Prop) : Nat → Array Bool → Act → World → Prop
  | 0, listed, a, w => Region.ready md ops listed = [] ∧ Q .normal a w
  | fuel + 1, listed, a, w =>
    (Region.ready md ops listed = [] → Q .normal a w) ∧
    ∀ i ∈ Region.ready md ops listed, wpOp P ops Q i (fun a' w' => S (listed.setIfInBounds i true) w' ∧ wpAnyG P md ops Q S fuel (listed.setIfInBounds i true) a' w') a w

theorem wpAny_of_G : ∀ (fuel : Nat) (listed : Array Bool) (a : Act) (w : World), wpAnyG P md ops Q S fuel listed a w → wpAny P md ops Q fuel listed a w
  | 0, _, _, _, h => h
  | fuel + 1, _, _, _, h => ⟨h.1, fun i hi => wpOp_mono (fun a' w' h' => wpAny_of_G fuel _ a' w' h'.2) (h.2 i hi)⟩

/-- neither i nor any of D has come up -/
def Unl (i : Nat) (D : List Nat) (L : Array Bool) : Prop := L.getD i true = false ∧ ∀ d ∈ D, L.getD d true = false
/-- each of D waits for i, or for another of D -/
def waits (md : Region.Mode) (ops : Array Oper) (i : Nat) (D : List Nat) : Bool := D.all fun d => (ops[d]?).any fun od => od.after.toList.any fun e => Region.binds md e && (e.on == i || D.contains e.on)

theorem waits_not {i : Nat} {D : List Nat} {L : Array Bool} (hD : waits md ops i D = true) (h : Unl i D L) {d : Nat} (hd : d ∈ D) : d ∉ Region.ready md ops L := by
  intro hr
  obtain ⟨_, o, ho, hall⟩ := mem_ready.1 hr
  unfold waits at hD
  have h1 := List.all_eq_true.1 hD d hd
  rw [ho] at h1
  simp only [Option.any_some, List.any_eq_true, Bool.and_eq_true, Bool.or_eq_true, beq_iff_eq] at h1
  obtain ⟨e, he, hb, hon⟩ := h1
  have h2 := hall e (by simpa using he) hb
  have h3 : L.getD e.on true = false := by
    rcases hon with hon | hon
    · rw [hon]; exact h.1
    · exact h.2 _ (by simpa using hon)
  rcases Nat.lt_or_ge e.on L.size with h' | h'
  · simp [h'] at h2 h3
    rw [h3] at h2
    cases h2
  · simp [Array.getElem?_eq_none h'] at h3

theorem wpAnyG_first {i : Nat} {oi : Oper} {v : Value} {D : List Nat} (hi : ops[i]? = some oi) (hsel : ∀ (j : Nat) (o : Oper) cs b, ops[j]? = some o → o.op ≠ .select cs b)
    (hQ : ∀ c a w, Q (.panic c) (a.put oi.dst v) w → Q (.panic c) a w) (hD : waits md ops i D = true) (hS1 : ∀ L w, S L w ↔ S (L.setIfInBounds i true) w) :
    ∀ (fuel : Nat) (listed : Array Bool) (a : Act) (w : World),
      (∀ j oj, ops[j]? = some oj → j ≠ i → listed.getD j true = false → (∀ e ∈ oj.after, Region.binds md e = true → e.on ≠ i) → oi.apart ops oj = true) →
      i ∈ Region.ready md ops listed → (∀ d ∈ D, listed.getD d true = false) → YieldsIf P ops (fun w => ∃ L, Unl i D L ∧ S L w) oi v a → S listed w →
      wpAnyG P md ops Q S fuel (listed.setIfInBounds i true) (a.put oi.dst v) w → wpAnyG P md ops Q S (fuel + 1) listed a w := by
  intro fuel
  induction fuel with
  | zero =>
    intro listed a w _ hr hd hy hS H
    have hun := (mem_ready.1 hr).1
    refine ⟨fun h => (by rw [h] at hr; cases hr), fun j hj => ?_⟩
    by_cases hji : j = i
    · subst hji; exact hy.wpOp hi ⟨listed, ⟨hun, hd⟩, hS⟩ ⟨(hS1 _ _).1 hS, H⟩
    · have := ready_mono hj hji
      rw [H.1] at this
      cases this
  | succ fuel ih =>
    intro listed a w hfree hr hd hy hS H
    have hun := (mem_ready.1 hr).1
    refine ⟨fun h => (by rw [h] at hr; cases hr), fun j hj => ?_⟩
    by_cases hji : j = i
    · subst hji; exact hy.wpOp hi ⟨listed, ⟨hun, hd⟩, hS⟩ ⟨(hS1 _ _).1 hS, H⟩
    · have h1 := H.2 j (ready_mono hj hji)
      have hjD : j ∉ D := fun h => waits_not hD ⟨hun, hd⟩ h hj
      obtain ⟨hjun, oj, hoj, hall⟩ := mem_ready.1 hj
      have hnot : ∀ e ∈ oj.after, Region.binds md e = true → e.on ≠ i := fun e he hb heq => by
        have h1 := hall e he hb
        rw [heq] at h1
        rcases Nat.lt_or_ge i listed.size with h' | h'
        · simp [h'] at hun h1; rw [hun] at h1; cases h1
        · simp [Array.getElem?_eq_none h'] at h1
      have h2 := wpOp_putIf hoj (hfree j oj hoj hji hjun hnot) (fun cs b => hsel i oi cs b hi) (fun cs b => hsel j oj cs b hoj) hQ hy h1
      have hfree' : ∀ k ok, ops[k]? = some ok → k ≠ i → (listed.setIfInBounds j true).getD k true = false →
          (∀ e ∈ ok.after, Region.binds md e = true → e.on ≠ i) → oi.apart ops ok = true := fun k ok hk hki hun hno => by
        refine hfree k ok hk hki ?_ hno
        by_cases hjk : j = k
        · subst hjk; exact hjun
        · rw [getD_set_ne true hjk] at hun; exact hun
      refine wpOp_mono (fun a' w' h3 => ?_) h2
      obtain ⟨h4, h5, h6⟩ := h3
      rw [Array.setIfInBounds_comm _ _ (Ne.symm hji)] at h5 h6
      have h7 := (hS1 (listed.setIfInBounds j true) w').2 h5
      exact ⟨h7, ih (listed.setIfInBounds j true) a' w' hfree' (ready_mono hr (Ne.symm hji)) (fun d hdd => by
        rw [getD_set_ne true (fun e => hjD (by rw [e]; exact hdd))]
        exact hd d hdd) h4 h7 h6⟩

/-- number i first: in every world that S allows while i, and whatever waits for it, has not come up, it yields v -/
theorem wpAnyG_take {i : Nat} {oi : Oper} {v : Value} {fuel : Nat} {listed : Array Bool} {a : Act} {w : World} (D : List Nat) (hi0 : ops.toList[i]? = some oi)
    (hs : Region.noSelect ops = true) (hf : Region.free md ops listed i = true) (hr : (Region.ready md ops listed).contains i = true) (hD : waits md ops i D = true) (hd : D.all (fun d => !listed.getD d true) = true)
    (hQ : ∀ c a w, Q (.panic c) (a.put oi.dst v) w → Q (.panic c) a w) (hS1 : ∀ L w, S L w ↔ S (L.setIfInBounds i true) w) (hw : Region.wanted oi (yielded ops a.tmps) = true)
    (hy : ∀ L w, Unl i D L → S L w → (execOp a.eval oi).run P w = .ok (.value v) w) (hS : S listed w)
    (h : wpAnyG P md ops Q S fuel (listed.setIfInBounds i true) (a.put oi.dst v) w) : wpAnyG P md ops Q S (fuel + 1) listed a w :=
  have hi : ops[i]? = some oi := by rw [← Array.getElem?_toList]; exact hi0
  wpAnyG_first hi (Region.noSelect_spec hs) hQ hD hS1 fuel listed a w (Region.free_spec hi hf) (by simpa using hr) (fun d hdd => by simpa using List.all_eq_true.1 hd d hdd) (Or.inl ⟨hw, fun w ⟨L, h1, h2⟩ => hy L w h1 h2⟩) hS h

/-- each of these comes up next -/
def AllReadyG (P : Program) (md : Region.Mode) (ops : Array Oper) (Q : Exit → Act → World → Prop) (S : Array Bool → World → Prop) (fuel : Nat) (listed : Array Bool) (a : Act) (w : World) (rs : List Nat) : Prop :=
  ∀ i ∈ rs, wpOp P ops Q i (fun a' w' => S (listed.setIfInBounds i true) w' ∧ wpAnyG P md ops Q S fuel (listed.setIfInBounds i true) a' w') a w
theorem AllReadyG.nil {fuel : Nat} {listed : Array Bool} {a : Act} {w : World} : AllReadyG P md ops Q S fuel listed a w [] := fun _ h => by cases h
theorem AllReadyG.cons {fuel : Nat} {listed : Array Bool} {a : Act} {w : World} {i : Nat} {o : Oper} {rs : List Nat} (ho0 : ops.toList[i]? = some o)
    (h : ∀ K' : Act → World → Prop, Shut (∀ a w, S (listed.setIfInBounds i true) w → wpAnyG P md ops Q S fuel (listed.setIfInBounds i true) a w → K' a w) → if Region.wanted o (yielded ops a.tmps) = true then Oper.wp P o a w K' Q else K' (a.put o.dst undef) w)
    (hs : AllReadyG P md ops Q S fuel listed a w rs) : AllReadyG P md ops Q S fuel listed a w (i :: rs) := fun j hj => by
  have ho : ops[i]? = some o := by rw [← Array.getElem?_toList]; exact ho0
  rcases List.mem_cons.1 hj with rfl | hj
  · exact wpOp_step ho (fun K' hK => h K' (fun a w hS hW => hK a w ⟨hS, hW⟩))
  · exact hs j hj
theorem wpAnyG_ready {rs : List Nat} {fuel : Nat} {listed : Array Bool} {a : Act} {w : World} (hr : Region.ready md ops listed = rs) (hne : rs ≠ [])
    (h : AllReadyG P md ops Q S fuel listed a w rs) : wpAnyG P md ops Q S (fuel + 1) listed a w := ⟨fun h0 => absurd (hr ▸ h0) hne, hr ▸ h⟩
theorem wpAnyG_done {listed : Array Bool} {a : Act} {w : World} (hr : Region.ready md ops listed = []) (h : Q .normal a w) : ∀ fuel, wpAnyG P md ops Q S fuel listed a w
  | 0 => ⟨hr, h⟩
  | _ + 1 => ⟨fun _ => h, by rw [hr]; simp⟩
/-- the text stands; the two slices of a filter's object stand till they are stored anew -/
def S9 (gT ba oa : Nat) (v5 v4 : Value) (k : ByteArray) (L : Array Bool) (w' : World) : Prop :=
  w'.cell? ⟨ba, oa, none⟩ = some (.string k) ∧ (L.getD 13 true = false → w'.cell? ⟨gT, 5, none⟩ = some v5) ∧ (L.getD 15 true = false → w'.cell? ⟨gT, 4, none⟩ = some v4)
theorem S9.ind {gT ba oa : Nat} {v5 v4 : Value} {k : ByteArray} (i : Nat) (h1 : i ≠ 13) (h2 : i ≠ 15) (L : Array Bool) (w : World) : S9 gT ba oa v5 v4 k L w ↔ S9 gT ba oa v5 v4 k (L.setIfInBounds i true) w := by
  unfold S9
  rw [getD_set_ne true h1, getD_set_ne true h2]
theorem wp_region_G {id : Nat} {a : Act} {w : World} (hm : P.follows .mixedOrders = true)
    (h : wpAnyG P .any ops Q S ops.size (Array.replicate ops.size false) a w.drew) : (Code.region id ops true).wp P Q a w := wp_region_any hm (wpAny_of_G _ _ _ _ h)
end
end Go.Proofs.Ytikpedfggbibpaa
