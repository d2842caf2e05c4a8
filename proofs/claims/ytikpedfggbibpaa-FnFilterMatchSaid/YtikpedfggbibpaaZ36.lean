/- Walks: null, memberOf, slices.Clone of fragments. Walks: allKeys. Walks: allKeys. -/
import Derived.Test.YtikpedfggbibpaaZ35
namespace Go.Proofs.Ytikpedfggbibpaa
open Go.RowKit Go.Lib
set_option linter.unusedVariables false
set_option linter.unusedSimpArgs false

theorem V.wNull (w : World) : RV w (V.ofJ .null) (.agg #[.int .i64 1, .int .i64 0, .float .f64 0, .string ByteArray.empty, .slice none 0 0, .slice none 0 0]) := by
  unfold V.ofJ RV
  exact ⟨none, 0, none, 0, rfl, ⟨by decide, by decide, by decide, by decide, by decide, by decide, by decide, by decide, fun x h => by cases h⟩, fun h => absurd rfl h, fun h => absurd rfl h⟩

theorem null_any (w : World) : Calls Try.prog 90 #[] w fun e w' => e = .returned (.agg #[.int .i64 1, .int .i64 0, .float .f64 0, .string ByteArray.empty, .slice none 0 0, .slice none 0 0]) ∧ w.alloc (.cells #[.int .i64 1, .int .i64 0, .float .f64 0, .string ByteArray.empty, .slice none 0 0, .slice none 0 0] 26) = w' := by
  go_enter Try.func90, Try.ntmps90
  go_wp2
  refine bodyPost_ret (results_cell_row rfl _ _ w.heap.size 26 _ _ _ rfl (heap_alloc_new _ _) Try.underlying26 rfl (by kernel_rfl)) rfl ?_
  exact ⟨rfl, rfl⟩

def ValPost (j : J) (w : World) (e : Ending) (w' : World) : Prop := ∃ v, e = .returned v ∧ RV w' (V.ofJ j) v ∧ Ext w w'

theorem memberOf_any (ks : List ByteArray) (l : List J) (s : ByteArray) (hj : J.ok (.obj ks l)) (hsm : l.length ≤ 100000) (v : Value) (w : World) (h : RV w (V.ofJ (.obj ks l)) v) :
    Calls Try.prog 59 #[v, .string s] w (ValPost (look ks l s) w) := by
  have hnd : ks.Nodup := by unfold J.ok at hj; exact hj.1
  have hlen : ks.length = l.length := by unfold J.ok at hj; exact hj.2.1
  unfold V.ofJ RV at h
  obtain ⟨al, lc, ak, kc, rfl, z, hl, hk⟩ := h
  have hksl : ks.length ≤ reachN := by have := z.hkl; have := z.hkc; omega
  rw [V.ofJs_length]
  have HI : Hid (∀ w1, Keep w w1 → Calls Try.prog 42 #[.slice ak ks.length kc, .string s] w1 fun e w' => e = .returned (.int .i64 (Lib.idxOfS ks s)) ∧ w1 = w') := fun w1 hk1 =>
    (index_strs ak kc ks s w1 (hk.keep hk1) hksl).mono fun e w' ⟨a, b⟩ => ⟨a, b.symm⟩
  have KK : ∀ (A B : Obj), Keep w ((w.alloc A).alloc B) := fun A B => (Keep.alloc _ _).trans (Keep.alloc _ _)
  by_cases hm : s ∈ ks
  · obtain ⟨q, hq, hqs⟩ := List.getElem_of_mem hm
    have hkq : ks[q]? = some s := List.getElem?_eq_some_iff.2 ⟨hq, hqs⟩
    rw [idx_nodup hkq hnd] at HI
    have hql : q < l.length := by omega
    rw [look_hit hql hkq hnd]
    obtain ⟨bb, oo, d0, d1, d2, d3, d4, d5, rfl, E⟩ := RV.elem (k := 0) (n := 0) (f := 0) (s := ByteArray.empty) (ks := []) hl q (by rw [V.ofJs_length]; exact hql)
    rw [V.ofJs_get l q hql] at E
    obtain ⟨sk, sn, sf, ss, sal, sll, slc, sak, skl, skc, rfl, rfl, rfl, rfl, rfl, rfl⟩ := E.rv.shape
    have lt2 := lt_of_cell E.h0
    have e0 := E.h0
    have e1 := E.h1
    have e2 := E.h2
    have e3 := E.h3
    have e4 := E.h4
    have e5 := E.h5
    simp only at lt2
    have HE := Lib.hid E.rv
    have hqI : (q : Int) < (l.length : Int) := by omega
    clear E hl hk z hkq hksl hnd hlen hj hm hqs hq
    go_enter Try.func59, Try.ntmps59
    go_wp2_with (go_at_call 42; refine (HI.out _ (KK _ _)).mono ?_; rintro e w' ⟨rfl, rfl⟩)
    refine bodyPost_ret (results_cell_row rfl _ _ (w.heap.size + 1) 26 _ _ _ rfl (by rw [← World.size_alloc]; exact heap_alloc_new _ _) Try.underlying26 rfl (by kernel_rfl)) rfl ?_
    exact ⟨_, rfl, HE.out.keep (KK _ _), ((Ext.refl _).alloc _).alloc _⟩
  · have hix : Lib.idxOfS ks s = -1 := by
      have := Lib.idxOfS_miss ks ks.length s (fun j hj e => hm (by
        simp [List.getD, hj] at e
        rw [← e]
        exact List.getElem_mem _))
      rwa [List.take_length] at this
    rw [hix] at HI
    rw [look_miss hm]
    have HN := Lib.hid (fun w1 => null_any w1)
    clear hl hk z hksl hnd hlen hj hm hix
    go_enter Try.func59, Try.ntmps59
    go_wp2_with (first
      | (go_at_call 42; refine (HI.out _ (KK _ _)).mono ?_; rintro e w' ⟨rfl, rfl⟩)
      | (go_at_call 90; refine (HN.out _).mono ?_; rintro e w' ⟨rfl, rfl⟩))
    refine bodyPost_ret (results_cell_row rfl _ _ (w.heap.size + 1) 26 _ _ _ rfl ((heap_alloc_old _ _ (by simp)).trans (by rw [← World.size_alloc]; exact heap_alloc_new _ _)) Try.underlying26 rfl (by kernel_rfl)) rfl ?_
    exact ⟨_, rfl, V.wNull _, (((Ext.refl _).alloc _).alloc _).alloc _⟩
/-- a path, cloned -/
def ClonePost (p : List Step) (w : World) (e : Ending) (w' : World) : Prop :=
  ∃ (v' : Value) (fs : List Fr), e = .returned v' ∧ fs.length = p.length ∧ (∀ i, (h : i < p.length) → (h' : i < fs.length) → FrOk w' p[i] fs[i]) ∧ w'.ownsRow w.heap.size 38 13 v' p.length (fs.flatMap Fr.cells) ∧ Ext w w'
def Try.laysCloneF_ren : Go.Shelf.Ren := ⟨fun | 41 => 68 | n => n, fun | 22 => 32 | 23 => 38 | 4 => 4 | n => n, fun | n => n⟩
theorem Try.laysCloneF : Go.Proofs.SlLaysE0.n41 Try.prog Try.laysCloneF_ren := {
  mixed := by kernel_rfl
  f41 := ⟨Try.f68.name, by decide, Try.func68.trans (congrArg some (by kernel_rfl))⟩
  t4 := Try.underlying4
  a4 := Try.isAgg4
  z4 := Try.sizeOf4
  v4 := Try.zeroValue4
  t22 := Try.underlying32
  a22 := Try.isAgg32
  z22 := Try.sizeOf32
  v22 := Try.zeroValue32 }
theorem clone_path (p : List Step) (hp : p.length ≤ 1000000) (v : Value) (w : World) (h : PathN w v p) : Calls Try.prog 68 #[v] w (ClonePost p w) := by
  obtain ⟨i0, hi, hz0, hz1, hz2⟩ := info_parts Try.infoFrag
  have zs : ∀ w, (Go.sizeOf 38).run Try.prog w = .ok 13 w := fun w => by kernel_rfl
  by_cases h0 : p = []
  · subst h0
    rw [h.2 rfl]
    exact (AnyE.slices_Clone_nil Try.laysCloneF 0 0 w).mono fun e w' ⟨he, hw⟩ => ⟨_, [], he, rfl, fun i h => by simp at h, World.ownsRow_nil _ _ _ _, by rw [hw]; exact .refl _⟩
  · obtain ⟨g, c, fs, rfl, hl, hf, hn⟩ := h.1.news (List.length_pos_iff.2 h0)
    have H := AnyE.slices_Clone Try.laysCloneF i0 zFrag 13 216 hi hz0 hz1 hz2 rfl (by decide) zs g 0 p.length c (fs.flatMap Fr.cells) w (by rw [flat_len, hl]) (by simp [maxLen]; omega) (by omega) (fun j u hu => by have := hn j u hu; rw [Addr.add_lit] at this; exact this) (flat_one fs)
    exact H.mono fun e w' ⟨v', he, ho, _, hb⟩ => ⟨v', fs, he, hl, fun i h h' => (hf i h h').ext hb, ho, hb⟩

theorem RV.six {w : World} {x : V} {v : Value} (h : RV w x v) : ∃ al lc ak kc, v = .agg #[.int .i64 x.kind, .int .i64 x.n, .float .f64 x.f, .string x.s, .slice al x.l.length lc, .slice ak x.keys.length kc] := by
  cases x
  unfold RV at h
  obtain ⟨al, lc, ak, kc, e, _⟩ := h
  exact ⟨al, lc, ak, kc, e⟩

theorem alike_kinds (x y : V) (hne : x.kind ≠ y.kind) (va vb : Value) (w : World) (ha : RV w x va) (hb : RV w y vb) : Calls Try.prog 58 #[va, vb] w (Gives (.bool false) w) := by
  obtain ⟨al, lc, ak, kc, rfl⟩ := ha.six
  obtain ⟨al', lc', ak', kc', rfl⟩ := hb.six
  clear ha hb
  generalize x.kind = k at *
  generalize y.kind = k' at *
  have h1 : (k == k') = false := by simp [hne]
  have h2 : (k != k') = true := by simp [hne]
  clear hne
  go_enter Try.func58, Try.ntmps58
  go_wp2
  go_ret
  exact .mk rfl (((Ext.refl _).alloc _).alloc _)

def leafs : J → J → Bool
  | .arr _, .arr _ => false
  | .obj _ _, .obj _ _ => false
  | _, _ => true
theorem ofJ_kind_eq : ∀ (a b : J), (V.ofJ a).kind = (V.ofJ b).kind → leafs a b = true → a.nofl → (a = .null ∧ b = .null) ∨ (∃ p q, a = .bool p ∧ b = .bool q) ∨ (∃ p q, a = .int p ∧ b = .int q) ∨ (∃ p q, a = .str p ∧ b = .str q) := by
  intro a b h hl hn
  cases a <;> cases b <;> simp_all [V.ofJ, V.kind, leafs, J.nofl]
theorem leafEq_kind : ∀ (a b : J), (V.ofJ a).kind ≠ (V.ofJ b).kind → leafEq a b = false := by
  intro a b h
  cases a <;> cases b <;> simp_all [V.ofJ, V.kind, leafEq]

theorem alike_any (a b : J) (hl : leafs a b = true) (han : a.nofl) (va vb : Value) (w : World) (ha : RV w (V.ofJ a) va) (hb : RV w (V.ofJ b) vb) : Calls Try.prog 58 #[va, vb] w (Gives (.bool (leafEq a b)) w) := by
  by_cases hk : (V.ofJ a).kind = (V.ofJ b).kind
  · rcases ofJ_kind_eq a b hk hl han with ⟨rfl, rfl⟩ | ⟨p, q, rfl, rfl⟩ | ⟨p, q, rfl, rfl⟩ | ⟨p, q, rfl, rfl⟩
    all_goals
      obtain ⟨al, lc, ak, kc, rfl⟩ := ha.six
      obtain ⟨al', lc', ak', kc', rfl⟩ := hb.six
      clear ha hb hk hl han
    · go_enter Try.func58, Try.ntmps58
      go_wp2
      go_ret
      exact .mk rfl (((Ext.refl _).alloc _).alloc _)
    · cases p <;> cases q
      all_goals
        go_enter Try.func58, Try.ntmps58
        go_wp2
        go_ret
        exact .mk rfl (((Ext.refl _).alloc _).alloc _)
    · go_enter Try.func58, Try.ntmps58
      go_wp2
      go_ret
      exact .mk (congrArg Value.bool (by simp [leafEq, V.ofJ, V.n] <;> rfl)) (((Ext.refl _).alloc _).alloc _)
    · go_enter Try.func58, Try.ntmps58
      go_wp2
      go_ret
      exact .mk (congrArg Value.bool (by simp [leafEq, V.ofJ, V.s, bytes_beq] <;> rfl)) (((Ext.refl _).alloc _).alloc _)
  · rw [leafEq_kind a b hk]
    exact alike_kinds _ _ hk va vb w ha hb
end Go.Proofs.Ytikpedfggbibpaa
namespace Go.Proofs.Ytikpedfggbibpaa
open Go.RowKit Go.Lib
set_option linter.unusedVariables false
set_option linter.unusedSimpArgs false

/-! ### Compact of a sorted list -/
theorem compactUpTo_inv (zs : List (List UInt8)) (hs : zs.Pairwise (· ≤ ·)) : ∀ m, m ≤ zs.length → (compactUpTo zs.toArray m).Nodup ∧ ∀ x, x ∈ compactUpTo zs.toArray m ↔ x ∈ zs.take m
  | 0, _ => by simp [compactUpTo]
  | m + 1, h => by
    obtain ⟨h1, h2⟩ := compactUpTo_inv zs hs m (by omega)
    have hg : zs.toArray[m]! = zs[m] := by rw [List.getElem!_toArray, getElem!_pos zs m (by omega)]
    rw [compactUpTo_succ, List.take_succ_eq_append_getElem (by omega), hg]
    rcases Nat.eq_zero_or_pos m with rfl | h0
    · rw [keeps_lt_one _ _ (by omega)]
      simp [compactUpTo]
    · have hg' : zs.toArray[m - 1]! = zs[m - 1] := by rw [List.getElem!_toArray, getElem!_pos zs (m - 1) (by omega)]
      by_cases he : zs[m] = zs[m - 1]
      · rw [keeps_neg h0 (by rw [hg, hg', he])]
        simp only [Bool.false_eq_true, if_false, List.append_nil]
        refine ⟨h1, fun x => ?_⟩
        rw [h2, List.mem_append, List.mem_singleton]
        constructor
        · exact Or.inl
        · rintro (h | rfl)
          · exact h
          · rw [he]
            exact List.mem_take_iff_getElem.2 ⟨m - 1, by omega, rfl⟩
      · rw [keeps_pos (by rw [hg, hg']; exact he)]
        simp only [if_true]
        refine ⟨?_, fun x => by rw [List.mem_append, h2, List.mem_append]⟩
        rw [List.nodup_append]
        refine ⟨h1, by simp, fun a ha b hb e => ?_⟩
        simp only [List.mem_singleton] at hb
        subst hb
        rw [h2] at ha
        obtain ⟨i, hi, hia⟩ := List.mem_take_iff_getElem.1 ha
        have hs' := List.pairwise_iff_getElem.1 hs
        refine he (List.le_antisymm ?_ (hs' (m - 1) m (by omega) (by omega) (by omega)))
        rw [← e, ← hia]
        by_cases hc : i = m - 1
        · subst hc; exact List.le_refl _
        · exact hs' i (m - 1) (by omega) (by omega) (by omega)
theorem compact_sorted {zs : List (List UInt8)} (hs : zs.Pairwise (· ≤ ·)) : (Lib.compact zs).Nodup ∧ ∀ x, x ∈ Lib.compact zs ↔ x ∈ zs := by
  have := compactUpTo_inv zs hs zs.length (Nat.le_refl _)
  rw [List.take_length] at this
  exact this

def KeysPost (ks : List ByteArray) (w : World) (e : Ending) (w' : World) : Prop := ∃ (a : Option Addr) (c : Nat) (K : List ByteArray), e = .returned (.slice a K.length c) ∧ KS w' a K ∧ K.Nodup ∧ (∀ k, k ∈ K ↔ k ∈ ks)

/-- slices.Compact of sorted texts -/
theorem compact_keys (base : Nat) (v : Value) (ks : List ByteArray) (w : World) (ho : OwnStrs w base v (sortK ks)) (hn : ks.length * 16 ≤ reachN) :
    Calls Try.prog 81 #[v] w fun e w' => KeysPost ks w e w' ∧ w.grownBy w' v.ownBlock := by
  unfold reachN at hn
  have hsl := sortK_length ks
  have hper := sortK_perm ks
  have hsrt := sortK_sorted ks
  generalize sortK ks = S at *
  unfold OwnStrs at ho
  rcases ho.2 with ⟨rfl, h0⟩ | ⟨g, cap, cur, rfl, hbase, hb, h1, h2, h3, h4⟩
  · have hS : S = [] := List.eq_nil_of_length_eq_zero h0
    subst hS
    refine (Try.slices_Compact_string_empty none 0 w).mono fun e w' ⟨he, hw⟩ => ⟨⟨none, 0, [], he, fun h => absurd rfl h, List.nodup_nil, fun k => by rw [← hper.mem_iff]⟩, ?_⟩
    rw [hw]; exact ⟨rfl, rfl, rfl, Nat.le_refl _, fun _ _ _ => rfl⟩
  · have hl : (S.map toL).length = S.length := by simp
    have hH : Go.Sort.Holds encStr w g 0 (S.map toL).toArray := holds_of_block hb (by rw [hl]; rw [Nat.mul_one] at h4; rw [h4, List.map_map]; rfl)
    have H := Try.slices_Compact_string g 0 cap (S.map toL) w hH (by rw [hl]; omega) (by rw [hl]; exact h1)
    have hsorted : (S.map toL).Pairwise (· ≤ ·) := by rw [List.pairwise_map]; exact hsrt
    obtain ⟨c1, c2⟩ := compact_sorted hsorted
    have hle := compact_length_le (S.map toL)
    rw [hl] at H hle
    generalize Lib.compact (S.map toL) = C at *
    refine H.mono fun e w' ⟨he, q, hw⟩ => ⟨⟨some ⟨g, 0, none⟩, cap, C.map ofL, by rw [he, List.length_map], fun _ => ⟨g, 0, rfl, fun i hi => ?_⟩, ?_, fun k => ?_⟩, ?_⟩
    · have hi' : i < C.length := by simpa using hi
      have := Go.Sort.cell?_putRow encStr (Go.Sort.ahead w q) g 0 (S.map toL).toArray (C ++ List.replicate (S.length - C.length) []).toArray (Go.Sort.holds_ahead _ _ _ _ _ _ hH) (by simp; omega) i (by simp; omega)
      rw [hw, this]
      simp only [List.getElem!_toArray, List.getElem_map]
      rw [getElem!_pos _ i (by simp; omega), List.getElem_append_left hi']
      rfl
    · rw [List.Nodup, List.pairwise_map]
      exact c1.imp fun hne e => hne (by have := congrArg toL e; rwa [toL_ofL, toL_ofL] at this)
    · rw [List.mem_map]
      constructor
      · rintro ⟨x, hx, rfl⟩
        rw [c2, List.mem_map] at hx
        obtain ⟨y, hy, rfl⟩ := hx
        rw [ofL_toL]
        exact hper.mem_iff.1 hy
      · intro hk
        exact ⟨toL k, (c2 _).2 (List.mem_map.2 ⟨k, hper.mem_iff.2 hk, rfl⟩), ofL_toL k⟩
    · rw [hw]
      refine ⟨rfl, rfl, rfl, by simp [Go.Sort.putRow, Go.Sort.mapBlock, Go.Sort.ahead], fun k hk hne => ?_⟩
      have : g ≠ k := fun e => hne (by rw [← e]; rfl)
      simp [Go.Sort.putRow, Go.Sort.mapBlock, Go.Sort.ahead, Array.getElem?_modify, this]

/-! ### append of whatever slice -/
theorem run_append_own_any {P : Program} {w : World} (base : Nat) (t ty e : TypeId) (i : TypeInfo) (z : Value) (size bytes : Nat) (ht : P.underlying t = some (.slice e)) (hi : P.info? e = some i) (hz : i.zero = some z)
    (hsize : i.size = size) (hby : i.bytes = bytes) (hzs : z.cells.size = size) (hsz : 0 < size)
    (v : Value) (n : Nat) (xs : List Value) (hown : w.ownsRow base e size v n xs)
    (a : Option Addr) (m c : Nat) (news : List Value) (hl : news.length = m * size) (hnews : 0 < m → ∃ ad, a = some ad ∧ ∀ j u, news[j]? = some u → w.cell? (ad.add j) = some u) (h1 : ∀ u ∈ news, u.oneCell' = true)
    (h63 : n + m ≤ maxLen) (hbytes : (n + m) * bytes ≤ 140737488355328) (hbase : base ≤ w.heap.size) :
    ∃ v' w', (Builtin.append_ #[t, t] ty #[v, .slice a m c]).run P w = .ok v' w' ∧ w'.ownsRow base e size v' (n + m) (xs ++ news) ∧ w.grownBy w' v.ownBlock := by
  cases a with
  | some ad =>
    obtain ⟨v', w', r1, r2, r3, _⟩ := run_append_own_at (P := P) (w := w) base t ty e i z size bytes ht hi hz hsize hby hzs hsz v n xs hown ad m c news hl (fun j u hu => by
      rcases Nat.eq_zero_or_pos m with rfl | h0
      · rw [Nat.zero_mul] at hl
        rw [List.eq_nil_of_length_eq_zero hl] at hu
        simp at hu
      · obtain ⟨ad', e', h⟩ := hnews h0
        cases e'
        exact h j u hu) h1 h63 hbytes hbase
    exact ⟨v', w', r1, r2, r3⟩
  | none =>
    have hm : m = 0 := by
      rcases Nat.eq_zero_or_pos m with rfl | h0
      · rfl
      · obtain ⟨ad', e', h⟩ := hnews h0
        cases e'
    subst hm
    rw [Nat.zero_mul] at hl
    obtain rfl := List.eq_nil_of_length_eq_zero hl
    refine ⟨v, w, ?_, by simpa using hown, ⟨rfl, rfl, rfl, Nat.le_refl _, fun _ _ _ => rfl⟩⟩
    rcases hown.2 with ⟨rfl, rfl⟩ | ⟨g, cap, cur, rfl, _, _, hnc, _⟩
    · simp [Builtin.append_, run_underlying ht, sizeOf, typeInfo, hi, Builtin.lenOf, Builtin.firstCells]
    · simp [Builtin.append_, run_underlying ht, sizeOf, typeInfo, hi, Builtin.lenOf, Builtin.firstCells, hnc, storeCells]
theorem step_append_any {P : Program} {w : World} {ops : Array Oper} {o : Oper} {a : Act} {K : Act → World → Prop} {Q : Exit → Act → World → Prop} {E : Prop} (hgd : o.guard = none) (s x : Operand) (t : TypeId)
    (ho : o.op = .call { callee := .builtin .append, args := #[s, x], argTypes := #[t, t] })
    (base : Nat) (e : TypeId) (i : TypeInfo) (z : Value) (size bytes : Nat) (ht : P.underlying t = some (.slice e)) (hi : P.info? e = some i) (hz : i.zero = some z)
    (hsize : i.size = size) (hby : i.bytes = bytes) (hzs : z.cells.size = size) (hsz : 0 < size)
    (v : Value) (n : Nat) (xs : List Value) (hs : a.eval s = v) (hown : w.ownsRow base e size v n xs)
    (ad : Option Addr) (m c : Nat) (news : List Value) (hx : a.eval x = .slice ad m c) (hl : news.length = m * size) (hnews : 0 < m → ∃ b, ad = some b ∧ ∀ j u, news[j]? = some u → w.cell? (b.add j) = some u) (h1 : ∀ u ∈ news, u.oneCell' = true)
    (h63 : n + m ≤ maxLen) (hbytes : (n + m) * bytes ≤ 140737488355328) (hbase : base ≤ w.heap.size)
    (h : ∀ v' w', w'.ownsRow base e size v' (n + m) (xs ++ news) → w.grownBy w' v.ownBlock → K (a.put o.dst v') w') :
    if Region.wanted o (yielded ops a.tmps) = true then Oper.wp P o a w K Q else E := by
  have hw : Region.wanted o (yielded ops a.tmps) = true := by simp [Region.wanted, hgd]
  rw [if_pos hw]
  obtain ⟨v', w', hr, h2, h3⟩ := run_append_own_any (P := P) (w := w) base t o.type e i z size bytes ht hi hz hsize hby hzs hsz v n xs hown ad m c news hl hnews h1 h63 hbytes hbase
  unfold Oper.wp execOp
  simp only [ho, resolve, invoke, builtin, Sem.run_bind, Sem.run_pure, Result.andThen_ok, List.map_toArray, List.map_cons, List.map_nil, hs, hx, hr]
  exact h v' w' h2 h3
end Go.Proofs.Ytikpedfggbibpaa
namespace Go.Proofs.Ytikpedfggbibpaa
open Go.RowKit Go.Lib
set_option linter.unusedVariables false
set_option linter.unusedSimpArgs false

theorem KS.news {w : World} {a : Option Addr} {ks : List ByteArray} (h : KS w a ks) : 0 < ks.length → ∃ b, a = some b ∧ ∀ j u, (ks.map Value.string)[j]? = some u → w.cell? (b.add j) = some u := fun h0 => by
  obtain ⟨b, o, e, hc⟩ := h (by intro e; subst e; simp at h0)
  refine ⟨_, e, fun j u hu => ?_⟩
  obtain ⟨hj, rfl⟩ := List.getElem?_eq_some_iff.1 hu
  rw [Addr.add_lit, hc j (by simpa using hj)]
  simp
set_option maxRecDepth 20000 in
set_option maxHeartbeats 2000000 in
theorem allKeys_any (ks ks' : List ByteArray) (l l' : List J) (hsm : ks.length + ks'.length ≤ 100000) (va vb : Value) (w : World) (ha : RV w (V.ofJ (.obj ks l)) va) (hb : RV w (V.ofJ (.obj ks' l')) vb) :
    Calls Try.prog 70 #[va, vb] w fun e w' => KeysPost (ks ++ ks') w e w' ∧ Ext w w' := by
  unfold V.ofJ RV at ha hb
  obtain ⟨al, lc, ak, kc, rfl, z, hl, hk⟩ := ha
  obtain ⟨al', lc', ak', kc', rfl, z', hl', hk'⟩ := hb
  rw [V.ofJs_length, V.ofJs_length]
  obtain ⟨i0, hi, hz0, hz1, hz2⟩ := info_parts Try.infoStr
  have hks16 : ks.length * 16 ≤ reachN := by unfold reachN; omega
  have HCL : Hid (∀ w1, Ext w w1 → Calls Try.prog 44 #[.slice ak ks.length kc] w1 fun e w' => ∃ v', e = .returned v' ∧ OwnStrs w' w1.heap.size v' ks ∧ Ext w1 w') := fun w1 h1 => clone_strs ak kc ks w1 (hk.keep h1.keep) hks16
  have HK2 := Lib.hid hk'
  have HSM := Lib.hid hsm
  clear hl hk hl' hk' z z' hsm hks16
  generalize hlen1 : l.length = L1 at *
  generalize hlen2 : l'.length = L2 at *
  clear hlen1 hlen2
  go_enter Try.func70, Try.ntmps70
  go_wp2_with fail
  generalize hw2 : World.alloc (World.alloc w _) _ = w2
  have X2 : Ext w w2 := by rw [← hw2]; exact ((Ext.refl _).alloc _).alloc _
  have s1 : w2.cell? ⟨w.heap.size, 5, none⟩ = some (.slice ak ks.length kc) := by rw [← hw2]; simp
  have s2 : w2.cell? ⟨w.heap.size + 1, 5, none⟩ = some (.slice ak' ks'.length kc') := by
    rw [← hw2]
    have h9 := fun (A : Obj) (cs : Array Value) (t : TypeId) => cell_of_row ((w.alloc A).alloc (.cells cs t)) (w.heap.size + 1) 5 cs t (0, 0) (by rw [← World.size_alloc w A]; exact heap_alloc_new _ _)
    exact (h9 _ _ _).trans rfl
  have HX2 := Lib.hid X2
  have d1 : w2.drew.cell? ⟨w.heap.size, 5, none⟩ = some (.slice ak ks.length kc) := s1
  have d2 : w2.drew.cell? ⟨w.heap.size + 1, 5, none⟩ = some (.slice ak' ks'.length kc') := s2
  have HKS2 := Lib.hid (HK2.out.keep X2.keep)
  clear hw2 HK2 X2
  go_region_held3 (fun w' => w'.cell? ⟨w.heap.size, 5, none⟩ = some (.slice ak ks.length kc) ∧ w'.cell? ⟨w.heap.size + 1, 5, none⟩ = some (.slice ak' ks'.length kc'))
    (first
      | (go_split_ands
         with_reducible exact ⟨k4.get d1, k4.get d2⟩)
      | (go_split_ands
         with_reducible exact ⟨k1.get d1, k1.get d2⟩)
      | (go_split_ands
         with_reducible exact ⟨s1, s2⟩)
      | (go_split_ands
         with_reducible exact ⟨d1, d2⟩)
      | go_keep)
    (first
      | (go_at_call 44; refine (HCL.out _ (Ext.drew HX2.out)).mono ?_; rintro e w3 ⟨v3, rfl, ho, hb1⟩; have HO := Lib.hid ho; have HB1 := Lib.hid hb1; have k1 := hb1.keep; have HN3 := Lib.hid ((HKS2.out.keep k1).news); clear ho hb1)
      | (refine step_append_any rfl (.tmp 8) (.tmp 10) 24 rfl _ 9 i0 (.string ByteArray.empty) 1 16 Try.underlying24 hi hz0 hz1 hz2 rfl (by decide) v3 ks.length _ rfl HO.out ak' ks'.length kc' (ks'.map Value.string) rfl (by simp) HN3.out (by intro u hu; simp at hu; obtain ⟨k, _, rfl⟩ := hu; rfl) (by have := HSM.out; unfold maxLen; omega) (by have := HSM.out; omega) HB1.out.size ?_
         intro v4 w4 hown hgrow
         have HOWN := Lib.hid hown
         have HX4 : Hid (Ext w2.drew w4) := HB1.out.grown hgrow HB1.out.size (fun k hk => (HO.out.lt k hk).1)
         have k4 := HX4.out.keep
         clear hown hgrow))
  have HOW : Hid (OwnStrs w4 w2.drew.heap.size v4 (ks ++ ks')) := by
    unfold OwnStrs
    rw [List.length_append, List.map_append]
    exact HOWN.out
  have HKL : Hid ((ks ++ ks').length * 16 ≤ reachN) := by
    have h9 : ks.length + ks'.length ≤ 100000 := HSM.out
    have h8 : (ks ++ ks').length = ks.length + ks'.length := List.length_append
    show (ks ++ ks').length * 16 ≤ reachN
    unfold reachN
    omega
  clear s1 s2 d1 d2 k1 k4 HN3 HO HB1 HCL HKS2
  go_wp2_with (first
    | (go_at_call 77; refine (sort_strs w2.drew.heap.size v4 (ks ++ ks') _ HOW.out HKL.out).mono ?_; rintro e w5 ⟨rfl, ho5, hg5⟩; have HO5 := Lib.hid ho5; have HG5 := Lib.hid hg5; clear ho5 hg5)
    | (go_at_call 81; refine (compact_keys w2.drew.heap.size v4 (ks ++ ks') _ HO5.out HKL.out).mono ?_; rintro e w6 ⟨⟨a6, c6, K6, rfl, h61, h62, h63⟩, hg6⟩; have HG6 := Lib.hid hg6; have H61 := Lib.hid h61; have H62 := Lib.hid h62; have H63 := Lib.hid h63; clear hg6 h61 h62 h63))
  go_ret
  have x4 : Ext w w4 := (Ext.drew HX2.out).trans HX4.out
  have x5 : Ext w w5 := x4.grown HG5.out x4.size (fun k hk => by have := (HOW.out.lt k hk).1; have := (Ext.drew HX2.out).size; omega)
  exact ⟨⟨a6, c6, K6, rfl, H61.out, H62.out, H63.out⟩, x5.grown HG6.out x5.size (fun k hk => by have := (HO5.out.lt k hk).1; have := (Ext.drew HX2.out).size; omega)⟩
end Go.Proofs.Ytikpedfggbibpaa
