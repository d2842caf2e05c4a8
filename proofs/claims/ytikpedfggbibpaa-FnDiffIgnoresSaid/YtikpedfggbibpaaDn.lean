/- Walks: null, memberOf, slices.Clone of fragments. -/
import Derived.Test.YtikpedfggbibpaaDm
namespace Go.Proofs.Ytikpedfggbibpaa
open Go.RowKit Go.Lib
set_option linter.unusedVariables false
set_option linter.unusedSimpArgs false

theorem V.wNull (w : World) : RV w (V.ofJ .null) (.agg #[.int .i64 1, .int .i64 0, .float .f64 0, .string ByteArray.empty, .slice none 0 0, .slice none 0 0]) := by
  unfold V.ofJ RV
  exact ⟨none, 0, none, 0, rfl, ⟨by decide, by decide, by decide, by decide, by decide, by decide, by decide, by decide, fun x h => by cases h⟩, fun h => absurd rfl h, fun h => absurd rfl h⟩

theorem null_any (w : World) : Calls Try.prog 90 #[] w fun e w' => e = .returned (.agg #[.int .i64 1, .int .i64 0, .float .f64 0, .string ByteArray.empty, .slice none 0 0, .slice none 0 0]) ∧ w.alloc (.cells #[.int .i64 1, .int .i64 0, .float .f64 0, .string ByteArray.empty, .slice none 0 0, .slice none 0 0] 26) = w' := by
  go_enter Try.func90, Try.ntmps90
  go_wp2
  refine bodyPost_ret (results_cell_row rfl _ _ w.heap.size 26 _ _ _ rfl (heap_alloc_new _ _) Try.underlying26 rfl (by kernel_rfl)) rfl ?_
  exact ⟨rfl, rfl⟩

def ValPost (j : J) (w : World) (e : Ending) (w' : World) : Prop := ∃ v, e = .returned v ∧ RV w' (V.ofJ j) v ∧ Ext w w'

theorem memberOf_any (ks : List ByteArray) (l : List J) (s : ByteArray) (hj : J.ok (.obj ks l)) (hsm : l.length ≤ 100000) (v : Value) (w : World) (h : RV w (V.ofJ (.obj ks l)) v) :
    Calls Try.prog 59 #[v, .string s] w (ValPost (look ks l s) w) := by
  have hnd : ks.Nodup := by unfold J.ok at hj; exact hj.1
  have hlen : ks.length = l.length := by unfold J.ok at hj; exact hj.2.1
  unfold V.ofJ RV at h
  obtain ⟨al, lc, ak, kc, rfl, z, hl, hk⟩ := h
  have hksl : ks.length ≤ reachN := by have := z.hkl; have := z.hkc; omega
  rw [V.ofJs_length]
  have HI : Hid (∀ w1, Keep w w1 → Calls Try.prog 42 #[.slice ak ks.length kc, .string s] w1 fun e w' => e = .returned (.int .i64 (Lib.idxOfS ks s)) ∧ w1 = w') := fun w1 hk1 =>
    (index_strs ak kc ks s w1 (hk.keep hk1) hksl).mono fun e w' ⟨a, b⟩ => ⟨a, b.symm⟩
  have KK : ∀ (A B : Obj), Keep w ((w.alloc A).alloc B) := fun A B => (Keep.alloc _ _).trans (Keep.alloc _ _)
  by_cases hm : s ∈ ks
  · obtain ⟨q, hq, hqs⟩ := List.getElem_of_mem hm
    have hkq : ks[q]? = some s := List.getElem?_eq_some_iff.2 ⟨hq, hqs⟩
    rw [idx_nodup hkq hnd] at HI
    have hql : q < l.length := by omega
    rw [look_hit hql hkq hnd]
    obtain ⟨bb, oo, d0, d1, d2, d3, d4, d5, rfl, E⟩ := RV.elem (k := 0) (n := 0) (f := 0) (s := ByteArray.empty) (ks := []) hl q (by rw [V.ofJs_length]; exact hql)
    rw [V.ofJs_get l q hql] at E
    obtain ⟨sk, sn, sf, ss, sal, sll, slc, sak, skl, skc, rfl, rfl, rfl, rfl, rfl, rfl⟩ := E.rv.shape
    have lt2 := lt_of_cell E.h0
    have e0 := E.h0
    have e1 := E.h1
    have e2 := E.h2
    have e3 := E.h3
    have e4 := E.h4
    have e5 := E.h5
    simp only at lt2
    have HE := Lib.hid E.rv
    have hqI : (q : Int) < (l.length : Int) := by omega
    clear E hl hk z hkq hksl hnd hlen hj hm hqs hq
    go_enter Try.func59, Try.ntmps59
    go_wp2_with (go_at_call 42; refine (HI.out _ (KK _ _)).mono ?_; rintro e w' ⟨rfl, rfl⟩)
    refine bodyPost_ret (results_cell_row rfl _ _ (w.heap.size + 1) 26 _ _ _ rfl (by rw [← World.size_alloc]; exact heap_alloc_new _ _) Try.underlying26 rfl (by kernel_rfl)) rfl ?_
    exact ⟨_, rfl, HE.out.keep (KK _ _), ((Ext.refl _).alloc _).alloc _⟩
  · have hix : Lib.idxOfS ks s = -1 := by
      have := Lib.idxOfS_miss ks ks.length s (fun j hj e => hm (by
        simp [List.getD, hj] at e
        rw [← e]
        exact List.getElem_mem _))
      rwa [List.take_length] at this
    rw [hix] at HI
    rw [look_miss hm]
    have HN := Lib.hid (fun w1 => null_any w1)
    clear hl hk z hksl hnd hlen hj hm hix
    go_enter Try.func59, Try.ntmps59
    go_wp2_with (first
      | (go_at_call 42; refine (HI.out _ (KK _ _)).mono ?_; rintro e w' ⟨rfl, rfl⟩)
      | (go_at_call 90; refine (HN.out _).mono ?_; rintro e w' ⟨rfl, rfl⟩))
    refine bodyPost_ret (results_cell_row rfl _ _ (w.heap.size + 1) 26 _ _ _ rfl ((heap_alloc_old _ _ (by simp)).trans (by rw [← World.size_alloc]; exact heap_alloc_new _ _)) Try.underlying26 rfl (by kernel_rfl)) rfl ?_
    exact ⟨_, rfl, V.wNull _, (((Ext.refl _).alloc _).alloc _).alloc _⟩
/-- a path, cloned -/
def ClonePost (p : List Step) (w : World) (e : Ending) (w' : World) : Prop :=
  ∃ (v' : Value) (fs : List Fr), e = .returned v' ∧ fs.length = p.length ∧ (∀ i, (h : i < p.length) → (h' : i < fs.length) → FrOk w' p[i] fs[i]) ∧ w'.ownsRow w.heap.size 38 13 v' p.length (fs.flatMap Fr.cells) ∧ Ext w w'
def Try.laysCloneF_ren : Go.Shelf.Ren := ⟨fun | 41 => 68 | n => n, fun | 22 => 32 | 23 => 38 | 4 => 4 | n => n, fun | n => n⟩
theorem Try.laysCloneF : Go.Proofs.SlLaysE0.n41 Try.prog Try.laysCloneF_ren := {
  mixed := by kernel_rfl
  f41 := ⟨Try.f68.name, by decide, Try.func68.trans (congrArg some (by kernel_rfl))⟩
  t4 := Try.underlying4
  a4 := Try.isAgg4
  z4 := Try.sizeOf4
  v4 := Try.zeroValue4
  t22 := Try.underlying32
  a22 := Try.isAgg32
  z22 := Try.sizeOf32
  v22 := Try.zeroValue32 }
theorem clone_path (p : List Step) (hp : p.length ≤ 1000000) (v : Value) (w : World) (h : PathN w v p) : Calls Try.prog 68 #[v] w (ClonePost p w) := by
  obtain ⟨i0, hi, hz0, hz1, hz2⟩ := info_parts Try.infoFrag
  have zs : ∀ w, (Go.sizeOf 38).run Try.prog w = .ok 13 w := fun w => by kernel_rfl
  by_cases h0 : p = []
  · subst h0
    rw [h.2 rfl]
    exact (AnyE.slices_Clone_nil Try.laysCloneF 0 0 w).mono fun e w' ⟨he, hw⟩ => ⟨_, [], he, rfl, fun i h => by simp at h, World.ownsRow_nil _ _ _ _, by rw [hw]; exact .refl _⟩
  · obtain ⟨g, c, fs, rfl, hl, hf, hn⟩ := h.1.news (List.length_pos_iff.2 h0)
    have H := AnyE.slices_Clone Try.laysCloneF i0 zFrag 13 216 hi hz0 hz1 hz2 rfl (by decide) zs g 0 p.length c (fs.flatMap Fr.cells) w (by rw [flat_len, hl]) (by simp [maxLen]; omega) (by omega) (fun j u hu => by have := hn j u hu; rw [Addr.add_lit] at this; exact this) (flat_one fs)
    exact H.mono fun e w' ⟨v', he, ho, _, hb⟩ => ⟨v', fs, he, hl, fun i h h' => (hf i h h').ext hb, ho, hb⟩

theorem RV.six {w : World} {x : V} {v : Value} (h : RV w x v) : ∃ al lc ak kc, v = .agg #[.int .i64 x.kind, .int .i64 x.n, .float .f64 x.f, .string x.s, .slice al x.l.length lc, .slice ak x.keys.length kc] := by
  cases x
  unfold RV at h
  obtain ⟨al, lc, ak, kc, e, _⟩ := h
  exact ⟨al, lc, ak, kc, e⟩

theorem alike_kinds (x y : V) (hne : x.kind ≠ y.kind) (va vb : Value) (w : World) (ha : RV w x va) (hb : RV w y vb) : Calls Try.prog 58 #[va, vb] w (Gives (.bool false) w) := by
  obtain ⟨al, lc, ak, kc, rfl⟩ := ha.six
  obtain ⟨al', lc', ak', kc', rfl⟩ := hb.six
  clear ha hb
  generalize x.kind = k at *
  generalize y.kind = k' at *
  have h1 : (k == k') = false := by simp [hne]
  have h2 : (k != k') = true := by simp [hne]
  clear hne
  go_enter Try.func58, Try.ntmps58
  go_wp2
  go_ret
  exact .mk rfl (((Ext.refl _).alloc _).alloc _)

def leafs : J → J → Bool
  | .arr _, .arr _ => false
  | .obj _ _, .obj _ _ => false
  | _, _ => true
theorem ofJ_kind_eq : ∀ (a b : J), (V.ofJ a).kind = (V.ofJ b).kind → leafs a b = true → a.nofl → (a = .null ∧ b = .null) ∨ (∃ p q, a = .bool p ∧ b = .bool q) ∨ (∃ p q, a = .int p ∧ b = .int q) ∨ (∃ p q, a = .str p ∧ b = .str q) := by
  intro a b h hl hn
  cases a <;> cases b <;> simp_all [V.ofJ, V.kind, leafs, J.nofl]
theorem leafEq_kind : ∀ (a b : J), (V.ofJ a).kind ≠ (V.ofJ b).kind → leafEq a b = false := by
  intro a b h
  cases a <;> cases b <;> simp_all [V.ofJ, V.kind, leafEq]

theorem alike_any (a b : J) (hl : leafs a b = true) (han : a.nofl) (va vb : Value) (w : World) (ha : RV w (V.ofJ a) va) (hb : RV w (V.ofJ b) vb) : Calls Try.prog 58 #[va, vb] w (Gives (.bool (leafEq a b)) w) := by
  by_cases hk : (V.ofJ a).kind = (V.ofJ b).kind
  · rcases ofJ_kind_eq a b hk hl han with ⟨rfl, rfl⟩ | ⟨p, q, rfl, rfl⟩ | ⟨p, q, rfl, rfl⟩ | ⟨p, q, rfl, rfl⟩
    all_goals
      obtain ⟨al, lc, ak, kc, rfl⟩ := ha.six
      obtain ⟨al', lc', ak', kc', rfl⟩ := hb.six
      clear ha hb hk hl han
    · go_enter Try.func58, Try.ntmps58
      go_wp2
      go_ret
      exact .mk rfl (((Ext.refl _).alloc _).alloc _)
    · cases p <;> cases q
      all_goals
        go_enter Try.func58, Try.ntmps58
        go_wp2
        go_ret
        exact .mk rfl (((Ext.refl _).alloc _).alloc _)
    · go_enter Try.func58, Try.ntmps58
      go_wp2
      go_ret
      exact .mk (congrArg Value.bool (by simp [leafEq, V.ofJ, V.n] <;> rfl)) (((Ext.refl _).alloc _).alloc _)
    · go_enter Try.func58, Try.ntmps58
      go_wp2
      go_ret
      exact .mk (congrArg Value.bool (by simp [leafEq, V.ofJ, V.s, bytes_beq] <;> rfl)) (((Ext.refl _).alloc _).alloc _)
  · rw [leafEq_kind a b hk]
    exact alike_kinds _ _ hk va vb w ha hb
end Go.Proofs.Ytikpedfggbibpaa
