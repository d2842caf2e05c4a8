/- Walks: allKeys. -/
import Derived.Test.YtikpedfggbibpaaDn
namespace Go.Proofs.Ytikpedfggbibpaa
open Go.RowKit Go.Lib
set_option linter.unusedVariables false
set_option linter.unusedSimpArgs false

/-! ### Compact of a sorted list -/
theorem compactUpTo_inv (zs : List (List UInt8)) (hs : zs.Pairwise (· ≤ ·)) : ∀ m, m ≤ zs.length → (compactUpTo zs.toArray m).Nodup ∧ ∀ x, x ∈ compactUpTo zs.toArray m ↔ x ∈ zs.take m
  | 0, _ => by simp [compactUpTo]
  | m + 1, h => by
    obtain ⟨h1, h2⟩ := compactUpTo_inv zs hs m (by omega)
    have hg : zs.toArray[m]! = zs[m] := by rw [List.getElem!_toArray, getElem!_pos zs m (by omega)]
    rw [compactUpTo_succ, List.take_succ_eq_append_getElem (by omega), hg]
    rcases Nat.eq_zero_or_pos m with rfl | h0
    · rw [keeps_lt_one _ _ (by omega)]
      simp [compactUpTo]
    · have hg' : zs.toArray[m - 1]! = zs[m - 1] := by rw [List.getElem!_toArray, getElem!_pos zs (m - 1) (by omega)]
      by_cases he : zs[m] = zs[m - 1]
      · rw [keeps_neg h0 (by rw [hg, hg', he])]
        simp only [Bool.false_eq_true, if_false, List.append_nil]
        refine ⟨h1, fun x => ?_⟩
        rw [h2, List.mem_append, List.mem_singleton]
        constructor
        · exact Or.inl
        · rintro (h | rfl)
          · exact h
          · rw [he]
            exact List.mem_take_iff_getElem.2 ⟨m - 1, by omega, rfl⟩
      · rw [keeps_pos (by rw [hg, hg']; exact he)]
        simp only [if_true]
        refine ⟨?_, fun x => by rw [List.mem_append, h2, List.mem_append]⟩
        rw [List.nodup_append]
        refine ⟨h1, by simp, fun a ha b hb e => ?_⟩
        simp only [List.mem_singleton] at hb
        subst hb
        rw [h2] at ha
        obtain ⟨i, hi, hia⟩ := List.mem_take_iff_getElem.1 ha
        have hs' := List.pairwise_iff_getElem.1 hs
        refine he (List.le_antisymm ?_ (hs' (m - 1) m (by omega) (by omega) (by omega)))
        rw [← e, ← hia]
        by_cases hc : i = m - 1
        · subst hc; exact List.le_refl _
        · exact hs' i (m - 1) (by omega) (by omega) (by omega)
theorem compact_sorted {zs : List (List UInt8)} (hs : zs.Pairwise (· ≤ ·)) : (Lib.compact zs).Nodup ∧ ∀ x, x ∈ Lib.compact zs ↔ x ∈ zs := by
  have := compactUpTo_inv zs hs zs.length (Nat.le_refl _)
  rw [List.take_length] at this
  exact this

def KeysPost (ks : List ByteArray) (w : World) (e : Ending) (w' : World) : Prop := ∃ (a : Option Addr) (c : Nat) (K : List ByteArray), e = .returned (.slice a K.length c) ∧ KS w' a K ∧ K.Nodup ∧ (∀ k, k ∈ K ↔ k ∈ ks)

/-- slices.Compact of sorted texts -/
theorem compact_keys (base : Nat) (v : Value) (ks : List ByteArray) (w : World) (ho : OwnStrs w base v (sortK ks)) (hn : ks.length * 16 ≤ reachN) :
    Calls Try.prog 81 #[v] w fun e w' => KeysPost ks w e w' ∧ w.grownBy w' v.ownBlock := by
  unfold reachN at hn
  have hsl := sortK_length ks
  have hper := sortK_perm ks
  have hsrt := sortK_sorted ks
  generalize sortK ks = S at *
  unfold OwnStrs at ho
  rcases ho.2 with ⟨rfl, h0⟩ | ⟨g, cap, cur, rfl, hbase, hb, h1, h2, h3, h4⟩
  · have hS : S = [] := List.eq_nil_of_length_eq_zero h0
    subst hS
    refine (Try.slices_Compact_string_empty none 0 w).mono fun e w' ⟨he, hw⟩ => ⟨⟨none, 0, [], he, fun h => absurd rfl h, List.nodup_nil, fun k => by rw [← hper.mem_iff]⟩, ?_⟩
    rw [hw]; exact ⟨rfl, rfl, rfl, Nat.le_refl _, fun _ _ _ => rfl⟩
  · have hl : (S.map toL).length = S.length := by simp
    have hH : Go.Sort.Holds encStr w g 0 (S.map toL).toArray := holds_of_block hb (by rw [hl]; rw [Nat.mul_one] at h4; rw [h4, List.map_map]; rfl)
    have H := Try.slices_Compact_string g 0 cap (S.map toL) w hH (by rw [hl]; omega) (by rw [hl]; exact h1)
    have hsorted : (S.map toL).Pairwise (· ≤ ·) := by rw [List.pairwise_map]; exact hsrt
    obtain ⟨c1, c2⟩ := compact_sorted hsorted
    have hle := compact_length_le (S.map toL)
    rw [hl] at H hle
    generalize Lib.compact (S.map toL) = C at *
    refine H.mono fun e w' ⟨he, q, hw⟩ => ⟨⟨some ⟨g, 0, none⟩, cap, C.map ofL, by rw [he, List.length_map], fun _ => ⟨g, 0, rfl, fun i hi => ?_⟩, ?_, fun k => ?_⟩, ?_⟩
    · have hi' : i < C.length := by simpa using hi
      have := Go.Sort.cell?_putRow encStr (Go.Sort.ahead w q) g 0 (S.map toL).toArray (C ++ List.replicate (S.length - C.length) []).toArray (Go.Sort.holds_ahead _ _ _ _ _ _ hH) (by simp; omega) i (by simp; omega)
      rw [hw, this]
      simp only [List.getElem!_toArray, List.getElem_map]
      rw [getElem!_pos _ i (by simp; omega), List.getElem_append_left hi']
      rfl
    · rw [List.Nodup, List.pairwise_map]
      exact c1.imp fun hne e => hne (by have := congrArg toL e; rwa [toL_ofL, toL_ofL] at this)
    · rw [List.mem_map]
      constructor
      · rintro ⟨x, hx, rfl⟩
        rw [c2, List.mem_map] at hx
        obtain ⟨y, hy, rfl⟩ := hx
        rw [ofL_toL]
        exact hper.mem_iff.1 hy
      · intro hk
        exact ⟨toL k, (c2 _).2 (List.mem_map.2 ⟨k, hper.mem_iff.2 hk, rfl⟩), ofL_toL k⟩
    · rw [hw]
      refine ⟨rfl, rfl, rfl, by simp [Go.Sort.putRow, Go.Sort.mapBlock, Go.Sort.ahead], fun k hk hne => ?_⟩
      have : g ≠ k := fun e => hne (by rw [← e]; rfl)
      simp [Go.Sort.putRow, Go.Sort.mapBlock, Go.Sort.ahead, Array.getElem?_modify, this]

/-! ### append of whatever slice -/
theorem run_append_own_any {P : Program} {w : World} (base : Nat) (t ty e : TypeId) (i : TypeInfo) (z : Value) (size bytes : Nat) (ht : P.underlying t = some (.slice e)) (hi : P.info? e = some i) (hz : i.zero = some z)
    (hsize : i.size = size) (hby : i.bytes = bytes) (hzs : z.cells.size = size) (hsz : 0 < size)
    (v : Value) (n : Nat) (xs : List Value) (hown : w.ownsRow base e size v n xs)
    (a : Option Addr) (m c : Nat) (news : List Value) (hl : news.length = m * size) (hnews : 0 < m → ∃ ad, a = some ad ∧ ∀ j u, news[j]? = some u → w.cell? (ad.add j) = some u) (h1 : ∀ u ∈ news, u.oneCell' = true)
    (h63 : n + m ≤ maxLen) (hbytes : (n + m) * bytes ≤ 140737488355328) (hbase : base ≤ w.heap.size) :
    ∃ v' w', (Builtin.append_ #[t, t] ty #[v, .slice a m c]).run P w = .ok v' w' ∧ w'.ownsRow base e size v' (n + m) (xs ++ news) ∧ w.grownBy w' v.ownBlock := by
  cases a with
  | some ad =>
    obtain ⟨v', w', r1, r2, r3, _⟩ := run_append_own_at (P := P) (w := w) base t ty e i z size bytes ht hi hz hsize hby hzs hsz v n xs hown ad m c news hl (fun j u hu => by
      rcases Nat.eq_zero_or_pos m with rfl | h0
      · rw [Nat.zero_mul] at hl
        rw [List.eq_nil_of_length_eq_zero hl] at hu
        simp at hu
      · obtain ⟨ad', e', h⟩ := hnews h0
        cases e'
        exact h j u hu) h1 h63 hbytes hbase
    exact ⟨v', w', r1, r2, r3⟩
  | none =>
    have hm : m = 0 := by
      rcases Nat.eq_zero_or_pos m with rfl | h0
      · rfl
      · obtain ⟨ad', e', h⟩ := hnews h0
        cases e'
    subst hm
    rw [Nat.zero_mul] at hl
    obtain rfl := List.eq_nil_of_length_eq_zero hl
    refine ⟨v, w, ?_, by simpa using hown, ⟨rfl, rfl, rfl, Nat.le_refl _, fun _ _ _ => rfl⟩⟩
    rcases hown.2 with ⟨rfl, rfl⟩ | ⟨g, cap, cur, rfl, _, _, hnc, _⟩
    · simp [Builtin.append_, run_underlying ht, sizeOf, typeInfo, hi, Builtin.lenOf, Builtin.firstCells]
    · simp [Builtin.append_, run_underlying ht, sizeOf, typeInfo, hi, Builtin.lenOf, Builtin.firstCells, hnc, storeCells]
theorem step_append_any {P : Program} {w : World} {ops : Array Oper} {o : Oper} {a : Act} {K : Act → World → Prop} {Q : Exit → Act → World → Prop} {E : Prop} (hgd : o.guard = none) (s x : Operand) (t : TypeId)
    (ho : o.op = .call { callee := .builtin .append, args := #[s, x], argTypes := #[t, t] })
    (base : Nat) (e : TypeId) (i : TypeInfo) (z : Value) (size bytes : Nat) (ht : P.underlying t = some (.slice e)) (hi : P.info? e = some i) (hz : i.zero = some z)
    (hsize : i.size = size) (hby : i.bytes = bytes) (hzs : z.cells.size = size) (hsz : 0 < size)
    (v : Value) (n : Nat) (xs : List Value) (hs : a.eval s = v) (hown : w.ownsRow base e size v n xs)
    (ad : Option Addr) (m c : Nat) (news : List Value) (hx : a.eval x = .slice ad m c) (hl : news.length = m * size) (hnews : 0 < m → ∃ b, ad = some b ∧ ∀ j u, news[j]? = some u → w.cell? (b.add j) = some u) (h1 : ∀ u ∈ news, u.oneCell' = true)
    (h63 : n + m ≤ maxLen) (hbytes : (n + m) * bytes ≤ 140737488355328) (hbase : base ≤ w.heap.size)
    (h : ∀ v' w', w'.ownsRow base e size v' (n + m) (xs ++ news) → w.grownBy w' v.ownBlock → K (a.put o.dst v') w') :
    if Region.wanted o (yielded ops a.tmps) = true then Oper.wp P o a w K Q else E := by
  have hw : Region.wanted o (yielded ops a.tmps) = true := by simp [Region.wanted, hgd]
  rw [if_pos hw]
  obtain ⟨v', w', hr, h2, h3⟩ := run_append_own_any (P := P) (w := w) base t o.type e i z size bytes ht hi hz hsize hby hzs hsz v n xs hown ad m c news hl hnews h1 h63 hbytes hbase
  unfold Oper.wp execOp
  simp only [ho, resolve, invoke, builtin, Sem.run_bind, Sem.run_pure, Result.andThen_ok, List.map_toArray, List.map_cons, List.map_nil, hs, hx, hr]
  exact h v' w' h2 h3
end Go.Proofs.Ytikpedfggbibpaa
