/- Walks: lists of texts: clone, sort, apart. -/
import Derived.Test.YtikpedfggbibpaaZ02
import Derived.Test.YtikpedfggbibpaaZ03
import Derived.Sort.OwnSorted
import Derived.BigQuiet
import Derived.Deep.QuietTactic
namespace Go.Proofs.Ytikpedfggbibpaa
open Go.RowKit
set_option linter.unusedVariables false

def toL (s : ByteArray) : List UInt8 := s.data.toList
def ofL (l : List UInt8) : ByteArray := ⟨l.toArray⟩
theorem ofL_toL (s : ByteArray) : ofL (toL s) = s := rfl
theorem toL_ofL (l : List UInt8) : toL (ofL l) = l := by simp [toL, ofL]
theorem toL_inj {a b : ByteArray} (h : toL a = toL b) : a = b := by rw [← ofL_toL a, h, ofL_toL]

/-- the texts in ascending order -/
def sortK (ks : List ByteArray) : List ByteArray := ((ks.map toL).mergeSort fun x y => decide (x ≤ y)).map ofL

theorem map_ofL_toL (ks : List ByteArray) : (ks.map toL).map ofL = ks := by
  rw [List.map_map]
  exact List.map_id' ks
theorem sortK_perm (ks : List ByteArray) : (sortK ks).Perm ks := by
  have h := (List.mergeSort_perm (ks.map toL) fun x y => decide (x ≤ y)).map ofL
  rw [map_ofL_toL] at h
  exact h
theorem sortK_length (ks : List ByteArray) : (sortK ks).length = ks.length := (sortK_perm ks).length_eq
theorem sortK_sorted (ks : List ByteArray) : (sortK ks).Pairwise fun a b => toL a ≤ toL b := by
  unfold sortK
  rw [List.pairwise_map]
  have h := List.pairwise_mergeSort (le := fun x y : List UInt8 => decide (x ≤ y)) (fun a b c h1 h2 => by simp only [decide_eq_true_eq] at *; exact List.le_trans h1 h2) (fun a b => by simp only [Bool.or_eq_true, decide_eq_true_eq]; exact List.le_total a b) (ks.map toL)
  refine h.imp fun h => ?_
  rw [toL_ofL, toL_ofL]
  simpa using h

theorem nodup_of_neighbours {l : List ByteArray} (hs : l.Pairwise fun a b => toL a ≤ toL b) (h : ∀ k, (hk : k < l.length) → 0 < k → l[k] ≠ l[k - 1]) : l.Nodup := by
  rw [List.Nodup, List.pairwise_iff_getElem]
  intro i j hi hj hij he
  have hs' := List.pairwise_iff_getElem.1 hs
  refine h j hj (by omega) (toL_inj (List.le_antisymm ?_ ?_))
  · rw [← he]
    by_cases hc : i = j - 1
    · subst hc; exact List.le_refl _
    · exact hs' i (j - 1) hi (by omega) (by omega)
  · exact hs' (j - 1) j (by omega) hj (by omega)

/-- a list of texts in a row of the call's own -/
def OwnStrs (w : World) (base : Nat) (v : Value) (ks : List ByteArray) : Prop := w.ownsRow base 9 1 v ks.length (ks.map Value.string)

/-- slices.Clone of texts -/
theorem clone_strs (a : Option Addr) (c : Nat) (ks : List ByteArray) (w : World) (hk : KS w a ks) (hn : ks.length * 16 ≤ reachN) :
    Calls Try.prog 44 #[.slice a ks.length c] w fun e w' => ∃ v', e = .returned v' ∧ OwnStrs w' w.heap.size v' ks ∧ Ext w w' := by
  unfold reachN at hn
  by_cases h0 : ks = []
  · subst h0
    cases a with
    | none => exact (Try.slices_Clone_string_nil 0 c w).mono fun e w' ⟨he, hw⟩ => ⟨_, he, World.ownsRow_nil _ _ _ _, by rw [hw]; exact Ext.refl _⟩
    | some a => exact (Try.slices_Clone_string_zero a c w).mono fun e w' ⟨v', he, ho, _, hb⟩ => ⟨v', he, ho, hb⟩
  · obtain ⟨b, o, rfl, hc⟩ := hk h0
    refine (Try.slices_Clone_string b o ks.length c ks w (Nat.le_refl _) (by omega) (fun j hj => by rw [hc j hj]; simp [List.getD, hj])).mono fun e w' ⟨v', he, ho, _, hb⟩ => ⟨v', he, ?_, hb⟩
    rw [List.take_length] at ho
    exact ho

/-- slices.Sort of texts in a row of the call's own -/
theorem sort_strs (base : Nat) (v : Value) (ks : List ByteArray) (w : World) (ho : OwnStrs w base v ks) (hn : ks.length * 16 ≤ reachN) :
    Calls Try.prog 77 #[v] w fun e w' => e = .returned (.tuple #[]) ∧ OwnStrs w' base v (sortK ks) ∧ w.grownBy w' v.ownBlock := by
  unfold reachN at hn
  unfold OwnStrs at ho
  rcases ho.2 with ⟨rfl, h0⟩ | ⟨g, cap, cur, rfl, hbase, hb, h1, h2, h3, h4⟩
  · refine (Try.slices_Sort_string_none none 0 w).mono fun e w' ⟨he, hw⟩ => ⟨he, ?_, ?_⟩
    · have : ks = [] := List.eq_nil_of_length_eq_zero h0
      subst this
      unfold OwnStrs
      rw [show sortK [] = [] from by simp [sortK]]
      exact World.ownsRow_nil _ _ _ _
    · rw [hw]; exact ⟨rfl, rfl, rfl, Nat.le_refl _, fun _ _ _ => rfl⟩
  · have hl : (ks.map toL).length = ks.length := by simp
    have H := Try.slices_Sort_string g 0 cap (ks.map toL) w (holds_of_block hb (by rw [hl]; rw [Nat.mul_one] at h4; rw [h4, List.map_map]; rfl)) (Array.getElem?_eq_some_iff.1 hb).1 (by rw [hl]; omega)
    rw [hl] at H
    refine H.mono fun e w' ⟨he, nn, os, hw⟩ => ⟨he, ?_, ?_⟩
    · have := ownsRow_sorted (w := w) (n := nn) (os := os) (ts := (ks.map toL).mergeSort fun x y => decide (x ≤ y)) (ss := ks.map toL) (by simp) hbase hb (by rw [hl]; exact h1) h2 h3
      rw [hl, ← hw] at this
      unfold OwnStrs
      rw [sortK_length]
      unfold sortK
      rw [List.map_map]
      exact this
    · rw [hw]; exact grownBy_sorted _

/-- what apart leaves -/
def ApartPost (ks : List ByteArray) (w : World) (e : Ending) (w' : World) : Prop := ∃ b : Bool, e = .returned (.bool b) ∧ (b = true → ks.Nodup) ∧ Ext w w'

set_option maxHeartbeats 1000000 in
theorem apart_any (a : Option Addr) (c : Nat) (ks : List ByteArray) (w : World) (hk : KS w a ks) (hn : ks.length * 16 ≤ reachN) :
    Calls Try.prog 97 #[.slice a ks.length c] w (ApartPost ks w) := by
  have HC := Lib.hid (clone_strs a c ks w hk hn)
  have HN := Lib.hid hn
  have hn' : ks.length ≤ 140737488351232 := by unfold reachN at hn; omega
  clear hk hn
  go_enter Try.func97, Try.ntmps97
  go_wp2_with fail
  refine (HC.out).mono ?_
  rintro e w1 ⟨v', rfl, ho, hb1⟩
  have HB1 := Lib.hid hb1
  have HO := Lib.hid ho
  clear ho hb1
  go_wp2_with fail
  refine (sort_strs w.heap.size v' ks w1 HO.out HN.out).mono ?_
  rintro e w2 ⟨rfl, ho2, hg2⟩
  have HG := Lib.hid hg2
  have hsl := sortK_length ks
  have HS := Lib.hid hsl
  unfold OwnStrs at ho2
  rw [hsl] at ho2
  have hlt := HO.out.lt
  have HLT := Lib.hid hlt
  clear hsl hg2 hlt
  rcases ho2.2 with ⟨rfl, h0⟩ | ⟨g, cap, cur, rfl, hbase, hb, h1, h2, h3, h4⟩
  · have hnil : ks = [] := List.eq_nil_of_length_eq_zero h0
    have HNil := Lib.hid hnil
    clear hnil h0 ho2 HC
    go_wp2
    refine wp_loop_rounds 1 ?_
    rw [rounds_succ]
    have hl0 : (ks.length : Int) ≤ 0 := by rw [HNil.out]; simp
    go_wp2
    go_ret
    exact ⟨true, rfl, fun _ => by rw [HNil.out]; exact List.nodup_nil, HB1.out.grown HG.out HB1.out.size (fun k hk => by cases hk)⟩
  · have hcell : ∀ j, (h : j < (sortK ks).length) → w2.cell? ⟨g, j, none⟩ = some (.string (sortK ks)[j]) := fun j h => by
      have := ho2.cellAt j (by rw [HS.out] at h; omega)
      rw [this]
      simp
    have HCell := Lib.hid hcell
    have EB : Ext w w2 := HB1.out.grown HG.out HB1.out.size (fun k hk => by
      simp only [Value.ownBlock, Option.some.injEq] at hk
      omega)
    have HE := Lib.hid EB
    have hlk := HS.out
    have HLK := Lib.hid hlk
    clear EB hcell ho2 HC hb h4 h3 hlk
    go_wp2
    go_loopw [4] (fun i wr => ∃ j : Nat, 1 ≤ j ∧ (j ≤ ks.length ∨ j = 1) ∧ i = .int .i64 j ∧ Ext w2 wr ∧ (∀ q, (hq : q < (sortK ks).length) → 0 < q → q < j → (sortK ks)[q] ≠ (sortK ks)[q - 1])) (fun i _ => ks.length - (intOf i).toNat)
    case atStart => exact ⟨1, Nat.le_refl _, Or.inr rfl, rfl, Ext.refl _, fun q _ h0 h1 => by omega⟩
    case round =>
      obtain ⟨j, hj1, hj2, rfl, hb, hne⟩ := hrel
      have HNE := Lib.hid hne
      have HBR := Lib.hid hb
      clear hne hb
      by_cases hlt : j < ks.length
      · have hj3 : j < (sortK ks).length := by rw [HLK.out]; exact hlt
        have c1 := HBR.out.keep _ _ (HCell.out j hj3)
        have c2 := HBR.out.keep _ _ (HCell.out (j - 1) (by omega))
        obtain ⟨p, hp⟩ : ∃ p, p = (sortK ks)[j] := ⟨_, rfl⟩
        obtain ⟨q, hq⟩ : ∃ q, q = (sortK ks)[j - 1] := ⟨_, rfl⟩
        rw [← hp] at c1
        rw [← hq] at c2
        have HP := Lib.hid hp
        have HQ := Lib.hid hq
        have i0 : (0 : Int) ≤ (j : Int) - 1 := by omega
        have i1 : (j : Int) - 1 < (ks.length : Int) := by omega
        have i2 : ((j : Int) - 1).toNat = j - 1 := by omega
        clear hp hq
        by_cases hpq : p = q
        · have hb : (p.toList == q.toList) = true := by rw [hpq]; simp
          clear hpq
          go_wp2_with fail
          go_quiet (fail)
          go_wp2
          go_ret
          exact ⟨false, rfl, fun h => by (cases h), HE.out.trans (HBR.out.drewN _)⟩
        · have hb : (p.toList == q.toList) = false := by rw [bytes_beq]; simp [hpq]
          have HPQ : Hid (p ≠ q) := hpq
          clear hpq
          go_wp2_with fail
          go_quiet (fail)
          go_wp2
          go_roundw
          case rel => exact ⟨j + 1, by omega, Or.inl (by omega), by go_num, HBR.out.drewN _, fun x hx h0 h1 => by
            by_cases hxj : x = j
            · subst hxj
              rw [← HP.out, ← HQ.out]
              exact HPQ.out
            · exact HNE.out x hx h0 (by omega)⟩
          case measure => simp [intOf]; omega
      · have HND : Hid ((sortK ks).Nodup) := nodup_of_neighbours (sortK_sorted ks) (fun k hk h0 => HNE.out k hk h0 (by rw [HLK.out] at hk; omega))
        go_wp2
        go_ret
        exact ⟨true, rfl, fun _ => (sortK_perm ks).nodup_iff.1 HND.out, HE.out.trans HBR.out⟩
end Go.Proofs.Ytikpedfggbibpaa
