/- Walks: slices.IndexFunc, ContainsFunc over values; big, right. Walks: big, right. -/
import Derived.Test.YtikpedfggbibpaaZ12
namespace Go.Proofs.Ytikpedfggbibpaa
open Go.RowKit
set_option linter.unusedVariables false
set_option linter.unusedSimpArgs false

def IdxPost (p : Nat → Bool) (n : Nat) (w : World) (e : Ending) (w' : World) : Prop :=
  ∃ i : Int, e = .returned (.int .i64 i) ∧ ((i = -1 ∧ ∀ q, q < n → p q = false) ∨ ∃ q : Nat, q < n ∧ i = q ∧ p q = true) ∧ Ext w w'

/-- a predicate on values, at the places of a row -/
def PredV (F : Nat) (lb : Array Value) (l : List V) (p : Nat → Bool) (w : World) : Prop :=
  ∀ (q : Nat) (hq : q < l.length) (v : Value) (w' : World), Ext w w' → RV w' l[q] v → Calls Try.prog F (#[v] ++ lb) w' (Gives (.bool (p q)) w')

set_option maxRecDepth 20000 in
set_option maxHeartbeats 1000000 in
theorem indexFunc_any (F : Nat) (lb : Array Value) (eg : ∀ args w, (callFunc F args).run Try.prog w = .ok (.enter F args) w) (l : List V) (p : Nat → Bool) (al : Option Addr) (lc : Nat) (w : World) (hl : l ≠ [] → ∃ b o, al = some ⟨b, o, none⟩ ∧ RVs w b o l) (hn : l.length ≤ reachN) (hp : PredV F lb l p w) :
    Calls Try.prog 51 #[.slice al l.length lc, .func (.func F) #[] lb] w (IdxPost p l.length w) := by
  unfold reachN at hn
  have HL := Lib.hid hl
  have HP := Lib.hid hp
  clear hl hp
  go_enter Try.func51, Try.ntmps51
  go_wp2
  go_loopw [8] (fun i wr => ∃ m : Nat, m ≤ l.length ∧ i = .int .i64 m ∧ (∀ q, q < m → p q = false) ∧ Ext w wr) (fun i _ => l.length - (intOf i).toNat)
  case atStart => exact ⟨0, Nat.zero_le _, rfl, fun q h => by omega, Ext.refl _⟩
  case round =>
    obtain ⟨m, hm, rfl, hall, hb⟩ := hrel
    have HA := Lib.hid hall
    have HB := Lib.hid hb
    clear hall hb
    by_cases hltm : m < l.length
    · try clear hm
      obtain ⟨bb, oo, d0, d1, d2, d3, d4, d5, rfl, E⟩ := RV.elem (k := 0) (n := 0) (f := 0) (s := ByteArray.empty) (ks := []) HL.out m hltm
      have KK : Keep w wr := HB.out.keep
      have e0 := KK _ _ E.h0
      have e1 := KK _ _ E.h1
      have e2 := KK _ _ E.h2
      have e3 := KK _ _ E.h3
      have e4 := KK _ _ E.h4
      have e5 := KK _ _ E.h5
      have HC := Lib.hid (HP.out m hltm _ wr HB.out (RV.keep KK _ E.rv))
      clear E KK
      generalize hpm : p m = b at HC
      have HPM := Lib.hid hpm
      clear hpm
      go_wp2_with (go_at_fn F; refine (HC.out).mono ?_; rintro e w2 ⟨rfl, hb2⟩; have HB2 := Lib.hid hb2; clear hb2 HC; cases b)
      · go_roundw
        case rel => exact ⟨m + 1, by omega, by go_num, fun q hq => by
          by_cases hqm : q = m
          · subst hqm; exact HPM.out
          · exact HA.out q (by omega), HB.out.trans HB2.out⟩
        case measure => simp [intOf]; omega
      · go_ret
        exact ⟨m, rfl, Or.inr ⟨m, hltm, rfl, HPM.out⟩, HB.out.trans HB2.out⟩
    · have HX : Hid (∀ q, q < l.length → p q = false) := fun q hq => HA.out q (by omega)
      clear HL HP HA
      go_wp2
      go_ret
      exact ⟨-1, rfl, Or.inl ⟨rfl, HX.out⟩, HB.out⟩

def AnyPost (p : Nat → Bool) (n : Nat) (w : World) (e : Ending) (w' : World) : Prop :=
  ∃ b : Bool, e = .returned (.bool b) ∧ (b = true ↔ ∃ q, q < n ∧ p q = true) ∧ Ext w w'

theorem containsFunc_any (F : Nat) (lb : Array Value) (eg : ∀ args w, (callFunc F args).run Try.prog w = .ok (.enter F args) w) (l : List V) (p : Nat → Bool) (al : Option Addr) (lc : Nat) (w : World) (hl : l ≠ [] → ∃ b o, al = some ⟨b, o, none⟩ ∧ RVs w b o l) (hn : l.length ≤ reachN) (hp : PredV F lb l p w) :
    Calls Try.prog 15 #[.slice al l.length lc, .func (.func F) #[] lb] w (AnyPost p l.length w) := by
  have HC := Lib.hid (indexFunc_any F lb eg l p al lc w hl hn hp)
  clear hl hp eg
  unfold reachN at hn
  go_enter Try.func15, Try.ntmps15
  go_wp2_with (go_at_call 51; refine (HC.out).mono ?_; rintro e w2 ⟨i, rfl, hi, hb2⟩; have HB2 := Lib.hid hb2; have HI := Lib.hid hi; clear hb2 HC hi)
  go_ret
  refine ⟨_, rfl, ?_, HB2.out⟩
  rcases HI.out with ⟨rfl, h⟩ | ⟨q, hq, rfl, h⟩
  · constructor
    · intro h1
      simp at h1
    · rintro ⟨q, hq, h1⟩
      rw [h q hq] at h1
      cases h1
  · constructor
    · intro _
      exact ⟨q, hq, h⟩
    · intro _
      simp
end Go.Proofs.Ytikpedfggbibpaa
namespace Go.Proofs.Ytikpedfggbibpaa
open Go.RowKit Go.Lib
set_option linter.unusedVariables false
set_option linter.unusedSimpArgs false

def J.kids : J → List J
  | .arr l => l
  | .obj _ l => l
  | _ => []
theorem V.ofJ_form (j : J) : ∃ k n f s ks, V.ofJ j = .mk k n f s (V.ofJs j.kids) ks ∧ k ≠ 6 ∧ J.nodesL j.kids < j.nodes := by
  cases j <;> simp [V.ofJ, J.kids, V.ofJs, J.nodes, J.nodesL] <;> omega

theorem Try.entersBig (args : Array Value) (w : World) : (callFunc 38 args).run Try.prog w = .ok (.enter 38 args) w := enters_of Try.func38 (by kernel_rfl) rfl args w
theorem Try.entersRight1 (args : Array Value) (w : World) : (callFunc 80 args).run Try.prog w = .ok (.enter 80 args) w := enters_of Try.func80 (by kernel_rfl) rfl args w
theorem Try.entersRight2 (args : Array Value) (w : World) : (callFunc 82 args).run Try.prog w = .ok (.enter 82 args) w := enters_of Try.func82 (by kernel_rfl) rfl args w

set_option maxHeartbeats 1000000 in
theorem big_any (N : Nat) : ∀ (j : J), j.nodes ≤ N → ∀ (v : Value) (w : World), RV w (V.ofJ j) v → Calls Try.prog 38 #[v] w (Gives (.bool false) w) := by
  induction N with
  | zero => intro j hj; have := j.nodes_pos; omega
  | succ N ih =>
  intro j hN v w h
  obtain ⟨k, n, f, s, ks, e, hk6, hnl⟩ := V.ofJ_form j
  rw [e] at h
  unfold RV at h
  obtain ⟨al, lc, ak, kc, rfl, z, hl, hk⟩ := h
  have hll : (V.ofJs j.kids).length ≤ reachN := by have := z.hll; have := z.hlc; omega
  have HC : Hid (∀ w1, Ext w w1 → Calls Try.prog 15 #[.slice al (V.ofJs j.kids).length lc, .func (.func 38) #[] #[]] w1 (AnyPost (fun _ => false) (V.ofJs j.kids).length w1)) := fun w1 h1 =>
    containsFunc_any 38 #[] Try.entersBig (V.ofJs j.kids) (fun _ => false) al lc w1 (fun hn => by obtain ⟨b, o, e, hr⟩ := hl hn; exact ⟨b, o, e, RVs.keep h1.keep _ hr⟩) hll (fun q hq v w' he hv => by
      have hq' : q < j.kids.length := by rw [V.ofJs_length] at hq; exact hq
      rw [V.ofJs_get _ _ hq'] at hv
      have := J.nodes_mem (List.getElem_mem hq')
      exact ih j.kids[q] (by omega) v w' hv)
  have hk6' : (k == 6) = false := by simp [hk6]
  generalize V.ofJs j.kids = L at *
  clear ih hl hk z hN hnl hk6 e
  go_enter Try.func38, Try.ntmps38
  go_wp2_with (go_at_call 15; refine (HC.out _ ((Ext.refl _).alloc _)).mono ?_; rintro e w2 ⟨b, rfl, hb, hb2⟩; have HB2 := Lib.hid hb2; have HB := Lib.hid hb; clear hb2 HC hb; cases b)
  · go_wp2
    go_ret
    exact .mk rfl (((Ext.refl _).alloc _).trans HB2.out)
  · obtain ⟨q, _, h⟩ := HB.out.1 (by first | rfl | trivial)
    cases h

def RightAt (j : J) : Prop := ∀ (v : Value) (w : World), RV w (V.ofJ j) v → Calls Try.prog 37 #[v] w (Gives (.bool true) w)

theorem right1_of {j : J} (h : RightAt j) (v : Value) (w : World) (hv : RV w (V.ofJ j) v) : Calls Try.prog 80 #[v] w (Gives (.bool false) w) := by
  have hsh : ∃ k n f s al ll lc ak kl kc, v = .agg #[.int .i64 k, .int .i64 n, .float .f64 f, .string s, .slice al ll lc, .slice ak kl kc] := by
    generalize V.ofJ j = x at hv
    cases x; unfold RV at hv; obtain ⟨al, lc, ak, kc, e, _⟩ := hv; exact ⟨_, _, _, _, _, _, _, _, _, _, e⟩
  obtain ⟨k, n, f, s, al, ll, lc, ak, kl, kc, rfl⟩ := hsh
  have HC := Lib.hid (h _ _ (RV.keep (Keep.alloc w (Obj.cells #[.int .i64 k, .int .i64 n, .float .f64 f, .string s, .slice al ll lc, .slice ak kl kc] 26)) _ hv))
  clear h hv
  go_enter Try.func80, Try.ntmps80
  go_wp2_with (go_at_call 37; refine (HC.out).mono ?_; rintro e w2 ⟨rfl, hb2⟩; have HB2 := Lib.hid hb2; clear hb2 HC)
  go_ret
  exact .mk rfl (((Ext.refl _).alloc _).trans HB2.out)
theorem right2_of {j : J} (h : RightAt j) (v : Value) (w : World) (hv : RV w (V.ofJ j) v) : Calls Try.prog 82 #[v] w (Gives (.bool false) w) := by
  have hsh : ∃ k n f s al ll lc ak kl kc, v = .agg #[.int .i64 k, .int .i64 n, .float .f64 f, .string s, .slice al ll lc, .slice ak kl kc] := by
    generalize V.ofJ j = x at hv
    cases x; unfold RV at hv; obtain ⟨al, lc, ak, kc, e, _⟩ := hv; exact ⟨_, _, _, _, _, _, _, _, _, _, e⟩
  obtain ⟨k, n, f, s, al, ll, lc, ak, kl, kc, rfl⟩ := hsh
  have HC := Lib.hid (h _ _ (RV.keep (Keep.alloc w (Obj.cells #[.int .i64 k, .int .i64 n, .float .f64 f, .string s, .slice al ll lc, .slice ak kl kc] 26)) _ hv))
  clear h hv
  go_enter Try.func82, Try.ntmps82
  go_wp2_with (go_at_call 37; refine (HC.out).mono ?_; rintro e w2 ⟨rfl, hb2⟩; have HB2 := Lib.hid hb2; clear hb2 HC)
  go_ret
  exact .mk rfl (((Ext.refl _).alloc _).trans HB2.out)

theorem compact_nodup {ks : List ByteArray} (h : ks.Nodup) : Lib.compact (ks.map toL) = ks.map toL := by
  refine Lib.compact_all _ fun j hj => ?_
  rcases Nat.eq_zero_or_pos j with rfl | h0
  · exact Lib.keeps_lt_one _ _ (by omega)
  · refine Lib.keeps_pos ?_
    simp at hj
    simp only [List.getElem!_toArray]
    rw [getElem!_pos _ _ (by simpa using hj), getElem!_pos _ _ (by simp; omega)]
    simp only [List.getElem_map]
    intro e
    have := toL_inj e
    have := (List.getElem_inj h).1 this
    omega

/-- slices.Compact of texts, of which no two are alike, in a row of the call's own -/
theorem compact_strs (base : Nat) (v : Value) (ks : List ByteArray) (w : World) (ho : OwnStrs w base v ks) (hnd : ks.Nodup) (hn : ks.length * 16 ≤ reachN) :
    Calls Try.prog 81 #[v] w fun e w' => e = .returned v ∧ w.grownBy w' v.ownBlock := by
  unfold reachN at hn
  unfold OwnStrs at ho
  rcases ho.2 with ⟨rfl, h0⟩ | ⟨g, cap, cur, rfl, hbase, hb, h1, h2, h3, h4⟩
  · refine (Try.slices_Compact_string_empty none 0 w).mono fun e w' ⟨he, hw⟩ => ⟨he, ?_⟩
    rw [hw]; exact ⟨rfl, rfl, rfl, Nat.le_refl _, fun _ _ _ => rfl⟩
  · have hl : (ks.map toL).length = ks.length := by simp
    have H := Try.slices_Compact_string g 0 cap (ks.map toL) w (holds_of_block hb (by rw [hl]; rw [Nat.mul_one] at h4; rw [h4, List.map_map]; rfl)) (by rw [hl]; omega) (by rw [hl]; exact h1)
    rw [compact_nodup hnd, hl] at H
    refine H.mono fun e w' ⟨he, q, hw⟩ => ⟨he, ?_⟩
    rw [hw]
    refine ⟨rfl, rfl, rfl, by simp [Sort.putRow, Sort.mapBlock, Sort.ahead], fun k hk hne => ?_⟩
    have : g ≠ k := fun e => hne (by rw [← e]; rfl)
    simp [Sort.putRow, Sort.mapBlock, Sort.ahead, Array.getElem?_modify, this]
end Go.Proofs.Ytikpedfggbibpaa
