/- Walks: holds, light, plainData. -/
import Derived.Test.YtikpedfggbibpaaZ06
namespace Go.Proofs.Ytikpedfggbibpaa
open Go.RowKit
set_option linter.unusedVariables false

mutual
def NoKind (c : Int) : V → Prop
  | .mk k n f s l ks => k ≠ c ∧ ((k = 7 ∨ k = 8) → NoKinds c l)
def NoKinds (c : Int) : List V → Prop
  | [] => True
  | x :: xs => NoKind c x ∧ NoKinds c xs
end
theorem NoKinds_of {c : Int} : ∀ {l : List V}, (∀ i, (h : i < l.length) → NoKind c l[i]) → NoKinds c l
  | [], _ => by unfold NoKinds; trivial
  | x :: xs, h => by
    unfold NoKinds
    exact ⟨h 0 (by simp), NoKinds_of fun i hi => h (i + 1) (by simpa using hi)⟩

def HoldsPost (c : Int) (x : V) (w : World) (e : Ending) (w' : World) : Prop := ∃ b : Bool, e = .returned (.bool b) ∧ (b = false → NoKind c x) ∧ Ext w w'

set_option maxHeartbeats 1000000 in
theorem holds_any (c : Int) (N : Nat) : ∀ (x : V), x.nodes ≤ N → ∀ (v : Value) (w : World), RV w x v →
    Calls Try.prog 17 #[v, .int .i64 c] w (HoldsPost c x w) := by
  induction N with
  | zero => intro x hx; cases x; simp [V.nodes] at hx
  | succ N ih =>
  intro x hN v w h
  obtain ⟨k, n, f, s, l, ks⟩ := x
  unfold RV at h
  obtain ⟨al, lc, ak, kc, rfl, z, hl, hk⟩ := h
  have hks : ks.length ≤ reachN := by have := z.hkl; have := z.hkc; omega
  have hks16 : ks.length * 16 ≤ reachN := by have := z.hkl; have := z.hkc; omega
  have hll : l.length ≤ reachN := by have := z.hll; have := z.hlc; omega
  have hss := z.hs
  unfold reachN at hll hss hks
  have IH := Lib.hid ih
  have HL := Lib.hid hl
  have HN := Lib.hid hN
  have HK := Lib.hid hk
  have HK16 := Lib.hid hks16
  clear hl hk z ih hN hks16 HK HK16 hss hks
  by_cases kc1 : k = c
  · subst kc1
    clear IH HL HN
    go_enter Try.func17, Try.ntmps17
    go_wp2
    go_ret
    exact ⟨_, rfl, fun hb => (by cases hb), (Ext.refl _).alloc _⟩
  have hkc : (k == c) = false := by simp [kc1]
  have KC : Hid (k ≠ c) := kc1
  clear kc1
  by_cases k7 : k = 7 ∨ k = 8
  · rcases k7 with rfl | rfl
    all_goals (go_enter Try.func17, Try.ntmps17)
    all_goals go_wp2
    all_goals (go_loopw [5] (fun i wr => ∃ m : Nat, m ≤ l.length ∧ i = .int .i64 m ∧ (∀ q, (hq : q < l.length) → q < m → NoKind c l[q]) ∧
            Below (w.heap.size + 1) (w.alloc (Obj.cells #[Value.int IntKind.i64 _, Value.int IntKind.i64 n, Value.float FloatKind.f64 f, Value.string s, Value.slice al l.length lc, Value.slice ak ks.length kc] 26)) wr)
          (fun i _ => l.length - (intOf i).toNat))
    all_goals try (case atStart => exact ⟨0, Nat.zero_le _, rfl, fun q _ h => by omega, Below.refl _ _⟩)
    all_goals (
      case round =>
          obtain ⟨m, hm, rfl, hall, hb⟩ := hrel
          obtain ⟨b0, b1, b2, b3, b4, b5⟩ := box_cells hb
          have HA := Lib.hid hall
          have HB := Lib.hid hb
          have EX : Hid (Ext w wr) := (Ext.refl w).trans ((Below.alloc (Below.refl _ _) (Nat.le_refl _) _).trans (HB.out.mono (by omega)))
          clear hall hb
          by_cases hltm : m < l.length
          · obtain ⟨bb, oo, d0, d1, d2, d3, d4, d5, rfl, E⟩ := RV.elem (k := 0) (n := n) (f := f) (s := s) (ks := ks) HL.out m hltm
            have KK : Keep w wr := EX.out.keep
            have e0 := KK _ _ E.h0
            have e1 := KK _ _ E.h1
            have e2 := KK _ _ E.h2
            have e3 := KK _ _ E.h3
            have e4 := KK _ _ E.h4
            have e5 := KK _ _ E.h5
            have hch : l[m].nodes ≤ N := by
              have := HN.out
              have h2 := V.nodes_mem (List.getElem_mem hltm)
              simp only [V.nodes] at this
              omega
            have HC := Lib.hid (IH.out l[m] hch _ wr (RV.keep KK _ E.rv))
            clear E KK hch
            go_wp2_with (go_at_call 17; refine (HC.out).mono ?_; rintro e w2 ⟨b, rfl, hcl, hb2⟩; have HCL := Lib.hid hcl; have HB2 := Lib.hid hb2; clear hcl hb2; cases b)
            · go_roundw
              case rel => exact ⟨m + 1, by omega, by go_num, fun q hq hq' => by
                by_cases hqm : q = m
                · subst hqm; first | exact HCL.out rfl | exact HCL.out trivial
                · exact HA.out q hq (by omega), HB.out.trans (HB2.out.mono (by have := HB.out.size; simp at this; omega))⟩
              case measure => simp [intOf]; omega
            · go_ret
              exact ⟨true, rfl, fun h => (by cases h), EX.out.trans HB2.out⟩
          · have HCV : Hid (NoKinds c l) := NoKinds_of (fun i hi => HA.out i hi (by omega))
            clear HA HB
            clear HL
            go_wp2
            go_ret
            exact ⟨false, rfl, fun _ => (by unfold NoKind; exact ⟨KC.out, fun _ => HCV.out⟩), EX.out⟩)
  · have K7 := Lib.hid k7
    have q7 : (k == 7) = false := by simp; omega
    have q8 : (k == 8) = false := by simp; omega
    clear IH HL HN k7
    go_enter Try.func17, Try.ntmps17
    go_wp2
    refine wp_loop_rounds 1 ?_
    rw [rounds_succ]
    go_wp2
    all_goals go_ret
    all_goals exact ⟨false, rfl, fun _ => (by unfold NoKind; exact ⟨KC.out, fun h => absurd h K7.out⟩), (Ext.refl _).alloc _⟩
end Go.Proofs.Ytikpedfggbibpaa
