/- Walks: cleanValue. -/
import Derived.Test.YtikpedfggbibpaaZ04
namespace Go.Proofs.Ytikpedfggbibpaa
open Go.RowKit
set_option linter.unusedVariables false

mutual
def CleanV : V → Prop
  | .mk k n f s l ks => (k = 1 ∧ n = 0 ∧ f = 0 ∧ s = ByteArray.empty ∧ l = [] ∧ ks = []) ∨ ((k = 2 ∨ k = 3) ∧ f = 0 ∧ s = ByteArray.empty ∧ l = [] ∧ ks = []) ∨ (k = 4 ∧ n = 0 ∧ s = ByteArray.empty ∧ l = [] ∧ ks = []) ∨
      ((k = 5 ∨ k = 6) ∧ n = 0 ∧ f = 0 ∧ l = [] ∧ ks = []) ∨ ((k = 7 ∨ k = 8) ∧ n = 0 ∧ f = 0 ∧ s = ByteArray.empty ∧ (k = 8 ∨ ks = []) ∧ CleanVs l)
def CleanVs : List V → Prop
  | [] => True
  | x :: xs => CleanV x ∧ CleanVs xs
end
theorem CleanVs_of : ∀ {l : List V}, (∀ i, (h : i < l.length) → CleanV l[i]) → CleanVs l
  | [], _ => by unfold CleanVs; trivial
  | x :: xs, h => by
    unfold CleanVs
    exact ⟨h 0 (by simp), CleanVs_of fun i hi => h (i + 1) (by simpa using hi)⟩

def CleanPost (x : V) (w : World) (e : Ending) (w' : World) : Prop := ∃ b : Bool, e = .returned (.bool b) ∧ (b = true → CleanV x) ∧ Ext w w'

theorem emp_of (s : ByteArray) (h : s.toList = []) : s = ByteArray.empty := by
  rw [ByteArray.toList_eq] at h
  obtain ⟨⟨l⟩⟩ := s
  simp at h
  rw [h]; rfl

set_option maxHeartbeats 1000000 in
theorem cleanValue_any (N : Nat) : ∀ (x : V), x.nodes ≤ N → ∀ (v : Value) (w : World), RV w x v →
    Calls Try.prog 75 #[v] w (CleanPost x w) := by
  induction N with
  | zero => intro x hx; cases x; simp [V.nodes] at hx
  | succ N ih =>
  intro x hN v w h
  obtain ⟨k, n, f, s, l, ks⟩ := x
  unfold RV at h
  obtain ⟨al, lc, ak, kc, rfl, z, hl, hk⟩ := h
  have hks : ks.length ≤ reachN := by have := z.hkl; have := z.hkc; omega
  have hll : l.length ≤ reachN := by have := z.hll; have := z.hlc; omega
  have hss := z.hs
  unfold reachN at hll hss hks
  have IH := Lib.hid ih
  have HL := Lib.hid hl
  have HN := Lib.hid hN
  clear hl hk z ih hN
  by_cases k1 : k = 1
  · subst k1
    clear IH HL HN
    go_enter Try.func75, Try.ntmps75
    go_wp2_with (go_at_call 96; refine (noFloat_any _ _).mono ?_; rintro e w' ⟨rfl, rfl⟩)
    all_goals go_ret
    all_goals (refine ⟨_, rfl, fun hb => ?_, (Ext.refl _).alloc _⟩; have he := emp_of s; unfold CleanV; simp at hb)
    all_goals first | done | simp_all
  by_cases k2 : k = 2 ∨ k = 3
  · clear IH HL HN
    rcases k2 with rfl | rfl
    all_goals (go_enter Try.func75, Try.ntmps75)
    all_goals go_wp2_with (go_at_call 96; refine (noFloat_any _ _).mono ?_; rintro e w' ⟨rfl, rfl⟩)
    all_goals go_ret
    all_goals (refine ⟨_, rfl, fun hb => ?_, (Ext.refl _).alloc _⟩; have he := emp_of s; unfold CleanV; simp at hb)
    all_goals first | done | simp_all
  by_cases k4 : k = 4
  · subst k4
    clear IH HL HN
    go_enter Try.func75, Try.ntmps75
    go_wp2_with (go_at_call 96; refine (noFloat_any _ _).mono ?_; rintro e w' ⟨rfl, rfl⟩)
    all_goals go_ret
    all_goals (refine ⟨_, rfl, fun hb => ?_, (Ext.refl _).alloc _⟩; have he := emp_of s; unfold CleanV; simp at hb)
    all_goals first | done | simp_all
  by_cases k5 : k = 5 ∨ k = 6
  · clear IH HL HN
    rcases k5 with rfl | rfl
    all_goals (go_enter Try.func75, Try.ntmps75)
    all_goals go_wp2_with (go_at_call 96; refine (noFloat_any _ _).mono ?_; rintro e w' ⟨rfl, rfl⟩)
    all_goals go_ret
    all_goals (refine ⟨_, rfl, fun hb => ?_, (Ext.refl _).alloc _⟩; have he := emp_of s; unfold CleanV; simp at hb)
    all_goals first | done | simp_all
  by_cases k7 : k = 7 ∨ k = 8
  · clear hks hss
    have IK := Lib.hid k7
    rcases k7 with rfl | rfl
    all_goals (go_enter Try.func75, Try.ntmps75)
    all_goals go_wp2
    all_goals (go_loopw [3] (fun i wr => ∃ m : Nat, m ≤ l.length ∧ i = .int .i64 m ∧ (∀ q, (hq : q < l.length) → q < m → CleanV l[q]) ∧
            Below (w.heap.size + 1) (w.alloc (Obj.cells #[Value.int IntKind.i64 _, Value.int IntKind.i64 n, Value.float FloatKind.f64 f, Value.string s, Value.slice al l.length lc, Value.slice ak ks.length kc] 26)) wr)
          (fun i _ => l.length - (intOf i).toNat))
    all_goals try (case atStart => exact ⟨0, Nat.zero_le _, rfl, fun q _ h => by omega, Below.refl _ _⟩)
    all_goals (
      case round =>
          obtain ⟨m, hm, rfl, hall, hb⟩ := hrel
          obtain ⟨b0, b1, b2, b3, b4, b5⟩ := box_cells hb
          have HA := Lib.hid hall
          have HB := Lib.hid hb
          have EX : Hid (Ext w wr) := (Ext.refl w).trans ((Below.alloc (Below.refl _ _) (Nat.le_refl _) _).trans (HB.out.mono (by omega)))
          clear hall hb
          by_cases hltm : m < l.length
          · obtain ⟨bb, oo, d0, d1, d2, d3, d4, d5, rfl, E⟩ := RV.elem (k := 0) (n := n) (f := f) (s := s) (ks := ks) HL.out m hltm
            have KK : Keep w wr := EX.out.keep
            have e0 := KK _ _ E.h0
            have e1 := KK _ _ E.h1
            have e2 := KK _ _ E.h2
            have e3 := KK _ _ E.h3
            have e4 := KK _ _ E.h4
            have e5 := KK _ _ E.h5
            have hch : l[m].nodes ≤ N := by
              have := HN.out
              have h2 := V.nodes_mem (List.getElem_mem hltm)
              simp only [V.nodes] at this
              omega
            have HC := Lib.hid (IH.out l[m] hch _ wr (RV.keep KK _ E.rv))
            clear E KK hch
            go_wp2_with (go_at_call 75; refine (HC.out).mono ?_; rintro e w2 ⟨b, rfl, hcl, hb2⟩; have HCL := Lib.hid hcl; have HB2 := Lib.hid hb2; clear hcl hb2; cases b)
            · go_ret
              exact ⟨false, rfl, fun h => (by cases h), EX.out.trans HB2.out⟩
            · go_roundw
              case rel => exact ⟨m + 1, by omega, by go_num, fun q hq hq' => by
                by_cases hqm : q = m
                · subst hqm; first | exact HCL.out rfl | exact HCL.out trivial
                · exact HA.out q hq (by omega), HB.out.trans (HB2.out.mono (by have := HB.out.size; simp at this; omega))⟩
              case measure => simp [intOf]; omega
          · have HCV : Hid (CleanVs l) := CleanVs_of (fun i hi => HA.out i hi (by omega))
            clear HA HB
            go_wp2_with (go_at_call 96; refine (noFloat_any _ _).mono ?_; rintro e w' ⟨rfl, rfl⟩)
            all_goals go_ret
            all_goals (refine ⟨_, rfl, fun hb => ?_, EX.out⟩; have he := emp_of s; have hcv := HCV.out; unfold CleanV; simp at hb)
            all_goals first | done | simp_all)
  · clear IH HL HN
    have q1 : (k == 1) = false := by simp; omega
    have q2 : (k == 2) = false := by simp; omega
    have q3 : (k == 3) = false := by simp; omega
    have q4 : (k == 4) = false := by simp; omega
    have q5 : (k == 5) = false := by simp; omega
    have q6 : (k == 6) = false := by simp; omega
    have q7 : (k == 7) = false := by simp; omega
    have q8 : (k == 8) = false := by simp; omega
    clear k1 k2 k4 k5 k7
    go_enter Try.func75, Try.ntmps75
    go_wp2
    go_ret
    exact ⟨_, rfl, fun hb => (by simp at hb), (Ext.refl _).alloc _⟩
end Go.Proofs.Ytikpedfggbibpaa
