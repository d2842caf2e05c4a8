/- Walks: slices.IndexFunc, ContainsFunc over values; big, right. -/
import Derived.Test.YtedhdkadpibaeaaGreatDoorT
namespace Go.Proofs.YtedhdkadpibaeaaGreatDoor
open Go.RowKit
set_option linter.unusedVariables false
set_option linter.unusedSimpArgs false

def IdxPost (p : Nat → Bool) (n : Nat) (w : World) (e : Ending) (w' : World) : Prop :=
  ∃ i : Int, e = .returned (.int .i64 i) ∧ ((i = -1 ∧ ∀ q, q < n → p q = false) ∨ ∃ q : Nat, q < n ∧ i = q ∧ p q = true) ∧ Ext w w'

/-- a predicate on values, at the places of a row -/
def PredV (F : Nat) (lb : Array Value) (l : List V) (p : Nat → Bool) (w : World) : Prop :=
  ∀ (q : Nat) (hq : q < l.length) (v : Value) (w' : World), Ext w w' → RV w' l[q] v → Calls Tryz.prog F (#[v] ++ lb) w' (Gives (.bool (p q)) w')

set_option maxRecDepth 20000 in
set_option maxHeartbeats 1000000 in
theorem indexFunc_any (F : Nat) (lb : Array Value) (eg : ∀ args w, (callFunc F args).run Tryz.prog w = .ok (.enter F args) w) (l : List V) (p : Nat → Bool) (al : Option Addr) (lc : Nat) (w : World) (hl : l ≠ [] → ∃ b o, al = some ⟨b, o, none⟩ ∧ RVs w b o l) (hn : l.length ≤ reachN) (hp : PredV F lb l p w) :
    Calls Tryz.prog 42 #[.slice al l.length lc, .func (.func F) #[] lb] w (IdxPost p l.length w) := by
  unfold reachN at hn
  have HL := Lib.hid hl
  have HP := Lib.hid hp
  clear hl hp
  go_enter Tryz.func42, Tryz.ntmps42
  go_wp2
  go_loopw [8] (fun i wr => ∃ m : Nat, m ≤ l.length ∧ i = .int .i64 m ∧ (∀ q, q < m → p q = false) ∧ Ext w wr) (fun i _ => l.length - (intOf i).toNat)
  case atStart => exact ⟨0, Nat.zero_le _, rfl, fun q h => by omega, Ext.refl _⟩
  case round =>
    obtain ⟨m, hm, rfl, hall, hb⟩ := hrel
    have HA := Lib.hid hall
    have HB := Lib.hid hb
    clear hall hb
    by_cases hltm : m < l.length
    · try clear hm
      obtain ⟨bb, oo, d0, d1, d2, d3, d4, d5, rfl, E⟩ := RV.elem (k := 0) (n := 0) (f := 0) (s := ByteArray.empty) (ks := []) HL.out m hltm
      have KK : Keep w wr := HB.out.keep
      have e0 := KK _ _ E.h0
      have e1 := KK _ _ E.h1
      have e2 := KK _ _ E.h2
      have e3 := KK _ _ E.h3
      have e4 := KK _ _ E.h4
      have e5 := KK _ _ E.h5
      have HC := Lib.hid (HP.out m hltm _ wr HB.out (RV.keep KK _ E.rv))
      clear E KK
      generalize hpm : p m = b at HC
      have HPM := Lib.hid hpm
      clear hpm
      go_wp2_with (go_at_fn F; refine (HC.out).mono ?_; rintro e w2 ⟨rfl, hb2⟩; have HB2 := Lib.hid hb2; clear hb2 HC; cases b)
      · go_roundw
        case rel => exact ⟨m + 1, by omega, by go_num, fun q hq => by
          by_cases hqm : q = m
          · subst hqm; exact HPM.out
          · exact HA.out q (by omega), HB.out.trans HB2.out⟩
        case measure => simp [intOf]; omega
      · go_ret
        exact ⟨m, rfl, Or.inr ⟨m, hltm, rfl, HPM.out⟩, HB.out.trans HB2.out⟩
    · have HX : Hid (∀ q, q < l.length → p q = false) := fun q hq => HA.out q (by omega)
      clear HL HP HA
      go_wp2
      go_ret
      exact ⟨-1, rfl, Or.inl ⟨rfl, HX.out⟩, HB.out⟩

def AnyPost (p : Nat → Bool) (n : Nat) (w : World) (e : Ending) (w' : World) : Prop :=
  ∃ b : Bool, e = .returned (.bool b) ∧ (b = true ↔ ∃ q, q < n ∧ p q = true) ∧ Ext w w'

theorem containsFunc_any (F : Nat) (lb : Array Value) (eg : ∀ args w, (callFunc F args).run Tryz.prog w = .ok (.enter F args) w) (l : List V) (p : Nat → Bool) (al : Option Addr) (lc : Nat) (w : World) (hl : l ≠ [] → ∃ b o, al = some ⟨b, o, none⟩ ∧ RVs w b o l) (hn : l.length ≤ reachN) (hp : PredV F lb l p w) :
    Calls Tryz.prog 31 #[.slice al l.length lc, .func (.func F) #[] lb] w (AnyPost p l.length w) := by
  have HC := Lib.hid (indexFunc_any F lb eg l p al lc w hl hn hp)
  clear hl hp eg
  unfold reachN at hn
  go_enter Tryz.func31, Tryz.ntmps31
  go_wp2_with (go_at_call 42; refine (HC.out).mono ?_; rintro e w2 ⟨i, rfl, hi, hb2⟩; have HB2 := Lib.hid hb2; have HI := Lib.hid hi; clear hb2 HC hi)
  go_ret
  refine ⟨_, rfl, ?_, HB2.out⟩
  rcases HI.out with ⟨rfl, h⟩ | ⟨q, hq, rfl, h⟩
  · constructor
    · intro h1
      simp at h1
    · rintro ⟨q, hq, h1⟩
      rw [h q hq] at h1
      cases h1
  · constructor
    · intro _
      exact ⟨q, hq, h⟩
    · intro _
      simp
end Go.Proofs.YtedhdkadpibaeaaGreatDoor
