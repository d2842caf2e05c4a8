/- Walks: Match of numbers. -/
import Derived.Test.YtikpedfggbibpaaO
namespace Go.Proofs.Ytikpedfggbibpaa
open Go.RowKit
set_option linter.unusedVariables false
set_option linter.unusedSimpArgs false

set_option maxRecDepth 100000 in
set_option maxHeartbeats 4000000 in
theorem match_int (a : Int) (t : J) (htn : t.nofl) (vt : Value) (w : World) (h : RA w 0 t vt) :
    Calls Try.prog 39 #[.iface 2 (.int .i64 a), vt] w (Gives (.bool (jm (.int a) t)) w) := by
  have HF : Hid (∀ w1, Calls Try.prog 83 #[.iface 2 (.int .i64 a)] w1 (Gives (.tuple #[.int .i64 a, .bool true]) w1)) := fun w1 => asInt_any 0 (.int a) (by unfold J.nofl; trivial) _ w1 (by unfold RA; rfl)
  have HT : Hid (∀ w1, Ext w w1 → Calls Try.prog 83 #[vt] w1 (Gives (.tuple #[.int .i64 (asI t).1, .bool (asI t).2]) w1)) := fun w1 he => asInt_any 0 t htn _ w1 (RA.keep (he.keepB.from 0) (Nat.le_refl _) t h)
  have hj0 : jm (.int a) t = ((asI t).2 && decide (a = (asI t).1)) := by
    cases t with
    | int n => simp only [jm, asI, Bool.true_and]; rfl
    | _ => simp [jm, asI]
  have HJ := Lib.hid hj0
  clear hj0
  generalize asI t = r at HT HJ
  obtain ⟨n, b⟩ := r
  generalize hjm : jm (.int a) t = res at HJ
  change Hid (∀ w1, Ext w w1 → Calls Try.prog 83 #[vt] w1 (Gives (.tuple #[.int .i64 n, .bool b]) w1)) at HT
  change Hid (res = (b && decide (a = n))) at HJ
  have HF2 : Hid (∃ tt vv, True) := ⟨(0 : Nat), (0 : Nat), trivial⟩
  clear htn hjm HF2
  rcases h.form with rfl | ⟨ty, x, rfl⟩
  all_goals
    clear h
    go_enter Try.func39, Try.ntmps39
    go_wp2_with (first | (go_at_call 83; refine (HF.out _).mono ?_; rintro e w1 ⟨rfl, hb⟩; have B1 := Lib.hid hb; clear hb HF) | (go_at_call 83; refine (HT.out _ B1.out).mono ?_; rintro e w2 ⟨rfl, hb⟩; have B2 : Hid (Ext w w2) := B1.out.trans hb; clear hb B1 HT; cases b))
    all_goals go_ret
    all_goals exact .mk (by have := HJ.out; simp_all) B2.out

set_option maxRecDepth 100000 in
set_option maxHeartbeats 4000000 in
theorem match_arr (N : Nat) (ih : MatchAt N) (l : List J) (hN : (J.arr l).nodes ≤ N + 1) (hsm : (J.arr l).nodes ≤ 1000) (hok : J.oks l) (hnf : J.nofls l) (t : J) (htok : t.ok) (htn : t.nofl) (va vt : Value) (w : World) (hf : RA w 0 (.arr l) va) (h : RA w 0 t vt) :
    Calls Try.prog 39 #[va, vt] w (Gives (.bool (jm (.arr l) t)) w) := by
  unfold RA at hf
  obtain ⟨b, cap, rfl, _, hcap, hrow⟩ := hf
  cases t with
  | flt b => unfold J.nofl at htn; exact htn.elim
  | null =>
    unfold RA at h; subst h; clear htn htok hok hnf hN ih hsm hrow hcap
    go_enter Try.func39, Try.ntmps39
    go_wp2
    go_ret
    exact .mk (by simp [jm]) (.refl _)
  | bool c =>
    unfold RA at h; subst h; clear htn htok hok hnf hN ih hsm hrow hcap
    go_enter Try.func39, Try.ntmps39
    go_wp2
    go_ret
    exact .mk (by simp [jm]) (.refl _)
  | int c =>
    unfold RA at h; subst h; clear htn htok hok hnf hN ih hsm hrow hcap
    go_enter Try.func39, Try.ntmps39
    go_wp2
    go_ret
    exact .mk (by simp [jm]) (.refl _)
  | str c =>
    unfold RA at h; subst h; clear htn htok hok hnf hN ih hsm hrow hcap
    go_enter Try.func39, Try.ntmps39
    go_wp2
    go_ret
    exact .mk (by simp [jm]) (.refl _)
  | obj ks m =>
    unfold RA at h; obtain ⟨b, cap, rfl, _⟩ := h; clear htn htok hok hnf hN ih hsm hrow hcap
    go_enter Try.func39, Try.ntmps39
    go_wp2
    go_ret
    exact .mk (by simp [jm]) (.refl _)
  | arr m =>
    unfold RA at h
    obtain ⟨b2, cap2, rfl, _, hcap2, hrow2⟩ := h
    unfold J.ok at htok
    unfold J.nofl at htn
    have hl1 : l.length ≤ 1000 := by
      have := J.nodesL_len l
      simp only [J.nodes] at hsm
      omega
    have HSM := Lib.hid hsm
    have IH := Lib.hid ih
    have HN := Lib.hid hN
    have HOK := Lib.hid hok
    have HNF := Lib.hid hnf
    have HTOK := Lib.hid htok
    have HTN := Lib.hid htn
    have HR := Lib.hid hrow
    have HR2 := Lib.hid hrow2
    clear ih hN hsm hok hnf htok htn hrow hrow2 hcap hcap2
    by_cases hlen : l.length = m.length
    · have hlenI : ((l.length : Int) == (m.length : Int)) = true := by simp [hlen]
      have HLEN := Lib.hid hlen
      clear hlen
      go_enter Try.func39, Try.ntmps39
      go_wp2
      go_loopw [165] (fun i wr => ∃ n : Nat, n ≤ l.length ∧ i = .int .i64 n ∧ (∀ q, (hq : q < l.length) → (hq' : q < m.length) → q < n → jm l[q] m[q] = true) ∧ Ext w wr)
        (fun i _ => l.length - (intOf i).toNat)
      case atStart => exact ⟨0, Nat.zero_le _, rfl, fun q _ _ h => by omega, Ext.refl _⟩
      case round =>
        obtain ⟨n, hn, rfl, hall, hb⟩ := hrel
        have HA := Lib.hid hall
        have HB := Lib.hid hb
        clear hall hb
        by_cases hlt : n < l.length
        · have hlt2 : n < m.length := by have := HLEN.out; omega
          obtain ⟨u, hu, hru⟩ := RAs.get HR.out n hlt
          obtain ⟨v, hv, hrv⟩ := RAs.get HR2.out n hlt2
          simp only [Nat.zero_add] at hu hv
          have hu := HB.out.keep _ _ hu
          have hv := HB.out.keep _ _ hv
          have hch : l[n].nodes ≤ N := by
            have h1 := HN.out
            have h2 := J.nodes_mem (List.getElem_mem hlt)
            simp only [J.nodes] at h1
            omega
          have hch2 : l[n].nodes ≤ 1000 := by
            have h1 := HSM.out
            have h2 := J.nodes_mem (List.getElem_mem hlt)
            simp only [J.nodes] at h1
            omega
          have HC := Lib.hid (IH.out l[n] m[n] hch hch2 (J.oks_get HOK.out n hlt) (J.nofls_get HNF.out n hlt) (J.oks_get HTOK.out n hlt2) (J.nofls_get HTN.out n hlt2) u v wr (RA.keep (HB.out.keepB.from 0) (Nat.le_refl _) _ hru) (RA.keep (HB.out.keepB.from 0) (Nat.le_refl _) _ hrv))
          have HSU := Lib.hid hru.form
          have HSV := Lib.hid hrv.form
          clear hru hrv hch hch2
          generalize hjr : jm l[n] m[n] = res at HC
          have HJR := Lib.hid hjr
          clear hjr
          rcases HSU.out with rfl | ⟨ty, x, rfl⟩ <;> rcases HSV.out with rfl | ⟨ty', x', rfl⟩
          all_goals
            clear HSU HSV
            go_wp2_with (go_at_call 39; refine (HC.out).mono ?_; rintro e w2 ⟨rfl, hb2⟩; have HB2 := Lib.hid hb2; clear hb2 HC; cases res)
            · go_ret
              exact .mk (by
                have h1 := HJR.out
                have h3 : jm (.arr l) (.arr m) = false := Bool.eq_false_iff.2 (fun hh => by
                  unfold jm at hh
                  rw [jms_get hh n hlt hlt2] at h1
                  cases h1)
                exact congrArg Value.bool h3.symm) (HB.out.trans HB2.out)
            · go_roundw
              case rel => exact ⟨n + 1, by omega, by go_num, fun q hq hq' hqm => by
                by_cases hqn : q = n
                · subst hqn; exact HJR.out
                · exact HA.out q hq hq' (by omega), HB.out.trans HB2.out⟩
              case measure => simp [intOf]; omega
        · have HX : Hid (jm (.arr l) (.arr m) = true) := by
            refine Lib.hid ?_
            unfold jm
            exact jms_of HLEN.out fun q h1 h2 => HA.out q h1 h2 (by omega)
          clear HR HR2 IH HA
          go_wp2
          go_ret
          exact .mk (congrArg Value.bool HX.out.symm) HB.out
    · have hlenI : ((l.length : Int) == (m.length : Int)) = false := by simp; omega
      have HLEN := Lib.hid hlen
      clear hlen HR HR2 IH
      go_enter Try.func39, Try.ntmps39
      go_wp2
      go_ret
      exact .mk (by
        have h3 : jm (.arr l) (.arr m) = false := Bool.eq_false_iff.2 (fun hh => by
          unfold jm at hh
          exact HLEN.out (jms_len hh))
        exact congrArg Value.bool h3.symm) (.refl _)
end Go.Proofs.Ytikpedfggbibpaa
