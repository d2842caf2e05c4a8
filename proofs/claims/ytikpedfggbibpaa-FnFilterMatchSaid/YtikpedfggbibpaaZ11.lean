/- Walks: Match. Walks: Match of numbers. -/
import Derived.Test.YtikpedfggbibpaaZ10
import Derived.Maps.RangeRun
namespace Go.Proofs.Ytikpedfggbibpaa
open Go.RowKit
set_option linter.unusedVariables false
set_option linter.unusedSimpArgs false

/-- the member of a key; null if there is none -/
def look : List ByteArray → List J → ByteArray → J
  | k :: ks, x :: xs, q => if k = q then x else look ks xs q
  | _, _, _ => .null

mutual
/-- what fits -/
def jm : J → J → Bool
  | .null, .null => true
  | .bool a, .bool b => a == b
  | .int a, .int b => a == b
  | .str a, .str b => decide (a = b)
  | .arr l, .arr m => jms l m
  | .obj ks l, .obj ks' l' => jmo ks l ks' l'
  | _, _ => false
def jms : List J → List J → Bool
  | [], [] => true
  | x :: xs, y :: ys => jm x y && jms xs ys
  | _, _ => false
def jmo : List ByteArray → List J → List ByteArray → List J → Bool
  | k :: ks, x :: xs, ks', l' => jm x (look ks' l' k) && jmo ks xs ks' l'
  | _, _, _, _ => true
end
theorem bytes_eq (p q : ByteArray) : (p.toList = q.toList) = (p = q) := propext ⟨fun h => by
  have := bytes_beq p q
  rw [beq_iff_eq.2 h] at this
  simpa using this.symm, fun h => by rw [h]⟩
theorem jms_len : ∀ {l m : List J}, jms l m = true → l.length = m.length
  | [], [], _ => rfl
  | x :: xs, y :: ys, h => by
    unfold jms at h
    simp only [Bool.and_eq_true] at h
    simp [jms_len h.2]
  | [], _ :: _, h => by unfold jms at h; cases h
  | _ :: _, [], h => by unfold jms at h; cases h
theorem jms_get : ∀ {l m : List J}, jms l m = true → ∀ q (h : q < l.length) (h' : q < m.length), jm l[q] m[q] = true
  | x :: xs, y :: ys, h, 0, _, _ => by
    unfold jms at h
    simp only [Bool.and_eq_true] at h
    exact h.1
  | x :: xs, y :: ys, h, q + 1, h1, h2 => by
    unfold jms at h
    simp only [Bool.and_eq_true] at h
    exact jms_get h.2 q (by simpa using h1) (by simpa using h2)
theorem jms_of : ∀ {l m : List J}, l.length = m.length → (∀ q (h : q < l.length) (h' : q < m.length), jm l[q] m[q] = true) → jms l m = true
  | [], [], _, _ => by unfold jms; rfl
  | x :: xs, y :: ys, hl, h => by
    unfold jms
    rw [Bool.and_eq_true]
    exact ⟨h 0 (by simp) (by simp), jms_of (by simpa using hl) fun q h1 h2 => h (q + 1) (by simpa using h1) (by simpa using h2)⟩
  | [], _ :: _, hl, _ => by simp at hl
  | _ :: _, [], hl, _ => by simp at hl
theorem jmo_get {ks' : List ByteArray} {l' : List J} : ∀ {ks : List ByteArray} {l : List J}, jmo ks l ks' l' = true → ∀ q (h : q < ks.length) (h' : q < l.length), jm l[q] (look ks' l' ks[q]) = true
  | k :: ks, x :: xs, h, 0, _, _ => by
    unfold jmo at h
    simp only [Bool.and_eq_true] at h
    exact h.1
  | k :: ks, x :: xs, h, q + 1, h1, h2 => by
    unfold jmo at h
    simp only [Bool.and_eq_true] at h
    exact jmo_get h.2 q (by simpa using h1) (by simpa using h2)
theorem jmo_of {ks' : List ByteArray} {l' : List J} : ∀ {ks : List ByteArray} {l : List J}, (∀ q (h : q < ks.length) (h' : q < l.length), jm l[q] (look ks' l' ks[q]) = true) → jmo ks l ks' l' = true
  | k :: ks, x :: xs, h => by
    unfold jmo
    rw [Bool.and_eq_true]
    exact ⟨h 0 (by simp) (by simp), jmo_of fun q h1 h2 => h (q + 1) (by simpa using h1) (by simpa using h2)⟩
  | [], _, _ => by unfold jmo; rfl
  | _ :: _, [], _ => by unfold jmo; rfl

theorem look_miss {k : ByteArray} : ∀ {ks : List ByteArray} {l : List J}, k ∉ ks → look ks l k = .null
  | [], _, _ => by unfold look; rfl
  | _ :: _, [], _ => by unfold look; rfl
  | a :: ks, x :: xs, h => by
    unfold look
    rw [if_neg (fun e => h (by simp [e]))]
    exact look_miss (fun e => h (by simp [e]))
theorem look_hit {k : ByteArray} : ∀ {ks : List ByteArray} {l : List J} {q : Nat} (hq : q < l.length), ks[q]? = some k → ks.Nodup → look ks l k = l[q]
  | a :: ks, x :: xs, 0, _, h, _ => by
    simp at h
    unfold look
    simp [h]
  | a :: ks, x :: xs, q + 1, hq, h, hn => by
    unfold look
    have h2 : ks[q]? = some k := by simpa using h
    rw [if_neg (fun e => (List.nodup_cons.1 hn).1 (by rw [e]; exact List.mem_of_getElem? h2))]
    exact look_hit (by simpa using hq) h2 (List.nodup_cons.1 hn).2

theorem J.nodesL_len : ∀ (l : List J), l.length ≤ J.nodesL l
  | [] => by simp [J.nodesL]
  | x :: xs => by
    have := J.nodesL_len xs
    have := J.nodes_pos x
    simp only [J.nodesL, List.length_cons]
    omega

def MatchAt (N : Nat) : Prop := ∀ (f t : J), f.nodes ≤ N → f.nodes ≤ 1000 → f.ok → f.nofl → t.ok → t.nofl → ∀ (va vt : Value) (w : World), RA w 0 f va → RA w 0 t vt →
    Calls Try.prog 39 #[va, vt] w (Gives (.bool (jm f t)) w)

set_option maxRecDepth 100000 in
set_option maxHeartbeats 4000000 in
theorem match_null (t : J) (htn : t.nofl) (vt : Value) (w : World) (h : RA w 0 t vt) :
    Calls Try.prog 39 #[.nilIface, vt] w (Gives (.bool (jm .null t)) w) := by
  cases t with
  | flt b => unfold J.nofl at htn; exact htn.elim
  | null =>
    unfold RA at h; subst h; clear htn
    go_enter Try.func39, Try.ntmps39
    go_wp2
    go_ret
    exact .mk (by simp [jm]) (.refl _)
  | bool c =>
    unfold RA at h; subst h; clear htn
    go_enter Try.func39, Try.ntmps39
    go_wp2
    go_ret
    exact .mk (by simp [jm]) (.refl _)
  | int c =>
    unfold RA at h; subst h; clear htn
    go_enter Try.func39, Try.ntmps39
    go_wp2
    go_ret
    exact .mk (by simp [jm]) (.refl _)
  | str c =>
    unfold RA at h; subst h; clear htn
    go_enter Try.func39, Try.ntmps39
    go_wp2
    go_ret
    exact .mk (by simp [jm]) (.refl _)
  | arr l =>
    unfold RA at h; obtain ⟨b, cap, rfl, _⟩ := h; clear htn
    go_enter Try.func39, Try.ntmps39
    go_wp2
    go_ret
    exact .mk (by simp [jm]) (.refl _)
  | obj ks l =>
    unfold RA at h; obtain ⟨b, cap, rfl, _⟩ := h; clear htn
    go_enter Try.func39, Try.ntmps39
    go_wp2
    go_ret
    exact .mk (by simp [jm]) (.refl _)

set_option maxRecDepth 100000 in
set_option maxHeartbeats 4000000 in
theorem match_bool (a : Bool) (t : J) (htn : t.nofl) (vt : Value) (w : World) (h : RA w 0 t vt) :
    Calls Try.prog 39 #[.iface 4 (.bool a), vt] w (Gives (.bool (jm (.bool a) t)) w) := by
  cases t with
  | flt b => unfold J.nofl at htn; exact htn.elim
  | null =>
    unfold RA at h; subst h; clear htn
    go_enter Try.func39, Try.ntmps39
    go_wp2
    all_goals go_ret
    all_goals exact .mk (by simp_all [jm, bytes_eq]) (.refl _)
  | bool c =>
    unfold RA at h; subst h; clear htn
    go_enter Try.func39, Try.ntmps39
    go_wp2
    all_goals go_ret
    all_goals exact .mk (by simp_all [jm, bytes_eq]) (.refl _)
  | int c =>
    unfold RA at h; subst h; clear htn
    go_enter Try.func39, Try.ntmps39
    go_wp2
    all_goals go_ret
    all_goals exact .mk (by simp_all [jm, bytes_eq]) (.refl _)
  | str c =>
    unfold RA at h; subst h; clear htn
    go_enter Try.func39, Try.ntmps39
    go_wp2
    all_goals go_ret
    all_goals exact .mk (by simp_all [jm, bytes_eq]) (.refl _)
  | arr l =>
    unfold RA at h; obtain ⟨b, cap, rfl, _⟩ := h; clear htn
    go_enter Try.func39, Try.ntmps39
    go_wp2
    go_ret
    exact .mk (by simp [jm]) (.refl _)
  | obj ks l =>
    unfold RA at h; obtain ⟨b, cap, rfl, _⟩ := h; clear htn
    go_enter Try.func39, Try.ntmps39
    go_wp2
    go_ret
    exact .mk (by simp [jm]) (.refl _)

set_option maxRecDepth 100000 in
set_option maxHeartbeats 4000000 in
theorem match_str (a : ByteArray) (t : J) (htn : t.nofl) (vt : Value) (w : World) (h : RA w 0 t vt) :
    Calls Try.prog 39 #[.iface 9 (.string a), vt] w (Gives (.bool (jm (.str a) t)) w) := by
  cases t with
  | flt b => unfold J.nofl at htn; exact htn.elim
  | null =>
    unfold RA at h; subst h; clear htn
    go_enter Try.func39, Try.ntmps39
    go_wp2
    all_goals go_ret
    all_goals exact .mk (by simp_all [jm, bytes_eq]) (.refl _)
  | bool c =>
    unfold RA at h; subst h; clear htn
    go_enter Try.func39, Try.ntmps39
    go_wp2
    all_goals go_ret
    all_goals exact .mk (by simp_all [jm, bytes_eq]) (.refl _)
  | int c =>
    unfold RA at h; subst h; clear htn
    go_enter Try.func39, Try.ntmps39
    go_wp2
    all_goals go_ret
    all_goals exact .mk (by simp_all [jm, bytes_eq]) (.refl _)
  | str c =>
    unfold RA at h; subst h; clear htn
    go_enter Try.func39, Try.ntmps39
    go_wp2
    all_goals go_ret
    all_goals exact .mk (by simp_all [jm, bytes_eq]) (.refl _)
  | arr l =>
    unfold RA at h; obtain ⟨b, cap, rfl, _⟩ := h; clear htn
    go_enter Try.func39, Try.ntmps39
    go_wp2
    go_ret
    exact .mk (by simp [jm]) (.refl _)
  | obj ks l =>
    unfold RA at h; obtain ⟨b, cap, rfl, _⟩ := h; clear htn
    go_enter Try.func39, Try.ntmps39
    go_wp2
    go_ret
    exact .mk (by simp [jm]) (.refl _)

end Go.Proofs.Ytikpedfggbibpaa
namespace Go.Proofs.Ytikpedfggbibpaa
open Go.RowKit
set_option linter.unusedVariables false
set_option linter.unusedSimpArgs false

set_option maxRecDepth 100000 in
set_option maxHeartbeats 4000000 in
theorem match_int (a : Int) (t : J) (htn : t.nofl) (vt : Value) (w : World) (h : RA w 0 t vt) :
    Calls Try.prog 39 #[.iface 2 (.int .i64 a), vt] w (Gives (.bool (jm (.int a) t)) w) := by
  have HF : Hid (∀ w1, Calls Try.prog 83 #[.iface 2 (.int .i64 a)] w1 (Gives (.tuple #[.int .i64 a, .bool true]) w1)) := fun w1 => asInt_any 0 (.int a) (by unfold J.nofl; trivial) _ w1 (by unfold RA; rfl)
  have HT : Hid (∀ w1, Ext w w1 → Calls Try.prog 83 #[vt] w1 (Gives (.tuple #[.int .i64 (asI t).1, .bool (asI t).2]) w1)) := fun w1 he => asInt_any 0 t htn _ w1 (RA.keep (he.keepB.from 0) (Nat.le_refl _) t h)
  have hj0 : jm (.int a) t = ((asI t).2 && decide (a = (asI t).1)) := by
    cases t with
    | int n => simp only [jm, asI, Bool.true_and]; rfl
    | _ => simp [jm, asI]
  have HJ := Lib.hid hj0
  clear hj0
  generalize asI t = r at HT HJ
  obtain ⟨n, b⟩ := r
  generalize hjm : jm (.int a) t = res at HJ
  change Hid (∀ w1, Ext w w1 → Calls Try.prog 83 #[vt] w1 (Gives (.tuple #[.int .i64 n, .bool b]) w1)) at HT
  change Hid (res = (b && decide (a = n))) at HJ
  have HF2 : Hid (∃ tt vv, True) := ⟨(0 : Nat), (0 : Nat), trivial⟩
  clear htn hjm HF2
  rcases h.form with rfl | ⟨ty, x, rfl⟩
  all_goals
    clear h
    go_enter Try.func39, Try.ntmps39
    go_wp2_with (first | (go_at_call 83; refine (HF.out _).mono ?_; rintro e w1 ⟨rfl, hb⟩; have B1 := Lib.hid hb; clear hb HF) | (go_at_call 83; refine (HT.out _ B1.out).mono ?_; rintro e w2 ⟨rfl, hb⟩; have B2 : Hid (Ext w w2) := B1.out.trans hb; clear hb B1 HT; cases b))
    all_goals go_ret
    all_goals exact .mk (by have := HJ.out; simp_all) B2.out

set_option maxRecDepth 100000 in
set_option maxHeartbeats 4000000 in
theorem match_arr (N : Nat) (ih : MatchAt N) (l : List J) (hN : (J.arr l).nodes ≤ N + 1) (hsm : (J.arr l).nodes ≤ 1000) (hok : J.oks l) (hnf : J.nofls l) (t : J) (htok : t.ok) (htn : t.nofl) (va vt : Value) (w : World) (hf : RA w 0 (.arr l) va) (h : RA w 0 t vt) :
    Calls Try.prog 39 #[va, vt] w (Gives (.bool (jm (.arr l) t)) w) := by
  unfold RA at hf
  obtain ⟨b, cap, rfl, _, hcap, hrow⟩ := hf
  cases t with
  | flt b => unfold J.nofl at htn; exact htn.elim
  | null =>
    unfold RA at h; subst h; clear htn htok hok hnf hN ih hsm hrow hcap
    go_enter Try.func39, Try.ntmps39
    go_wp2
    go_ret
    exact .mk (by simp [jm]) (.refl _)
  | bool c =>
    unfold RA at h; subst h; clear htn htok hok hnf hN ih hsm hrow hcap
    go_enter Try.func39, Try.ntmps39
    go_wp2
    go_ret
    exact .mk (by simp [jm]) (.refl _)
  | int c =>
    unfold RA at h; subst h; clear htn htok hok hnf hN ih hsm hrow hcap
    go_enter Try.func39, Try.ntmps39
    go_wp2
    go_ret
    exact .mk (by simp [jm]) (.refl _)
  | str c =>
    unfold RA at h; subst h; clear htn htok hok hnf hN ih hsm hrow hcap
    go_enter Try.func39, Try.ntmps39
    go_wp2
    go_ret
    exact .mk (by simp [jm]) (.refl _)
  | obj ks m =>
    unfold RA at h; obtain ⟨b, cap, rfl, _⟩ := h; clear htn htok hok hnf hN ih hsm hrow hcap
    go_enter Try.func39, Try.ntmps39
    go_wp2
    go_ret
    exact .mk (by simp [jm]) (.refl _)
  | arr m =>
    unfold RA at h
    obtain ⟨b2, cap2, rfl, _, hcap2, hrow2⟩ := h
    unfold J.ok at htok
    unfold J.nofl at htn
    have hl1 : l.length ≤ 1000 := by
      have := J.nodesL_len l
      simp only [J.nodes] at hsm
      omega
    have HSM := Lib.hid hsm
    have IH := Lib.hid ih
    have HN := Lib.hid hN
    have HOK := Lib.hid hok
    have HNF := Lib.hid hnf
    have HTOK := Lib.hid htok
    have HTN := Lib.hid htn
    have HR := Lib.hid hrow
    have HR2 := Lib.hid hrow2
    clear ih hN hsm hok hnf htok htn hrow hrow2 hcap hcap2
    by_cases hlen : l.length = m.length
    · have hlenI : ((l.length : Int) == (m.length : Int)) = true := by simp [hlen]
      have HLEN := Lib.hid hlen
      clear hlen
      go_enter Try.func39, Try.ntmps39
      go_wp2
      go_loopw [165] (fun i wr => ∃ n : Nat, n ≤ l.length ∧ i = .int .i64 n ∧ (∀ q, (hq : q < l.length) → (hq' : q < m.length) → q < n → jm l[q] m[q] = true) ∧ Ext w wr)
        (fun i _ => l.length - (intOf i).toNat)
      case atStart => exact ⟨0, Nat.zero_le _, rfl, fun q _ _ h => by omega, Ext.refl _⟩
      case round =>
        obtain ⟨n, hn, rfl, hall, hb⟩ := hrel
        have HA := Lib.hid hall
        have HB := Lib.hid hb
        clear hall hb
        by_cases hlt : n < l.length
        · have hlt2 : n < m.length := by have := HLEN.out; omega
          obtain ⟨u, hu, hru⟩ := RAs.get HR.out n hlt
          obtain ⟨v, hv, hrv⟩ := RAs.get HR2.out n hlt2
          simp only [Nat.zero_add] at hu hv
          have hu := HB.out.keep _ _ hu
          have hv := HB.out.keep _ _ hv
          have hch : l[n].nodes ≤ N := by
            have h1 := HN.out
            have h2 := J.nodes_mem (List.getElem_mem hlt)
            simp only [J.nodes] at h1
            omega
          have hch2 : l[n].nodes ≤ 1000 := by
            have h1 := HSM.out
            have h2 := J.nodes_mem (List.getElem_mem hlt)
            simp only [J.nodes] at h1
            omega
          have HC := Lib.hid (IH.out l[n] m[n] hch hch2 (J.oks_get HOK.out n hlt) (J.nofls_get HNF.out n hlt) (J.oks_get HTOK.out n hlt2) (J.nofls_get HTN.out n hlt2) u v wr (RA.keep (HB.out.keepB.from 0) (Nat.le_refl _) _ hru) (RA.keep (HB.out.keepB.from 0) (Nat.le_refl _) _ hrv))
          have HSU := Lib.hid hru.form
          have HSV := Lib.hid hrv.form
          clear hru hrv hch hch2
          generalize hjr : jm l[n] m[n] = res at HC
          have HJR := Lib.hid hjr
          clear hjr
          rcases HSU.out with rfl | ⟨ty, x, rfl⟩ <;> rcases HSV.out with rfl | ⟨ty', x', rfl⟩
          all_goals
            clear HSU HSV
            go_wp2_with (go_at_call 39; refine (HC.out).mono ?_; rintro e w2 ⟨rfl, hb2⟩; have HB2 := Lib.hid hb2; clear hb2 HC; cases res)
            · go_ret
              exact .mk (by
                have h1 := HJR.out
                have h3 : jm (.arr l) (.arr m) = false := Bool.eq_false_iff.2 (fun hh => by
                  unfold jm at hh
                  rw [jms_get hh n hlt hlt2] at h1
                  cases h1)
                exact congrArg Value.bool h3.symm) (HB.out.trans HB2.out)
            · go_roundw
              case rel => exact ⟨n + 1, by omega, by go_num, fun q hq hq' hqm => by
                by_cases hqn : q = n
                · subst hqn; exact HJR.out
                · exact HA.out q hq hq' (by omega), HB.out.trans HB2.out⟩
              case measure => simp [intOf]; omega
        · have HX : Hid (jm (.arr l) (.arr m) = true) := by
            refine Lib.hid ?_
            unfold jm
            exact jms_of HLEN.out fun q h1 h2 => HA.out q h1 h2 (by omega)
          clear HR HR2 IH HA
          go_wp2
          go_ret
          exact .mk (congrArg Value.bool HX.out.symm) HB.out
    · have hlenI : ((l.length : Int) == (m.length : Int)) = false := by simp; omega
      have HLEN := Lib.hid hlen
      clear hlen HR HR2 IH
      go_enter Try.func39, Try.ntmps39
      go_wp2
      go_ret
      exact .mk (by
        have h3 : jm (.arr l) (.arr m) = false := Bool.eq_false_iff.2 (fun hh => by
          unfold jm at hh
          exact HLEN.out (jms_len hh))
        exact congrArg Value.bool h3.symm) (.refl _)
end Go.Proofs.Ytikpedfggbibpaa
