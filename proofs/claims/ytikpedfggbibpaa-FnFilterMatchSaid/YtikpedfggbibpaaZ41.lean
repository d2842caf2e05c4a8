/- Walks: the Match of a Filter in memory. Walks: simple; the memory of a Filter that grows (labels). The zipper of a Filter that grows. No program in sight. The leaves of a filter's datum, by the parts of its keys. No program in sight. Look-ups and new keys in the maps of a Filter. -/
import Derived.Test.YtikpedfggbibpaaZ40
namespace Go.Proofs.Ytikpedfggbibpaa
open Go.RowKit Go.Lib
open Go.ChangeMaps (setBlock)
set_option linter.unusedVariables false
set_option linter.unusedSimpArgs false

@[go_sem] theorem Try.ta_nil_79 (xT : TypeId) (w : World) : (Instr.typeAssert .nilIface xT 79 true).run Try.prog w = .ok (.tuple #[.map none, .bool false]) w := by kernel_rfl
@[go_sem] theorem Try.ta_iface_79 (t xT : TypeId) (v : Value) (w : World) : (Instr.typeAssert (.iface t v) xT 79 true).run Try.prog w = if t = 79 then .ok (.tuple #[v, .bool true]) w else .ok (.tuple #[.map none, .bool false]) w :=
  run_ta_iface t _ xT v _ w _ Try.underlying79 rfl (by kernel_rfl)

mutual
/-- an interface value is this filter: leaves as data are, objects as maps of the type Filter -/
def RF (w : World) : J → Value → Prop
  | .null, v => v = .nilIface
  | .bool b, v => v = .iface 4 (.bool b)
  | .int n, v => v = .iface 2 (.int .i64 n)
  | .flt _, _ => False
  | .str s, v => v = .iface 9 (.string s)
  | .arr _, _ => False
  | .obj ks l, v => ∃ m es, v = .iface 79 (.map (some m)) ∧ w.heap[m]? = some (.map es es.size) ∧ RFs w es.toList 0 ks l
def RFs (w : World) : List MapEntry → Nat → List ByteArray → List J → Prop
  | es, _, ks, [] => es = [] ∧ ks = []
  | es, i, ks, x :: xs => ∃ e es' k ks', es = e :: es' ∧ ks = k :: ks' ∧ e.key = .string k ∧ e.born = i ∧ RF w x e.val ∧ RFs w es' (i + 1) ks' xs
end
mutual
theorem RF.keep {w w' : World} (k : KeepB w w') : ∀ (j : J) {v : Value}, RF w j v → RF w' j v
  | .null, v, h => by unfold RF at h ⊢; exact h
  | .bool b, v, h => by unfold RF at h ⊢; exact h
  | .int n, v, h => by unfold RF at h ⊢; exact h
  | .flt b, v, h => by unfold RF at h ⊢; exact h
  | .str s, v, h => by unfold RF at h ⊢; exact h
  | .arr l, v, h => by unfold RF at h ⊢; exact h
  | .obj ks l, v, h => by
    unfold RF at h ⊢
    obtain ⟨m, es, e, hm, hr⟩ := h
    exact ⟨m, es, e, (k m (Array.getElem?_eq_some_iff.1 hm).1).trans hm, RFs.keep k l hr⟩
theorem RFs.keep {w w' : World} (k : KeepB w w') : ∀ (l : List J) {es : List MapEntry} {i : Nat} {ks : List ByteArray}, RFs w es i ks l → RFs w' es i ks l
  | [], _, _, _, h => by unfold RFs at h ⊢; exact h
  | x :: xs, es, i, ks, h => by
    unfold RFs at h ⊢
    obtain ⟨e, es', k', ks', h1, h2, h3, h4, h5, h6⟩ := h
    exact ⟨e, es', k', ks', h1, h2, h3, h4, RF.keep k x h5, RFs.keep k xs h6⟩
end
theorem RFs.len {w : World} : ∀ {l : List J} {es : List MapEntry} {i : Nat} {ks : List ByteArray}, RFs w es i ks l → es.length = l.length ∧ ks.length = l.length
  | [], _, _, _, h => by unfold RFs at h; obtain ⟨rfl, rfl⟩ := h; exact ⟨rfl, rfl⟩
  | x :: xs, _, _, _, h => by
    unfold RFs at h
    obtain ⟨e, es', k', ks', rfl, rfl, _, _, _, h6⟩ := h
    have := RFs.len h6
    simp [this.1, this.2]
theorem RFs.get {w : World} : ∀ {l : List J} {es : List MapEntry} {i : Nat} {ks : List ByteArray} (_ : RFs w es i ks l) (q : Nat) (hq : q < l.length),
    ∃ e k, es[q]? = some e ∧ ks[q]? = some k ∧ e.key = .string k ∧ e.born = i + q ∧ RF w l[q] e.val
  | x :: xs, _, i, _, h, 0, _ => by
    unfold RFs at h
    obtain ⟨e, es', k', ks', rfl, rfl, h3, h4, h5, h6⟩ := h
    exact ⟨e, k', rfl, rfl, h3, h4, h5⟩
  | x :: xs, _, i, _, h, q + 1, hq => by
    unfold RFs at h
    obtain ⟨e, es', k', ks', rfl, rfl, h3, h4, h5, h6⟩ := h
    obtain ⟨e', k'', a, b, c, d, f⟩ := RFs.get h6 q (by simpa using hq)
    exact ⟨e', k'', by simpa using a, by simpa using b, c, by omega, f⟩
theorem RFs.borns {w : World} : ∀ {l : List J} {es : List MapEntry} {i : Nat} {ks : List ByteArray}, RFs w es i ks l → es.map (·.born) = List.range' i es.length
  | [], _, _, _, h => by unfold RFs at h; obtain ⟨rfl, rfl⟩ := h; rfl
  | x :: xs, _, i, _, h => by
    unfold RFs at h
    obtain ⟨e, es', k', ks', rfl, rfl, _, h4, _, h6⟩ := h
    simp [RFs.borns h6, h4, List.range'_succ]
theorem RF.form {w : World} : ∀ {j : J} {v : Value}, RF w j v → v = .nilIface ∨ ∃ t x, v = .iface t x
  | .null, v, h => by unfold RF at h; exact Or.inl h
  | .bool b, v, h => by unfold RF at h; exact Or.inr ⟨_, _, h⟩
  | .int n, v, h => by unfold RF at h; exact Or.inr ⟨_, _, h⟩
  | .flt b, v, h => by unfold RF at h; exact h.elim
  | .str s, v, h => by unfold RF at h; exact Or.inr ⟨_, _, h⟩
  | .arr l, v, h => by unfold RF at h; exact h.elim
  | .obj ks l, v, h => by
    unfold RF at h
    obtain ⟨m, es, e, _⟩ := h
    exact Or.inr ⟨_, _, e⟩

/-- what asInt says of a filter's value -/
theorem asInt_rf (f : J) (vf : Value) (w : World) (h : RF w f vf) :
    Calls Try.prog 83 #[vf] w (Gives (.tuple #[.int .i64 (asI f).1, .bool (asI f).2]) w) := by
  cases f with
  | null => unfold RF at h; exact asInt_any 0 .null (by unfold J.nofl; trivial) _ w (by unfold RA; exact h)
  | bool b => unfold RF at h; exact asInt_any 0 (.bool b) (by unfold J.nofl; trivial) _ w (by unfold RA; exact h)
  | int b => unfold RF at h; exact asInt_any 0 (.int b) (by unfold J.nofl; trivial) _ w (by unfold RA; exact h)
  | str b => unfold RF at h; exact asInt_any 0 (.str b) (by unfold J.nofl; trivial) _ w (by unfold RA; exact h)
  | flt b => unfold RF at h; exact h.elim
  | arr b => unfold RF at h; exact h.elim
  | obj ks l =>
    unfold RF at h
    obtain ⟨m, es, rfl, _⟩ := h
    go_enter Try.func83, Try.ntmps83
    go_wp2
    go_ret2
    exact .mk rfl (.refl _)

def MtAt (n : Nat) : Prop := ∀ (f v : J), f.nodes + v.nodes ≤ n → n ≤ 2000 → f.ok → v.ok → v.nofl → ∀ (vf vv : Value) (w : World), RF w f vf → RA w 0 v vv →
  Calls Try.prog 88 #[vf, vv] w (Gives (.bool (suitF n f v)) w)


set_option maxRecDepth 100000 in
set_option maxHeartbeats 4000000 in
theorem mt_null (N : Nat) (f : J) (vf : Value) (w : World) (h : RF w f vf) :
    Calls Try.prog 88 #[vf, .nilIface] w (Gives (.bool (suitF (N + 1) f .null)) w) := by
  cases f with
  | flt b => unfold RF at h; exact h.elim
  | arr b => unfold RF at h; exact h.elim
  | null =>
    unfold RF at h
    subst h
    go_enter Try.func88, Try.ntmps88
    go_wp2
    all_goals go_ret
    all_goals exact .mk (by simp_all [suitF, leafEq, bytes_eq]) (.refl _)
  | bool c =>
    unfold RF at h
    subst h
    go_enter Try.func88, Try.ntmps88
    go_wp2
    all_goals go_ret
    all_goals exact .mk (by simp_all [suitF, leafEq, bytes_eq]) (.refl _)
  | int c =>
    unfold RF at h
    subst h
    go_enter Try.func88, Try.ntmps88
    go_wp2
    all_goals go_ret
    all_goals exact .mk (by simp_all [suitF, leafEq, bytes_eq]) (.refl _)
  | str c =>
    unfold RF at h
    subst h
    go_enter Try.func88, Try.ntmps88
    go_wp2
    all_goals go_ret
    all_goals exact .mk (by simp_all [suitF, leafEq, bytes_eq]) (.refl _)
  | obj ks l =>
    unfold RF at h
    obtain ⟨m, es, rfl, _⟩ := h
    go_enter Try.func88, Try.ntmps88
    go_wp2
    all_goals go_ret
    all_goals exact .mk (by simp_all [suitF, leafEq, bytes_eq]) (.refl _)

set_option maxRecDepth 100000 in
set_option maxHeartbeats 4000000 in
theorem mt_bool (N : Nat) (a : Bool) (f : J) (vf : Value) (w : World) (h : RF w f vf) :
    Calls Try.prog 88 #[vf, .iface 4 (.bool a)] w (Gives (.bool (suitF (N + 1) f (.bool a))) w) := by
  cases f with
  | flt b => unfold RF at h; exact h.elim
  | arr b => unfold RF at h; exact h.elim
  | null =>
    unfold RF at h
    subst h
    go_enter Try.func88, Try.ntmps88
    go_wp2
    all_goals go_ret
    all_goals exact .mk (by simp_all [suitF, leafEq, bytes_eq]) (.refl _)
  | bool c =>
    unfold RF at h
    subst h
    go_enter Try.func88, Try.ntmps88
    go_wp2
    all_goals go_ret
    all_goals exact .mk (by cases a <;> cases c <;> simp_all [suitF, leafEq]) (.refl _)
  | int c =>
    unfold RF at h
    subst h
    go_enter Try.func88, Try.ntmps88
    go_wp2
    all_goals go_ret
    all_goals exact .mk (by simp_all [suitF, leafEq, bytes_eq]) (.refl _)
  | str c =>
    unfold RF at h
    subst h
    go_enter Try.func88, Try.ntmps88
    go_wp2
    all_goals go_ret
    all_goals exact .mk (by simp_all [suitF, leafEq, bytes_eq]) (.refl _)
  | obj ks l =>
    unfold RF at h
    obtain ⟨m, es, rfl, _⟩ := h
    go_enter Try.func88, Try.ntmps88
    go_wp2
    all_goals go_ret
    all_goals exact .mk (by simp_all [suitF, leafEq, bytes_eq]) (.refl _)

set_option maxRecDepth 100000 in
set_option maxHeartbeats 4000000 in
theorem mt_str (N : Nat) (a : ByteArray) (f : J) (vf : Value) (w : World) (h : RF w f vf) :
    Calls Try.prog 88 #[vf, .iface 9 (.string a)] w (Gives (.bool (suitF (N + 1) f (.str a))) w) := by
  cases f with
  | flt b => unfold RF at h; exact h.elim
  | arr b => unfold RF at h; exact h.elim
  | null =>
    unfold RF at h
    subst h
    go_enter Try.func88, Try.ntmps88
    go_wp2
    all_goals go_ret
    all_goals exact .mk (by simp_all [suitF, leafEq, bytes_eq]) (.refl _)
  | bool c =>
    unfold RF at h
    subst h
    go_enter Try.func88, Try.ntmps88
    go_wp2
    all_goals go_ret
    all_goals exact .mk (by simp_all [suitF, leafEq, bytes_eq]) (.refl _)
  | int c =>
    unfold RF at h
    subst h
    go_enter Try.func88, Try.ntmps88
    go_wp2
    all_goals go_ret
    all_goals exact .mk (by simp_all [suitF, leafEq, bytes_eq]) (.refl _)
  | str c =>
    unfold RF at h
    subst h
    go_enter Try.func88, Try.ntmps88
    go_wp2
    all_goals go_ret
    all_goals exact .mk (by have := bytes_beq a c; have := bytes_beq c a; simp_all [suitF, leafEq, bytes_eq]) (.refl _)
  | obj ks l =>
    unfold RF at h
    obtain ⟨m, es, rfl, _⟩ := h
    go_enter Try.func88, Try.ntmps88
    go_wp2
    all_goals go_ret
    all_goals exact .mk (by simp_all [suitF, leafEq, bytes_eq]) (.refl _)

set_option maxRecDepth 100000 in
set_option maxHeartbeats 4000000 in
theorem mt_int (N : Nat) (a : Int) (f : J) (vf : Value) (w : World) (h : RF w f vf) :
    Calls Try.prog 88 #[vf, .iface 2 (.int .i64 a)] w (Gives (.bool (suitF (N + 1) f (.int a))) w) := by
  have HF : Hid (∀ w1, Calls Try.prog 83 #[.iface 2 (.int .i64 a)] w1 (Gives (.tuple #[.int .i64 a, .bool true]) w1)) := fun w1 => asInt_any 0 (.int a) (by unfold J.nofl; trivial) _ w1 (by unfold RA; rfl)
  have HT : Hid (∀ w1, Ext w w1 → Calls Try.prog 83 #[vf] w1 (Gives (.tuple #[.int .i64 (asI f).1, .bool (asI f).2]) w1)) := fun w1 he => asInt_rf f _ w1 (RF.keep he.keepB f h)
  have hj0 : suitF (N + 1) f (.int a) = ((asI f).2 && decide (a = (asI f).1)) := by
    cases f with
    | int n => rw [Bool.eq_iff_iff]; simp [suitF, leafEq, asI]; exact eq_comm.trans decide_eq_true_iff.symm
    | _ => simp [suitF, leafEq, asI]
  have HJ := Lib.hid hj0
  clear hj0
  have hfm := h.form
  generalize asI f = r at HT HJ
  obtain ⟨n, b⟩ := r
  generalize hjm : suitF (N + 1) f (.int a) = res at HJ
  change Hid (∀ w1, Ext w w1 → Calls Try.prog 83 #[vf] w1 (Gives (.tuple #[.int .i64 n, .bool b]) w1)) at HT
  change Hid (res = (b && decide (a = n))) at HJ
  clear hjm h
  rcases hfm with rfl | ⟨ty, x, rfl⟩
  all_goals
    go_enter Try.func88, Try.ntmps88
    go_wp2_with (first | (go_at_call 83; refine (HF.out _).mono ?_; rintro e w1 ⟨rfl, hb⟩; have B1 := Lib.hid hb; clear hb HF) | (go_at_call 83; refine (HT.out _ B1.out).mono ?_; rintro e w2 ⟨rfl, hb⟩; have B2 : Hid (Ext w w2) := B1.out.trans hb; clear hb B1 HT; cases b))
    all_goals go_ret
    all_goals exact .mk (by have := HJ.out; subst this; first | rfl | (show _ = Value.bool (true && _); rw [Bool.true_and]; congr 1; rw [Bool.eq_iff_iff]; simp)) B2.out

set_option maxRecDepth 100000 in
set_option maxHeartbeats 4000000 in
theorem mt_obj_leaf (N : Nat) (ks : List ByteArray) (l : List J) (f : J) (hf : f.isLeaf = true) (vf vv : Value) (w : World) (h : RF w f vf) (hv : RA w 0 (.obj ks l) vv) :
    Calls Try.prog 88 #[vf, vv] w (Gives (.bool (suitF (N + 1) f (.obj ks l))) w) := by
  unfold RA at hv
  obtain ⟨m, es, rfl, _⟩ := hv
  cases f with
  | flt b => unfold RF at h; exact h.elim
  | arr b => unfold RF at h; exact h.elim
  | obj ks l => cases hf
  | null =>
    unfold RF at h
    subst h
    go_enter Try.func88, Try.ntmps88
    go_wp2
    all_goals go_ret
    all_goals exact .mk (by simp_all [suitF, leafEq]) (.refl _)
  | bool c =>
    unfold RF at h
    subst h
    go_enter Try.func88, Try.ntmps88
    go_wp2
    all_goals go_ret
    all_goals exact .mk (by simp_all [suitF, leafEq]) (.refl _)
  | int c =>
    unfold RF at h
    subst h
    go_enter Try.func88, Try.ntmps88
    go_wp2
    all_goals go_ret
    all_goals exact .mk (by simp_all [suitF, leafEq]) (.refl _)
  | str c =>
    unfold RF at h
    subst h
    go_enter Try.func88, Try.ntmps88
    go_wp2
    all_goals go_ret
    all_goals exact .mk (by simp_all [suitF, leafEq]) (.refl _)

set_option maxRecDepth 100000 in
set_option maxHeartbeats 4000000 in
theorem mt_arr (N : Nat) (ih : MtAt N) (f : J) (l : List J) (hn : f.nodes + (J.arr l).nodes ≤ N + 1) (hN : N + 1 ≤ 2000) (hf : f.ok) (hv : J.oks l) (hvn : J.nofls l) (vf vv : Value) (w : World) (hrf : RF w f vf) (hrv : RA w 0 (.arr l) vv) :
    Calls Try.prog 88 #[vf, vv] w (Gives (.bool (suitF (N + 1) f (.arr l))) w) := by
  unfold RA at hrv
  obtain ⟨b, cap, rfl, _, hcap, hrow⟩ := hrv
  have hl1 : l.length ≤ 2000 := by
    have := J.nodesL_len l
    simp only [J.nodes] at hn
    omega
  have HIH : Hid (∀ i, (h : i < l.length) → ∀ w1 u, Ext w w1 → RA w1 0 l[i] u → Calls Try.prog 88 #[vf, u] w1 (Gives (.bool (suitF N f l[i])) w1)) := fun i h w1 u hx hu => by
    refine ih f l[i] ?_ (by omega) hf (J.oks_get hv i h) (J.nofls_get hvn i h) vf u w1 (RF.keep hx.keepB f hrf) hu
    have := J.nodes_mem (List.getElem_mem h)
    simp only [J.nodes] at hn
    omega
  have HR := Lib.hid hrow
  have hfm := hrf.form
  have HRES : Hid (suitF (N + 1) f (.arr l) = l.any fun x => suitF N f x) := show _ = _ from by simp only [suitF]
  generalize suitF (N + 1) f (.arr l) = res at HRES
  clear hrf hrow hcap ih hv hvn hf hn hN
  rcases hfm with rfl | ⟨ty, x, rfl⟩
  all_goals
    go_enter Try.func88, Try.ntmps88
    go_wp2
    go_loopw [4, 58] (fun q i wr => ∃ n : Nat, n ≤ l.length ∧ q = .bool false ∧ i = .int .i64 n ∧ (∀ q, (hq : q < l.length) → q < n → suitF N f l[q] = false) ∧ Ext w wr)
      (fun _ i _ => l.length - (intOf i).toNat)
    case atStart => exact ⟨0, Nat.zero_le _, rfl, rfl, fun q _ h => by omega, Ext.refl _⟩
    case round =>
      obtain ⟨n, hn, rfl, rfl, hall, hb⟩ := hrel
      have HA := Lib.hid hall
      have HB := Lib.hid hb
      clear hall hb
      by_cases hlt : n < l.length
      · obtain ⟨u, hu, hru⟩ := RAs.get HR.out n hlt
        simp only [Nat.zero_add] at hu
        have hu := HB.out.keep _ _ hu
        have HC := Lib.hid (HIH.out n hlt wr u HB.out (RA.keep (HB.out.keepB.from 0) (Nat.le_refl _) _ hru))
        have HSU := Lib.hid hru.form
        clear hru
        generalize hjr : suitF N f l[n] = r at HC
        have HJR := Lib.hid hjr
        clear hjr
        rcases HSU.out with rfl | ⟨ty', x', rfl⟩
        all_goals
          clear HSU
          go_wp2_with (go_at_call 88; refine (HC.out).mono ?_; rintro e w2 ⟨rfl, hb2⟩; have HB2 := Lib.hid hb2; clear hb2 HC; cases r)
          · go_roundw
            case rel => exact ⟨n + 1, by omega, rfl, by go_num, fun q hq hqm => by
              by_cases hqn : q = n
              · subst hqn; exact HJR.out
              · exact HA.out q hq (by omega), HB.out.trans HB2.out⟩
            case measure => simp [intOf]; omega
          · have hr : res = true := by
              rw [HRES.out, List.any_eq_true]
              exact ⟨_, List.getElem_mem hlt, HJR.out⟩
            subst hr
            clear HRES
            go_wp2
            go_ret
            exact .mk rfl (HB.out.trans HB2.out)
      · have hr : res = false := by
          rw [HRES.out, List.any_eq_false]
          intro y hy
          obtain ⟨q, hq, rfl⟩ := List.getElem_of_mem hy
          rw [HA.out q hq (by omega)]
          exact Bool.false_ne_true
        subst hr
        clear HR HIH HA HRES
        go_wp2
        go_ret
        exact .mk rfl HB.out

theorem lookup_RM79 (w : World) (m : Nat) (es : Array MapEntry) (ks : List ByteArray) (l : List J) (hm : w.heap[m]? = some (.map es es.size)) (h : RMs w 0 es.toList 0 ks l) (hn : ks.Nodup) (k : ByteArray) :
    ∃ u, (Instr.lookup 77 (.map (some m)) (.string k) false).run Try.prog w = .ok u w ∧ RA w 0 (look ks l k) u := lookup_RM w m es ks l hm h hn k

set_option maxRecDepth 100000 in
set_option maxHeartbeats 4000000 in
theorem mt_obj (N : Nat) (ih : MtAt N) (ks : List ByteArray) (l : List J) (ks' : List ByteArray) (m : List J) (hn : (J.obj ks l).nodes + (J.obj ks' m).nodes ≤ N + 1) (hN : N + 1 ≤ 2000) (hok : (J.obj ks l).ok) (htok : (J.obj ks' m).ok) (htn : J.nofls m) (vf vv : Value) (w : World) (hrf : RF w (.obj ks l) vf) (hrv : RA w 0 (.obj ks' m) vv) :
    Calls Try.prog 88 #[vf, vv] w (Gives (.bool (suitF (N + 1) (.obj ks l) (.obj ks' m))) w) := by
  unfold RF at hrf
  obtain ⟨bm, es, rfl, hbm, hrow⟩ := hrf
  unfold RA at hrv
  obtain ⟨bm2, es2, rfl, _, hbm2, hrow2⟩ := hrv
  unfold J.ok at htok hok
  have hlt1 : bm < w.heap.size := (Array.getElem?_eq_some_iff.1 hbm).1
  have hlt2 : bm2 < w.heap.size := (Array.getElem?_eq_some_iff.1 hbm2).1
  have hrg := run_range_map (P := Try.prog) w 79 _ _ bm es es.size Try.underlying79 hbm
  have HBM := Lib.hid hbm
  have HBM2 := Lib.hid hbm2
  have HLK : Hid (∀ i, (h : i < ks.length) → (h' : i < l.length) → look ks l ks[i] = l[i]) := fun i h h' => look_hit h' (List.getElem?_eq_getElem h) hok.1
  have hlen0 := hok.2.1
  have HLEN := Lib.hid hlen0
  have HRES : Hid (suitF (N + 1) (.obj ks l) (.obj ks' m) = ks.all fun k => suitF N (look ks l k) (look ks' m k)) := show _ = _ from by simp only [suitF]
  generalize suitF (N + 1) (.obj ks l) (.obj ks' m) = res at HRES
  have HIH : Hid (∀ i, (h : i < ks.length) → (h' : i < l.length) → ∀ w1 va vb, RF w1 l[i] va → RA w1 0 (look ks' m ks[i]) vb → Calls Try.prog 88 #[va, vb] w1 (Gives (.bool (suitF N l[i] (look ks' m ks[i]))) w1)) := fun i h h' w1 va vb r1 r2 => by
    have hlook : (look ks' m ks[i]).ok ∧ (look ks' m ks[i]).nofl := look_all (p := fun j => j.ok ∧ j.nofl) ⟨by unfold J.ok; trivial, by unfold J.nofl; trivial⟩ fun q hq => ⟨J.oks_get htok.2.2 q hq, J.nofls_get htn q hq⟩
    have hnd : (look ks' m ks[i]).nodes ≤ (J.obj ks' m).nodes := look_all (p := fun j => j.nodes ≤ (J.obj ks' m).nodes) (by simp only [J.nodes]; omega) fun q hq => by
      have := J.nodes_mem (List.getElem_mem hq)
      simp only [J.nodes]
      omega
    have hnd2 := J.nodes_mem (List.getElem_mem h')
    refine ih _ _ ?_ (by omega) (J.oks_get hok.2.2 i h') hlook.1 hlook.2 va vb w1 r1 r2
    have e1 : (J.obj ks l).nodes = 1 + J.nodesL l := by simp only [J.nodes]
    omega
  have HTOK := Lib.hid htok
  have HR := Lib.hid hrow
  have HR2 := Lib.hid hrow2
  clear ih hn hN hok htok htn hrow hrow2 hbm hbm2 hlen0
  go_enter Try.func88, Try.ntmps88
  go_wp2
  go_loopw [4] (fun q wr => q = .bool true ∧ ∃ seen : Array Nat, wr.heap[w.heap.size]? = some (.mapIter (some bm) es.size seen es.size) ∧ (∀ q, (hq : q < ks.length) → seen.contains q = true → suitF N (look ks l ks[q]) (look ks' m ks[q]) = true) ∧ Ext w wr)
    (fun _ wr => (leftOf es (wr.iterSeen w.heap.size)).size)
  case atStart => exact ⟨rfl, #[], heap_alloc_new _ _, fun q _ h => by simp at h, (Ext.refl _).alloc _⟩
  case round =>
    obtain ⟨rfl, seen, hit, hall, hb⟩ := hrel
    have hbm : wr.heap[bm]? = some (.map es es.size) := (hb.block bm hlt1).trans HBM.out
    have hold : ∀ x ∈ es.toList, x.born < es.size := fun x hx => by
      obtain ⟨j, hj, hj'⟩ := List.mem_iff_getElem.1 hx
      have hl := RFs.len HR.out
      obtain ⟨e', k', a, _, _, d, _⟩ := RFs.get HR.out j (by omega)
      rw [List.getElem?_eq_getElem hj, hj'] at a
      cases a
      simp at hj
      omega
    have law := run_next_at (P := Try.prog) wr 0 w.heap.size bm es.size es.size seen es es.size hit hbm hold (Nat.le_refl _)
    rcases law with ⟨h0, hrun⟩ | ⟨e, he, w1, hw1, hrun⟩
    · have hnx : ∀ ty, (Instr.next (.pointer (some ⟨w.heap.size, 0, none⟩)) false ty).run Try.prog wr = _ := fun _ => hrun
      have hr : res = true := by
        rw [HRES.out, List.all_eq_true]
        intro k hk
        obtain ⟨q, hq, rfl⟩ := List.getElem_of_mem hk
        refine hall q hq ?_
        obtain ⟨e', k', a, _, _, d, _⟩ := RFs.get HR.out q (by have := HLEN.out; omega)
        have := all_seen es seen h0 e' (List.mem_of_getElem? a)
        rw [d, Nat.zero_add] at this
        exact this
      subst hr
      have HB := Lib.hid hb
      clear hb hall hold hrun hbm hit HRES HIH HR HR2
      go_wp2
      go_ret
      exact .mk rfl HB.out
    · have hmem := mem_left he
      obtain ⟨j, hj⟩ := List.mem_iff_getElem?.1 hmem.1
      have hlen := RFs.len HR.out
      have hjl : j < l.length := by have := (List.getElem?_eq_some_iff.1 hj).1; omega
      obtain ⟨e', k, a1, a2, a3, a4, a5⟩ := RFs.get HR.out j hjl
      rw [hj] at a1
      cases a1
      have hw1 : Ext w w1 ∧ w1.heap[w.heap.size]? = some (.mapIter (some bm) es.size seen es.size) := by
        rcases hw1 with rfl | rfl
        · exact ⟨hb, hit⟩
        · exact ⟨Ext.drew hb, hit⟩
      have hit2 : (setBlock w1 w.heap.size (.mapIter (some bm) es.size (seen.push e.born) es.size)).heap[w.heap.size]? = some (.mapIter (some bm) es.size (seen.push e.born) es.size) := setBlock_same hw1.2
      have hb2 := ext_setBlock hw1.1 (Nat.le_refl _) (.mapIter (some bm) es.size (seen.push e.born) es.size)
      have hlt9 := left_shrinks es seen e he
      generalize setBlock w1 w.heap.size (.mapIter (some bm) es.size (seen.push e.born) es.size) = w2 at hit2 hb2 hrun
      have hen := run_entry_at (P := Try.prog) w2 w.heap.size bm es.size seen es es.size e hit2 ((hb2.block bm hlt1).trans HBM.out) hmem.1 (by
        rw [RFs.borns HR.out]
        exact List.nodup_range')
      obtain ⟨u, hlk, hru⟩ := lookup_RM w2 bm2 es2 ks' m ((hb2.block bm2 hlt2).trans HBM2.out) (RMs.keep (hb2.keepB.from 0) (Nat.le_refl _) _ HR2.out) HTOK.out.1 k
      have hnx : ∀ ty, (Instr.next (.pointer (some ⟨w.heap.size, 0, none⟩)) false ty).run Try.prog wr = .ok (.tuple #[.bool true, .string k, e.val]) w2 := fun _ => by rw [← a3]; exact hrun
      rw [a3] at hen
      obtain ⟨hj1, hj2⟩ := List.getElem?_eq_some_iff.1 a2
      have hra := RF.keep hb2.keepB _ a5
      have hfe := hra.form
      have hfu := hru.form
      have hcall := HIH.out j hj1 hjl w2 e.val u hra (by rw [hj2]; exact hru)
      have HC := Lib.hid hcall
      have HIT := Lib.hid hit2
      have HB2 := Lib.hid hb2
      have HL9 := Lib.hid hlt9
      have HIT0 := Lib.hid hit
      have HA := Lib.hid hall
      have hres0 : suitF N (look ks l ks[j]) (look ks' m ks[j]) = suitF N l[j] (look ks' m ks[j]) := by rw [HLK.out j hj1 hjl]
      generalize hjr : suitF N l[j] (look ks' m ks[j]) = r at HC
      have HJR := Lib.hid (hres0.trans hjr)
      have HQ : Hid (∀ q, (hq : q < ks.length) → (seen.push e.born).contains q = true → q = j ∨ seen.contains q = true) := fun q hq hs => by
        rw [contains_push] at hs
        simp only [Bool.or_eq_true, beq_iff_eq] at hs
        rcases hs with h | h
        · exact Or.inr h
        · exact Or.inl (by omega)
      have HJ1 := Lib.hid hj1
      clear he hj hjr hra hru hrun hw1 hit hit2 hb hbm hold hall hmem a2 a3 a4 a5 hlt9 hlen hres0 hcall hj2
      generalize e.val = ev at *
      rcases hfe with rfl | ⟨ty, x, rfl⟩ <;> rcases hfu with rfl | ⟨ty', x', rfl⟩
      all_goals
        go_wp2_with (go_at_call 88; refine (HC.out).mono ?_; rintro e0 w3 ⟨rfl, hb3⟩; have HB3 := Lib.hid hb3; clear hb3 HC; cases r)
        · have h3 : res = false := by
            rw [HRES.out, List.all_eq_false]
            exact ⟨_, List.getElem_mem HJ1.out, by rw [HJR.out]; exact Bool.false_ne_true⟩
          subst h3
          clear HRES
          go_ret
          exact .mk rfl (HB2.out.trans HB3.out)
        · go_roundw
          case rel => exact ⟨rfl, seen.push e.born, (HB3.out.block _ (Array.getElem?_eq_some_iff.1 HIT.out).1).trans HIT.out, fun q hq hs => by
            rcases HQ.out q hq hs with h | h
            · subst h
              exact HJR.out
            · exact HA.out q hq h, HB2.out.trans HB3.out⟩
          case measure =>
            rw [iterSeen_of ((HB3.out.block _ (Array.getElem?_eq_some_iff.1 HIT.out).1).trans HIT.out), iterSeen_of HIT0.out]
            exact HL9.out

theorem mt_any : ∀ n, MtAt n
  | 0 => fun f v hn => by have := f.nodes_pos; omega
  | N + 1 => fun f v hn hN hf hv hvn vf vv w h1 h2 => by
    cases v with
    | null => unfold RA at h2; subst h2; exact mt_null N f vf w h1
    | bool a => unfold RA at h2; subst h2; exact mt_bool N a f vf w h1
    | int a => unfold RA at h2; subst h2; exact mt_int N a f vf w h1
    | str a => unfold RA at h2; subst h2; exact mt_str N a f vf w h1
    | flt a => unfold J.nofl at hvn; exact hvn.elim
    | arr l => exact mt_arr N (mt_any N) f l hn hN hf (by simpa [J.ok] using hv) (by simpa [J.nofl] using hvn) vf vv w h1 h2
    | obj ks l =>
      by_cases hl : f.isLeaf = true
      · exact mt_obj_leaf N ks l f hl vf vv w h1 h2
      · cases f with
        | obj kf lf => exact mt_obj N (mt_any N) kf lf ks l hn hN hf hv (by simpa [J.nofl] using hvn) vf vv w h1 h2
        | arr l => unfold RF at h1; exact h1.elim
        | flt l => unfold RF at h1; exact h1.elim
        | null => exact absurd rfl hl
        | bool b => exact absurd rfl hl
        | int b => exact absurd rfl hl
        | str b => exact absurd rfl hl

set_option maxRecDepth 20000 in
/-- Filter.Match -/
theorem filterMatch_any (ks : List ByteArray) (l : List J) (v : J) (n : Nat) (hn : (J.obj ks l).nodes + v.nodes ≤ n) (hN : n ≤ 2000) (hf : (J.obj ks l).ok) (hv : v.ok) (hvn : v.nofl) (m : Nat) (vv : Value) (w : World) (h1 : RF w (.obj ks l) (.iface 79 (.map (some m)))) (h2 : RA w 0 v vv) :
    Calls Try.prog 56 #[.map (some m), vv] w (Gives (.bool (suitF n (.obj ks l) v)) w) := by
  have HC := Lib.hid (mt_any n _ v hn hN hf hv hvn _ vv w h1 h2)
  have hfm := h2.form
  clear h1 h2 hn hN hf hv hvn
  generalize suitF n (.obj ks l) v = r at *
  rcases hfm with rfl | ⟨ty, x, rfl⟩
  all_goals
    go_enter Try.func56, Try.ntmps56
    go_wp2_with (go_at_call 88; refine (HC.out).mono ?_; rintro e w1 ⟨rfl, hx⟩; have HX := Lib.hid hx; clear hx HC)
    go_ret
    exact .mk rfl HX.out
end Go.Proofs.Ytikpedfggbibpaa
namespace Go.Proofs.Ytikpedfggbibpaa
open Go.RowKit Go.Lib
open Go.ChangeMaps (setBlock)
set_option linter.unusedVariables false
set_option linter.unusedSimpArgs false

set_option maxRecDepth 20000 in
set_option maxHeartbeats 2000000 in
theorem simple_any (j : J) (hj : j.ok) (n : Nat) (hn : n ≤ 2) (v : Value) (w : World) (h : RV w (V.ofJ j) v) : Calls Try.prog 52 #[v, .int .i64 (n : Int)] w (Gives (.bool true) w) := by
  have HR : Hid (∀ w1, Keep w w1 → Calls Try.prog 37 #[v] w1 (Gives (.bool true) w1)) := fun w1 hk => right_any j.nodes j (Nat.le_refl _) hj v w1 (RV.keep hk _ h)
  have HB : Hid (∀ w1, Keep w w1 → Calls Try.prog 38 #[v] w1 (Gives (.bool false) w1)) := fun w1 hk => big_any j.nodes j (Nat.le_refl _) v w1 (RV.keep hk _ h)
  obtain ⟨k, nn, f, s, al, ll, lc, ak, kl, kc, rfl⟩ := h.sh
  clear h
  have hn' : (n : Int) ≤ 2 := by omega
  go_enter Try.func52, Try.ntmps52
  go_wp2_with (first
    | (go_at_call 37; refine (HR.out _ (Keep.alloc _ _)).mono ?_; rintro e w1 ⟨rfl, hx1⟩; have HX1 := Lib.hid hx1; obtain ⟨b0, b1, b2, b3, b4, b5⟩ := box_cells' hx1.keep; clear hx1 HR)
    | (go_at_call 38; refine (HB.out _ ((Keep.alloc _ _).trans HX1.out.keep)).mono ?_; rintro e w2 ⟨rfl, hx2⟩; have HX2 := Lib.hid hx2; clear hx2 HB))
  go_ret
  exact .mk rfl (((Ext.refl w).alloc _).trans (HX1.out.trans HX2.out))

/-! ### a Filter that grows: each map block has its path for a label -/
abbrev Lbl : Type := Nat → Option Pth
mutual
/-- the value at this path is this tree; its map blocks bear their paths -/
def RL (w : World) (A : Lbl) (p : Pth) : J → Value → Prop
  | .null, v => v = .nilIface
  | .bool b, v => v = .iface 4 (.bool b)
  | .int n, v => v = .iface 2 (.int .i64 n)
  | .flt _, _ => False
  | .str s, v => v = .iface 9 (.string s)
  | .arr _, _ => False
  | .obj ks l, v => ∃ m es, v = .iface 79 (.map (some m)) ∧ A m = some p ∧ w.heap[m]? = some (.map es es.size) ∧ RLs w A p es.toList 0 ks l
def RLs (w : World) (A : Lbl) (p : Pth) : List MapEntry → Nat → List ByteArray → List J → Prop
  | es, _, ks, [] => es = [] ∧ ks = []
  | es, i, ks, x :: xs => ∃ e es' k ks', es = e :: es' ∧ ks = k :: ks' ∧ e.key = .string k ∧ e.born = i ∧ RL w A (p ++ [k]) x e.val ∧ RLs w A p es' (i + 1) ks' xs
end
mutual
theorem RL.rf {w : World} {A : Lbl} : ∀ (j : J) {p : Pth} {v : Value}, RL w A p j v → RF w j v
  | .null, p, v, h => by unfold RL at h; unfold RF; exact h
  | .bool b, p, v, h => by unfold RL at h; unfold RF; exact h
  | .int n, p, v, h => by unfold RL at h; unfold RF; exact h
  | .flt b, p, v, h => by unfold RL at h; exact h.elim
  | .str s, p, v, h => by unfold RL at h; unfold RF; exact h
  | .arr l, p, v, h => by unfold RL at h; exact h.elim
  | .obj ks l, p, v, h => by
    unfold RL at h
    unfold RF
    obtain ⟨m, es, e, _, hm, hr⟩ := h
    exact ⟨m, es, e, hm, RLs.rf l hr⟩
theorem RLs.rf {w : World} {A : Lbl} : ∀ (l : List J) {p : Pth} {es : List MapEntry} {i : Nat} {ks : List ByteArray}, RLs w A p es i ks l → RFs w es i ks l
  | [], p, _, _, _, h => by unfold RLs at h; unfold RFs; exact h
  | x :: xs, p, es, i, ks, h => by
    unfold RLs at h
    unfold RFs
    obtain ⟨e, es', k', ks', h1, h2, h3, h4, h5, h6⟩ := h
    exact ⟨e, es', k', ks', h1, h2, h3, h4, RL.rf x h5, RLs.rf xs h6⟩
end
/-- more labels; the blocks whose labels reach below the path stand -/
structure LKeep (w w' : World) (A A' : Lbl) (p : Pth) : Prop where
  lbl : ∀ k q, A k = some q → A' k = some q
  blk : ∀ k r, A k = some (p ++ r) → w'.heap[k]? = w.heap[k]?
theorem LKeep.down {w w' : World} {A A' : Lbl} {p : Pth} (h : LKeep w w' A A' p) (k : ByteArray) : LKeep w w' A A' (p ++ [k]) :=
  ⟨h.lbl, fun m r e => h.blk m (k :: r) (by rw [e, List.append_assoc]; rfl)⟩
mutual
theorem RL.keep {w w' : World} {A A' : Lbl} : ∀ (j : J) {p : Pth} {v : Value}, LKeep w w' A A' p → RL w A p j v → RL w' A' p j v
  | .null, p, v, k, h => by unfold RL at h ⊢; exact h
  | .bool b, p, v, k, h => by unfold RL at h ⊢; exact h
  | .int n, p, v, k, h => by unfold RL at h ⊢; exact h
  | .flt b, p, v, k, h => by unfold RL at h ⊢; exact h
  | .str s, p, v, k, h => by unfold RL at h ⊢; exact h
  | .arr l, p, v, k, h => by unfold RL at h ⊢; exact h
  | .obj ks l, p, v, k, h => by
    unfold RL at h ⊢
    obtain ⟨m, es, e, hA, hm, hr⟩ := h
    exact ⟨m, es, e, k.lbl m p hA, (k.blk m [] (by rw [hA, List.append_nil])).trans hm, RLs.keep l k hr⟩
theorem RLs.keep {w w' : World} {A A' : Lbl} : ∀ (l : List J) {p : Pth} {es : List MapEntry} {i : Nat} {ks : List ByteArray}, LKeep w w' A A' p → RLs w A p es i ks l → RLs w' A' p es i ks l
  | [], p, _, _, _, k, h => by unfold RLs at h ⊢; exact h
  | x :: xs, p, es, i, ks, k, h => by
    unfold RLs at h ⊢
    obtain ⟨e, es', k', ks', h1, h2, h3, h4, h5, h6⟩ := h
    exact ⟨e, es', k', ks', h1, h2, h3, h4, RL.keep x (k.down k') h5, RLs.keep xs k h6⟩
end
theorem RLs.len {w : World} {A : Lbl} {p : Pth} : ∀ {l : List J} {es : List MapEntry} {i : Nat} {ks : List ByteArray}, RLs w A p es i ks l → es.length = l.length ∧ ks.length = l.length
  | [], _, _, _, h => by unfold RLs at h; obtain ⟨rfl, rfl⟩ := h; exact ⟨rfl, rfl⟩
  | x :: xs, _, _, _, h => by
    unfold RLs at h
    obtain ⟨e, es', k', ks', rfl, rfl, _, _, _, h6⟩ := h
    have := RLs.len h6
    simp [this.1, this.2]
theorem RLs.get {w : World} {A : Lbl} {p : Pth} : ∀ {l : List J} {es : List MapEntry} {i : Nat} {ks : List ByteArray} (_ : RLs w A p es i ks l) (q : Nat) (hq : q < l.length),
    ∃ e k, es[q]? = some e ∧ ks[q]? = some k ∧ e.key = .string k ∧ e.born = i + q ∧ RL w A (p ++ [k]) l[q] e.val
  | x :: xs, _, i, _, h, 0, _ => by
    unfold RLs at h
    obtain ⟨e, es', k', ks', rfl, rfl, h3, h4, h5, h6⟩ := h
    exact ⟨e, k', rfl, rfl, h3, h4, h5⟩
  | x :: xs, _, i, _, h, q + 1, hq => by
    unfold RLs at h
    obtain ⟨e, es', k', ks', rfl, rfl, h3, h4, h5, h6⟩ := h
    obtain ⟨e', k'', a, b, c, d, f⟩ := RLs.get h6 q (by simpa using hq)
    exact ⟨e', k'', by simpa using a, by simpa using b, c, by omega, f⟩
theorem RLs_of {w : World} {A : Lbl} {p : Pth} : ∀ {l : List J} {es : List MapEntry} {i : Nat} {ks : List ByteArray}, ks.length = l.length → es.length = l.length →
    (∀ q, (hq : q < l.length) → ∃ e k, es[q]? = some e ∧ ks[q]? = some k ∧ e.key = .string k ∧ e.born = i + q ∧ RL w A (p ++ [k]) l[q] e.val) → RLs w A p es i ks l
  | [], es, i, ks, h1, h2, _ => by unfold RLs; exact ⟨List.eq_nil_of_length_eq_zero h2, List.eq_nil_of_length_eq_zero h1⟩
  | x :: xs, [], _, _, _, h2, _ => by simp at h2
  | x :: xs, e :: es, i, [], h1, _, _ => by simp at h1
  | x :: xs, e :: es, i, k :: ks, h1, h2, h => by
    unfold RLs
    obtain ⟨e', k', a, b, c, d, f⟩ := h 0 (by simp)
    simp at a b
    subst a; subst b
    refine ⟨e, es, k, ks, rfl, rfl, c, by omega, f, RLs_of (by simpa using h1) (by simpa using h2) fun q hq => ?_⟩
    obtain ⟨e', k', a, b, c, d, f⟩ := h (q + 1) (by simpa using hq)
    exact ⟨e', k', by simpa using a, by simpa using b, c, by omega, f⟩
end Go.Proofs.Ytikpedfggbibpaa
namespace Go.Proofs.Ytikpedfggbibpaa
open Go.RowKit Go.Lib
set_option linter.unusedVariables false
set_option linter.unusedSimpArgs false

theorem tree_snoc {E F : Pth → J → Prop} {ks : List ByteArray} {l : List J} {k : ByteArray} {T : J} (h : TreeOf E (.obj ks l)) (hk : k ∉ ks) (hT : TreeOf F T) (hne : ∃ r x, F r x) :
    TreeOf (fun q x => E q x ∨ ∃ r, q = k :: r ∧ F r x) (.obj (ks ++ [k]) (l ++ [T])) := by
  obtain ⟨n1, n2, n3, n4, n5⟩ := h.obj_inv
  refine TreeOf.obj _ _ _ ?_ (by simp [n2]) (fun p x h => ?_) (fun k' hk' => ?_) (fun k' hk' => ?_)
  · rw [List.nodup_append]
    exact ⟨n1, by simp, fun a ha b hb e => by simp only [List.mem_singleton] at hb; subst hb; subst e; exact hk ha⟩
  · rcases h with h | ⟨r, rfl, h⟩
    · obtain ⟨k', r', e, hk'⟩ := n3 p x h
      exact ⟨k', r', e, by simp [hk']⟩
    · exact ⟨k, r, rfl, by simp⟩
  · rw [look_snoc n2 hk]
    by_cases hkk : k = k'
    · subst hkk
      rw [if_pos rfl]
      refine hT.congr fun q x => ?_
      constructor
      · exact fun h => Or.inr ⟨q, rfl, h⟩
      · rintro (h | ⟨r, e, h⟩)
        · obtain ⟨k', r', e, hk'⟩ := n3 _ _ h
          simp only [List.cons.injEq] at e
          rw [← e.1] at hk'
          exact absurd hk' hk
        · simp only [List.cons.injEq, true_and] at e
          rw [e]; exact h
    · rw [if_neg hkk]
      have hk2 : k' ∈ ks := by
        rcases List.mem_append.1 hk' with h | h
        · exact h
        · exact absurd (List.mem_singleton.1 h).symm hkk
      refine (n4 k' hk2).congr fun q x => ?_
      constructor
      · exact Or.inl
      · rintro (h | ⟨r, e, _⟩)
        · exact h
        · simp only [List.cons.injEq] at e
          exact absurd e.1.symm hkk
  · rcases List.mem_append.1 hk' with h | h
    · obtain ⟨r', x', h'⟩ := n5 k' h
      exact ⟨r', x', Or.inl h'⟩
    · rw [List.mem_singleton.1 h]
      obtain ⟨r, x, hf⟩ := hne
      exact ⟨r, x, Or.inr ⟨r, rfl, hf⟩⟩

theorem tree_set {E D : Pth → J → Prop} {ks : List ByteArray} {l : List J} {k : ByteArray} {T : J} {i : Nat} (h : TreeOf E (.obj ks l)) (hi : ks[i]? = some k) (hT : TreeOf (fun r x => E (k :: r) x ∨ D r x) T) :
    TreeOf (fun q x => E q x ∨ ∃ r, q = k :: r ∧ D r x) (.obj ks (l.set i T)) := by
  obtain ⟨n1, n2, n3, n4, n5⟩ := h.obj_inv
  obtain ⟨hik, hke⟩ := List.getElem?_eq_some_iff.1 hi
  have hmem : k ∈ ks := by rw [← hke]; exact List.getElem_mem _
  refine TreeOf.obj _ _ _ n1 (by simpa using n2) (fun p x h => ?_) (fun k' hk' => ?_) (fun k' hk' => ?_)
  · rcases h with h | ⟨r, rfl, _⟩
    · exact n3 p x h
    · exact ⟨k, r, rfl, hmem⟩
  · rw [look_set hik n2 n1, hke]
    by_cases hkk : k = k'
    · subst hkk
      rw [if_pos rfl]
      refine hT.congr fun q x => ?_
      simp
    · rw [if_neg hkk]
      refine (n4 k' hk').congr fun q x => ?_
      constructor
      · exact Or.inl
      · rintro (h | ⟨r, e, _⟩)
        · exact h
        · simp only [List.cons.injEq] at e
          exact absurd e.1.symm hkk
  · obtain ⟨r', x', h'⟩ := n5 k' hk'
    exact ⟨r', x', Or.inl h'⟩

/-- blocks whose labels do not reach below the path stand; labels stand -/
structure LOut (w w' : World) (A A' : Lbl) (p : Pth) : Prop where
  lbl : ∀ k q, A k = some q → A' k = some q
  blk : ∀ k q, A k = some q → (¬ ∃ r, q = p ++ r) → w'.heap[k]? = w.heap[k]?
theorem LOut.up {w w' : World} {A A' : Lbl} {p : Pth} {k : ByteArray} (h : LOut w w' A A' (p ++ [k])) : LOut w w' A A' p :=
  ⟨h.lbl, fun b q hb hn => h.blk b q hb fun ⟨r, e⟩ => hn ⟨k :: r, by rw [e, List.append_assoc]; rfl⟩⟩

/-- what the tree at the root becomes as the one at this path grows -/
def Zip (w : World) (A : Lbl) (p0 s : Pth) (m root : Nat) (Ec E0 : Pth → J → Prop) : Prop :=
  ∀ (w' : World) (A' : Lbl) (T' : J) (D : Pth → J → Prop), LOut w w' A A' (p0 ++ s) → RL w' A' (p0 ++ s) T' (.iface 79 (.map (some m))) → TreeOf (fun q x => Ec q x ∨ D q x) T' → (∃ q x, Ec q x ∨ D q x) →
    ∃ T, RL w' A' p0 T (.iface 79 (.map (some root))) ∧ TreeOf (fun q x => E0 q x ∨ ∃ r, q = s ++ r ∧ D r x) T
theorem Zip.refl (w : World) (A : Lbl) (p0 : Pth) (m : Nat) (E : Pth → J → Prop) : Zip w A p0 [] m m E E := fun w' A' T' D h1 h2 h3 _ => by
  rw [List.append_nil] at h1 h2
  exact ⟨T', h2, h3.congr fun q x => by simp⟩

theorem app_ne {p : Pth} {k : ByteArray} : ¬ ∃ r', p = (p ++ [k]) ++ r' := by
  rintro ⟨r', e⟩
  have := congrArg List.length e
  simp at this
theorem app_ne2 {p r : Pth} {k k' : ByteArray} (h : k' ≠ k) : ¬ ∃ r', p ++ [k'] ++ r = (p ++ [k]) ++ r' := by
  rintro ⟨r', e⟩
  simp only [List.append_assoc, List.append_cancel_left_eq, List.singleton_append, List.cons.injEq] at e
  exact h e.1

theorem Zip.down {w : World} {A : Lbl} {p0 s : Pth} {m root m' : Nat} {Ec E0 : Pth → J → Prop} {ks : List ByteArray} {l : List J} {k : ByteArray} {i : Nat} {es : Array MapEntry} (hz : Zip w A p0 s m root Ec E0)
    (hA : A m = some (p0 ++ s)) (hm : w.heap[m]? = some (.map es es.size)) (hr : RLs w A (p0 ++ s) es.toList 0 ks l) (ht : TreeOf Ec (.obj ks l)) (hi : ks[i]? = some k) (he : ∃ e, es[i]? = some e ∧ e.val = .iface 79 (.map (some m'))) :
    Zip w A p0 (s ++ [k]) m' root (fun r x => Ec (k :: r) x) E0 := by
  intro w' A' T' D h1 h2 h3 h4
  rw [← List.append_assoc] at h1 h2
  obtain ⟨n1, n2, n3, n4, n5⟩ := ht.obj_inv
  have hlen := RLs.len hr
  have hT1 : RL w' A' (p0 ++ s) (.obj ks (l.set i T')) (.iface 79 (.map (some m))) := by
    unfold RL
    refine ⟨m, es, rfl, h1.lbl m _ hA, (h1.blk m _ hA app_ne).trans hm, RLs_of (by rw [List.length_set]; exact hlen.2) (by rw [List.length_set]; exact hlen.1) fun q hq => ?_⟩
    rw [List.length_set] at hq
    obtain ⟨e, k', a, b, c, d, f⟩ := RLs.get hr q hq
    refine ⟨e, k', a, b, c, d, ?_⟩
    rw [List.getElem_set]
    split
    · next hiq =>
      subst hiq
      rw [hi] at b
      cases b
      obtain ⟨e', a', ev⟩ := he
      have : e' = e := by
        have a2 : es[i]? = some e := by rw [← Array.getElem?_toList]; exact a
        rw [a'] at a2
        exact Option.some.inj a2
      subst this
      rw [ev]
      exact h2
    · next hiq =>
      have hkk : k' ≠ k := fun e => by
        subst e
        have := (List.getElem?_inj (List.getElem?_eq_some_iff.1 hi).1 n1).1 (hi.trans b.symm)
        exact hiq this
      exact RL.keep _ ⟨h1.lbl, fun b r hb => h1.blk b _ hb (app_ne2 hkk)⟩ f
  obtain ⟨T, g1, g2⟩ := hz w' A' _ (fun q x => ∃ r, q = k :: r ∧ D r x) h1.up hT1 (tree_set ht hi h3) (by
    obtain ⟨q, x, h⟩ := h4
    rcases h with h | h
    · exact ⟨_, x, Or.inl h⟩
    · exact ⟨_, x, Or.inr ⟨q, rfl, h⟩⟩)
  refine ⟨T, g1, g2.congr fun q x => ?_⟩
  constructor
  · rintro (h | ⟨r, rfl, r', rfl, h⟩)
    · exact Or.inl h
    · exact Or.inr ⟨r', by simp, h⟩
  · rintro (h | ⟨r, rfl, h⟩)
    · exact Or.inl h
    · exact Or.inr ⟨k :: r, by simp, r, rfl, h⟩

/-- a key more in a map of the Filter -/
theorem RLs.snoc {w w1 : World} {A A1 : Lbl} {p : Pth} {es : List MapEntry} {ks : List ByteArray} {l : List J} {k : ByteArray} {v : Value} {T : J} (h : RLs w A p es 0 ks l) (hk : ∀ k', k' ∈ ks → LKeep w w1 A A1 (p ++ [k'])) (hT : RL w1 A1 (p ++ [k]) T v) :
    RLs w1 A1 p (es ++ [⟨.string k, v, es.length⟩]) 0 (ks ++ [k]) (l ++ [T]) := by
  have hlen := RLs.len h
  refine RLs_of (by simp [hlen.2]) (by simp [hlen.1]) fun q hq => ?_
  rw [List.length_append, List.length_singleton] at hq
  by_cases hql : q < l.length
  · obtain ⟨e, k', a, b, c, d, f⟩ := RLs.get h q hql
    refine ⟨e, k', by rw [List.getElem?_append_left (by omega)]; exact a, by rw [List.getElem?_append_left (by omega)]; exact b, c, d, ?_⟩
    rw [List.getElem_append_left hql]
    exact RL.keep _ (hk k' (List.mem_of_getElem? b)) f
  · have : q = l.length := by omega
    subst this
    refine ⟨⟨.string k, v, es.length⟩, k, by rw [← hlen.1, List.getElem?_append_right (Nat.le_refl _)]; simp, by rw [← hlen.2, List.getElem?_append_right (Nat.le_refl _)]; simp, rfl, by simp [hlen.1], ?_⟩
    rw [List.getElem_append_right (Nat.le_refl _)]
    simpa using hT

theorem Zip.make {w w1 : World} {A : Lbl} {p0 s : Pth} {m root m' : Nat} {Ec E0 : Pth → J → Prop} {ks : List ByteArray} {l : List J} {k : ByteArray} {es : Array MapEntry} (hz : Zip w A p0 s m root Ec E0)
    (hA : A m = some (p0 ++ s)) (hr : RLs w A (p0 ++ s) es.toList 0 ks l) (ht : TreeOf Ec (.obj ks l)) (hk : k ∉ ks) (hfr : A m' = none)
    (hm1 : w1.heap[m]? = some (.map (es.push ⟨.string k, .iface 79 (.map (some m')), es.size⟩) (es.size + 1))) (hst : ∀ b q, A b = some q → b ≠ m → w1.heap[b]? = w.heap[b]?) :
    Zip w1 (fun b => if b = m' then some (p0 ++ s ++ [k]) else A b) p0 (s ++ [k]) m' root (fun r x => Ec (k :: r) x) E0 := by
  intro w' A' T' D h1 h2 h3 h4
  rw [← List.append_assoc] at h1 h2
  obtain ⟨n1, n2, n3, n4, n5⟩ := ht.obj_inv
  have hnoE : ∀ r x, ¬ Ec (k :: r) x := fun r x h => by
    obtain ⟨k', r', e, hk'⟩ := n3 _ _ h
    simp only [List.cons.injEq] at e
    exact hk (by rw [e.1]; exact hk')
  have hA1 : ∀ b q, A b = some q → (fun b => if b = m' then some (p0 ++ s ++ [k]) else A b) b = some q := fun b q hb => by
    have : b ≠ m' := fun e => by subst e; rw [hfr] at hb; cases hb
    simp only [this, if_false]
    exact hb
  have hmm : m ≠ m' := fun e => by rw [← e, hA] at hfr; cases hfr
  have hT1 : RL w' A' (p0 ++ s) (.obj (ks ++ [k]) (l ++ [T'])) (.iface 79 (.map (some m))) := by
    unfold RL
    refine ⟨m, es.push ⟨.string k, .iface 79 (.map (some m')), es.size⟩, rfl, h1.lbl m _ (hA1 m _ hA), ?_, ?_⟩
    · rw [Array.size_push]
      exact (h1.blk m _ (hA1 m _ hA) app_ne).trans hm1
    · rw [Array.toList_push]
      refine RLs.snoc hr (fun k' hk' => ?_) h2
      have hkk : k' ≠ k := fun e => hk (by rw [← e]; exact hk')
      refine ⟨fun b q hb => h1.lbl b q (hA1 b q hb), fun b r hb => ?_⟩
      have hbm : b ≠ m := fun e => by
        subst e
        rw [hA] at hb
        have := congrArg List.length (Option.some.inj hb)
        simp at this
      exact (h1.blk b _ (hA1 b _ hb) (app_ne2 hkk)).trans (hst b _ hb hbm)
  have hD : ∃ r x, D r x := by
    obtain ⟨q, x, h⟩ := h4
    rcases h with h | h
    · exact absurd h (hnoE q x)
    · exact ⟨q, x, h⟩
  have hTD : TreeOf D T' := h3.congr fun q x => ⟨fun h => h.elim (fun h => absurd h (hnoE q x)) id, Or.inr⟩
  obtain ⟨T, g1, g2⟩ := hz w' A' _ (fun q x => ∃ r, q = k :: r ∧ D r x) ⟨fun b q hb => h1.lbl b q (hA1 b q hb), fun b q hb hn => by
      have hbm : b ≠ m := fun e => by
        subst e
        rw [hA] at hb
        exact hn ⟨[], by rw [← Option.some.inj hb, List.append_nil]⟩
      exact (h1.blk b q (hA1 b q hb) fun ⟨r, e⟩ => hn ⟨k :: r, by rw [e, List.append_assoc]; rfl⟩).trans (hst b q hb hbm)⟩ hT1 (tree_snoc ht hk hTD hD) (by
    obtain ⟨q, x, h⟩ := hD
    exact ⟨_, x, Or.inr ⟨q, rfl, h⟩⟩)
  refine ⟨T, g1, g2.congr fun q x => ?_⟩
  constructor
  · rintro (h | ⟨r, rfl, r', rfl, h⟩)
    · exact Or.inl h
    · exact Or.inr ⟨r', by simp, h⟩
  · rintro (h | ⟨r, rfl, h⟩)
    · exact Or.inl h
    · exact Or.inr ⟨k :: r, by simp, r, rfl, h⟩

/-- a leaf is put: the root is a tree of one leaf more -/
theorem Zip.leaf {w w1 : World} {A : Lbl} {p0 s : Pth} {m root : Nat} {Ec E0 : Pth → J → Prop} {ks : List ByteArray} {l : List J} {k : ByteArray} {es : Array MapEntry} {c : J} {v : Value} (hz : Zip w A p0 s m root Ec E0)
    (hA : A m = some (p0 ++ s)) (hr : RLs w A (p0 ++ s) es.toList 0 ks l) (ht : TreeOf Ec (.obj ks l)) (hk : k ∉ ks) (hc : c.isLeaf = true) (hv : RL w1 A (p0 ++ s ++ [k]) c v)
    (hm1 : w1.heap[m]? = some (.map (es.push ⟨.string k, v, es.size⟩) (es.size + 1))) (hst : ∀ b q, A b = some q → b ≠ m → w1.heap[b]? = w.heap[b]?) :
    ∃ T, RL w1 A p0 T (.iface 79 (.map (some root))) ∧ TreeOf (fun q x => E0 q x ∨ (q = s ++ [k] ∧ x = c)) T := by
  have hT1 : RL w1 A (p0 ++ s) (.obj (ks ++ [k]) (l ++ [c])) (.iface 79 (.map (some m))) := by
    unfold RL
    refine ⟨m, es.push ⟨.string k, v, es.size⟩, rfl, hA, by rw [Array.size_push]; exact hm1, ?_⟩
    rw [Array.toList_push]
    refine RLs.snoc hr (fun k' hk' => ⟨fun _ _ h => h, fun b r hb => hst b _ hb fun e => ?_⟩) hv
    subst e
    rw [hA] at hb
    have := congrArg List.length (Option.some.inj hb)
    simp at this
  obtain ⟨T, g1, g2⟩ := hz w1 A _ (fun q x => ∃ r, q = k :: r ∧ (r = [] ∧ x = c)) ⟨fun _ _ h => h, fun b q hb hn => hst b q hb fun e => by
      subst e
      rw [hA] at hb
      exact hn ⟨[], by rw [← Option.some.inj hb, List.append_nil]⟩⟩ hT1 (tree_snoc ht hk (F := fun r x => r = [] ∧ x = c) (TreeOf.leaf _ _ hc fun p x => Iff.rfl) ⟨[], c, rfl, rfl⟩) ⟨[k], c, Or.inr ⟨[], rfl, rfl, rfl⟩⟩
  refine ⟨T, g1, g2.congr fun q x => ?_⟩
  constructor
  · rintro (h | ⟨r, rfl, r', rfl, rfl, rfl⟩)
    · exact Or.inl h
    · exact Or.inr ⟨rfl, rfl⟩
  · rintro (h | ⟨rfl, rfl⟩)
    · exact Or.inl h
    · exact Or.inr ⟨[k], rfl, [], rfl, rfl, rfl⟩
end Go.Proofs.Ytikpedfggbibpaa
namespace Go.Proofs.Ytikpedfggbibpaa
open Go.RowKit Go.Lib
set_option linter.unusedVariables false
set_option linter.unusedSimpArgs false

/-- the leaves of a datum, each at its path: the parts of its keys, one key behind the other -/
inductive LV : J → Pth → J → Prop
  | leaf (c : J) : c.isLeaf = true → LV c [] c
  | obj (ks : List ByteArray) (l : List J) (i : Nat) (k : ByteArray) (y : J) (r : Pth) (x : J) : ks[i]? = some k → l[i]? = some y → LV y r x → LV (.obj ks l) (kcut k ++ r) x
theorem LV.leaf_iff {c : J} (hc : c.isLeaf = true) (q : Pth) (x : J) : LV c q x ↔ q = [] ∧ x = c := by
  constructor
  · intro h
    cases h with
    | leaf _ _ => exact ⟨rfl, rfl⟩
    | obj ks l i k y r x _ _ _ => cases hc
  · rintro ⟨rfl, rfl⟩
    exact LV.leaf _ hc
theorem LV.obj_iff {ks : List ByteArray} {l : List J} (q : Pth) (x : J) : LV (.obj ks l) q x ↔ ∃ (i : Nat) (k : ByteArray) (y : J) (r : Pth), ks[i]? = some k ∧ l[i]? = some y ∧ q = kcut k ++ r ∧ LV y r x := by
  constructor
  · intro h
    cases h with
    | leaf _ h => cases h
    | obj _ _ i k y r _ h1 h2 h3 => exact ⟨i, k, y, r, h1, h2, rfl, h3⟩
  · rintro ⟨i, k, y, r, h1, h2, rfl, h3⟩
    exact LV.obj ks l i k y r x h1 h2 h3

/-- a filter as it should be: keys once each, no empty object, the leaves of different keys apart -/
inductive GoodF : J → Prop
  | leaf (c : J) : c.isLeaf = true → GoodF c
  | obj (ks : List ByteArray) (l : List J) : ks.Nodup → ks.length = l.length → ks ≠ [] → (∀ (i : Nat) (y : J), l[i]? = some y → GoodF y) →
      (∀ (i j : Nat) (k k' : ByteArray) (y y' : J), i ≠ j → ks[i]? = some k → ks[j]? = some k' → l[i]? = some y → l[j]? = some y' → ∀ r x r' x', LV y r x → LV y' r' x' → Apart (kcut k ++ r) (kcut k' ++ r')) → GoodF (.obj ks l)
theorem GoodF.obj_inv {ks : List ByteArray} {l : List J} (h : GoodF (.obj ks l)) : ks.Nodup ∧ ks.length = l.length ∧ ks ≠ [] ∧ (∀ (i : Nat) (y : J), l[i]? = some y → GoodF y) ∧
      (∀ (i j : Nat) (k k' : ByteArray) (y y' : J), i ≠ j → ks[i]? = some k → ks[j]? = some k' → l[i]? = some y → l[j]? = some y' → ∀ r x r' x', LV y r x → LV y' r' x' → Apart (kcut k ++ r) (kcut k' ++ r')) := by
  cases h with
  | leaf _ h => cases h
  | obj _ _ h1 h2 h3 h4 h5 => exact ⟨h1, h2, h3, h4, h5⟩
theorem GoodF.one {f : J} (h : GoodF f) : ∃ q x, LV f q x := by
  induction h with
  | leaf c hc => exact ⟨[], c, LV.leaf c hc⟩
  | obj ks l h1 h2 h3 h4 h5 ih =>
    have hk : 0 < ks.length := List.length_pos_iff.2 h3
    have hl : 0 < l.length := by omega
    obtain ⟨q, x, hx⟩ := ih 0 l[0] (List.getElem?_eq_getElem hl)
    exact ⟨_, x, LV.obj ks l 0 ks[0] l[0] q x (List.getElem?_eq_getElem hk) (List.getElem?_eq_getElem hl) hx⟩
theorem Apart.app {p q r : Pth} : Apart (p ++ q) (p ++ r) ↔ Apart q r := by
  induction p with
  | nil => exact Iff.rfl
  | cons k p ih => rw [List.cons_append, List.cons_append, Apart.cons, ih]
/-- two leaves of a good filter lie apart, or are one -/
theorem GoodF.apart {f : J} (h : GoodF f) : ∀ q x q' x', LV f q x → LV f q' x' → q = q' ∧ x = x' ∨ Apart q q' := by
  induction h with
  | leaf c hc =>
    intro q x q' x' h1 h2
    obtain ⟨rfl, rfl⟩ := (LV.leaf_iff hc q x).1 h1
    obtain ⟨rfl, rfl⟩ := (LV.leaf_iff hc q' x').1 h2
    exact Or.inl ⟨rfl, rfl⟩
  | obj ks l h1 h2 h3 h4 h5 ih =>
    intro q x q' x' g1 g2
    obtain ⟨i, k, y, r, a1, a2, rfl, a3⟩ := (LV.obj_iff q x).1 g1
    obtain ⟨j, k', y', r', b1, b2, rfl, b3⟩ := (LV.obj_iff q' x').1 g2
    by_cases hij : i = j
    · subst hij
      rw [a1] at b1
      cases b1
      rw [a2] at b2
      cases b2
      rcases ih i y a2 r x r' x' a3 b3 with ⟨rfl, rfl⟩ | h
      · exact Or.inl ⟨rfl, rfl⟩
      · exact Or.inr (Apart.app.2 h)
    · exact Or.inr (h5 i j k k' y y' hij a1 b1 a2 b2 r x r' x' a3 b3)
end Go.Proofs.Ytikpedfggbibpaa
namespace Go.Proofs.Ytikpedfggbibpaa
open Go.RowKit Go.Lib
set_option linter.unusedVariables false
set_option linter.unusedSimpArgs false

theorem lookup_RL (w : World) (A : Lbl) (p : Pth) (m : Nat) (es : Array MapEntry) (ks : List ByteArray) (l : List J) (hm : w.heap[m]? = some (.map es es.size)) (h : RLs w A p es.toList 0 ks l) (hn : ks.Nodup) (k : ByteArray) :
    (∃ (i : Nat) (e : MapEntry) (y : J), ks[i]? = some k ∧ es[i]? = some e ∧ l[i]? = some y ∧ (Instr.lookup 79 (.map (some m)) (.string k) false).run Try.prog w = .ok e.val w ∧ RL w A (p ++ [k]) y e.val) ∨
    (k ∉ ks ∧ (Instr.lookup 79 (.map (some m)) (.string k) false).run Try.prog w = .ok .nilIface w) := by
  have hlen := RLs.len h
  have hkeyAt : ∀ {j : Nat} {e : MapEntry}, es.toList[j]? = some e → ∃ k, ks[j]? = some k ∧ e.key = .string k := fun {j e} he => by
    have hj : j < l.length := by have := (List.getElem?_eq_some_iff.1 he).1; omega
    obtain ⟨e', k, a, b, c, _⟩ := RLs.get h j hj
    rw [he] at a
    cases a
    exact ⟨k, b, c⟩
  by_cases hk : k ∈ ks
  · obtain ⟨q, hq, hqk⟩ := List.getElem_of_mem hk
    have hq? : ks[q]? = some k := by rw [List.getElem?_eq_getElem hq, hqk]
    have hql : q < l.length := by omega
    obtain ⟨e, k', a, b, c, d, f⟩ := RLs.get h q hql
    rw [hq?] at b
    cases b
    refine Or.inl ⟨q, e, l[q], hq?, by rw [← Array.getElem?_toList]; exact a, List.getElem?_eq_getElem hql, run_lookup_hit w _ _ _ Try.underlying79 Try.underlying9 m es es.size hm k q e a c ?_, f⟩
    intro j e' hj he'
    obtain ⟨k2, hk2, hk3⟩ := hkeyAt he'
    refine ⟨k2, hk3, fun e => ?_⟩
    subst e
    have hq2 := (List.getElem?_eq_some_iff.1 hk2).1
    have := (List.getElem?_inj hq2 hn).1 (hk2.trans hq?.symm)
    omega
  · refine Or.inr ⟨hk, run_lookup_miss w _ _ _ Try.underlying79 Try.underlying9 m es es.size hm k _ (Try.zeroAny w) ?_⟩
    intro e he
    obtain ⟨j, hj⟩ := List.mem_iff_getElem?.1 he
    obtain ⟨k2, hk2, hk3⟩ := hkeyAt hj
    exact ⟨k2, hk3, fun e => hk (by subst e; exact List.mem_of_getElem? hk2)⟩

theorem put_RL (w : World) (A : Lbl) (p : Pth) (m : Nat) (es : Array MapEntry) (ks : List ByteArray) (l : List J) (hm : w.heap[m]? = some (.map es es.size)) (h : RLs w A p es.toList 0 ks l) (k : ByteArray) (hk : k ∉ ks) (v : Value) :
    (Instr.mapUpdate 79 (.map (some m)) (.string k) v).run Try.prog w = .ok () (setMap w m (es.push ⟨.string k, v, es.size⟩) (es.size + 1)) := by
  refine run_mapUpdate_new w 79 _ _ Try.underlying79 Try.underlying9 m es es.size hm k v fun e he => ?_
  have hlen := RLs.len h
  obtain ⟨j, hj⟩ := List.mem_iff_getElem?.1 he
  have hjl : j < l.length := by have := (List.getElem?_eq_some_iff.1 hj).1; omega
  obtain ⟨e', k2, a, b, c, _⟩ := RLs.get h j hjl
  rw [hj] at a
  cases a
  exact ⟨k2, c, fun e => hk (by subst e; exact List.mem_of_getElem? b)⟩
/-- labels are those of blocks that are there -/
def LOk (w : World) (A : Lbl) : Prop := ∀ b q, A b = some q → b < w.heap.size
theorem LOk.fresh {w : World} {A : Lbl} (h : LOk w A) : A w.heap.size = none := by
  cases e : A w.heap.size with
  | none => rfl
  | some q => have := h _ _ e; omega
end Go.Proofs.Ytikpedfggbibpaa
