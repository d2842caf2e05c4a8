/- Walks: slices.IndexFunc and ContainsFunc over places; sole, samePlaces, whereTold. -/
import Derived.Test.YtikpedfggbibpaaZ34
namespace Go.Proofs.Ytikpedfggbibpaa
open Go.RowKit Go.Lib
set_option linter.unusedVariables false
set_option linter.unusedSimpArgs false

/-- a row of places, and what a predicate says of each -/
def PRow (F : Nat) (lb : Array Value) (a : Option Addr) (n : Nat) (pr : Nat → Bool) (w : World) : Prop :=
  ∀ i, i < n → ∃ g u, a = some ⟨g, 0, none⟩ ∧ w.cell? ⟨g, i, none⟩ = some u ∧ ∀ w', Ext w w' → Calls Try.prog F (#[u] ++ lb) w' (Gives (.bool (pr i)) w')

set_option maxRecDepth 20000 in
set_option maxHeartbeats 1000000 in
theorem indexPath_any (F : Nat) (lb : Array Value) (eg : ∀ args w, (callFunc F args).run Try.prog w = .ok (.enter F args) w) (a : Option Addr) (n c : Nat) (pr : Nat → Bool) (w : World) (hn : n ≤ reachN) (hp : PRow F lb a n pr w) :
    Calls Try.prog 72 #[.slice a n c, .func (.func F) #[] lb] w (IdxPost pr n w) := by
  unfold reachN at hn
  have HP := Lib.hid hp
  clear hp
  go_enter Try.func72, Try.ntmps72
  go_wp2
  go_loopw [8] (fun i wr => ∃ m : Nat, m ≤ n ∧ i = .int .i64 m ∧ (∀ q, q < m → pr q = false) ∧ Ext w wr) (fun i _ => n - (intOf i).toNat)
  case atStart => exact ⟨0, Nat.zero_le _, rfl, fun q h => by omega, Ext.refl _⟩
  case round =>
    obtain ⟨m, hm, rfl, hall, hb⟩ := hrel
    have HA := Lib.hid hall
    have HB := Lib.hid hb
    clear hall hb
    by_cases hltm : m < n
    · obtain ⟨g, u, rfl, hc, hcall⟩ := HP.out m hltm
      have hcell := HB.out.keep _ _ hc
      have HC := Lib.hid (hcall wr HB.out)
      clear hc hcall
      generalize hpm : pr m = b at HC
      have HPM := Lib.hid hpm
      clear hpm
      go_wp2_with (go_at_fn F; refine (HC.out).mono ?_; rintro e w2 ⟨rfl, hb2⟩; have HB2 := Lib.hid hb2; clear hb2 HC; cases b)
      · go_roundw
        case rel => exact ⟨m + 1, by omega, by go_num, fun q hq => by
          by_cases hqm : q = m
          · subst hqm; exact HPM.out
          · exact HA.out q (by omega), HB.out.trans HB2.out⟩
        case measure => simp [intOf]; omega
      · go_ret
        exact ⟨m, rfl, Or.inr ⟨m, hltm, rfl, HPM.out⟩, HB.out.trans HB2.out⟩
    · have HX : Hid (∀ q, q < n → pr q = false) := fun q hq => HA.out q (by omega)
      clear HP HA
      go_wp2
      go_ret
      exact ⟨-1, rfl, Or.inl ⟨rfl, HX.out⟩, HB.out⟩

theorem containsPath_any (F : Nat) (lb : Array Value) (eg : ∀ args w, (callFunc F args).run Try.prog w = .ok (.enter F args) w) (a : Option Addr) (n c : Nat) (pr : Nat → Bool) (w : World) (hn : n ≤ reachN) (hp : PRow F lb a n pr w) :
    Calls Try.prog 29 #[.slice a n c, .func (.func F) #[] lb] w (AnyPost pr n w) := by
  have HC := Lib.hid (indexPath_any F lb eg a n c pr w hn hp)
  clear hp eg
  unfold reachN at hn
  go_enter Try.func29, Try.ntmps29
  go_wp2_with (go_at_call 72; refine (HC.out).mono ?_; rintro e w2 ⟨i, rfl, hi, hb2⟩; have HB2 := Lib.hid hb2; have HI := Lib.hid hi; clear hb2 HC hi)
  go_ret
  refine ⟨_, rfl, ?_, HB2.out⟩
  rcases HI.out with ⟨rfl, h⟩ | ⟨q, hq, rfl, h⟩
  · constructor
    · intro h1
      simp at h1
    · rintro ⟨q, hq, h1⟩
      rw [h q hq] at h1
      cases h1
  · constructor
    · intro _
      exact ⟨q, hq, h⟩
    · intro _
      simp

theorem PLs.cap {Q : World → Value → List Step → Prop} {w : World} {base c : Nat} {a : Option Addr} {ps : List (List Step)} (h : PLs Q w base (.slice a ps.length c) ps) : ps.length ≤ c := by
  obtain ⟨vs, h1, h2, h3⟩ := h
  rcases h3.2 with ⟨e, h0⟩ | ⟨g, cap, cur, e, hb, hh, hc, rest⟩
  · omega
  · simp only [Value.slice.injEq, true_and] at e
    obtain ⟨_, rfl⟩ := e
    exact hc
/-- the number in the cell that a pointer leads to -/
def cellNat (w : World) (t : Value) : Nat := match t with
  | .pointer (some a) => match w.cell? a with
    | some (.int _ k) => k.toNat
    | _ => 0
  | _ => 0
theorem cellNat_of {w : World} {b : Nat} {k : Int} (h : w.heap[b]? = some (.cells #[.int .i64 k] 3 (0, 0))) : cellNat w (.pointer (some ⟨b, 0, none⟩)) = k.toNat := by
  have : w.cell? ⟨b, 0, none⟩ = some (.int .i64 k) := (cell_of_row _ _ _ _ _ _ h).trans rfl
  simp [cellNat, this]

theorem whereTold_any (p : List Step) (v : Value) (w : World) (h : GP w v p) (hp : p.length ≤ 1000000) : Calls Try.prog 22 #[v] w fun e w' => ∃ u, e = .returned u ∧ PathN w' u p ∧ Ext w w' := by
  cases p with
  | nil =>
    have h0 := h.1 rfl
    rcases h0.2 with ⟨_, hh⟩ | ⟨g, cap, cur, rfl, hb, hh, hc, rest⟩
    · cases hh
    · have hc0 := h0.cells (g := g) rfl 0 (.int .i64 5) rfl
      rw [Addr.add_lit] at hc0
      simp only [Nat.add_zero] at hc0
      clear h h0 hh hb hc rest
      go_enter Try.func22, Try.ntmps22
      go_wp2
      go_ret
      exact ⟨_, rfl, ⟨(gath_nil _ 0).path, fun _ => rfl⟩, .refl _⟩
  | cons st p =>
    have h0 := h.2 (by simp)
    obtain ⟨b, cap, f, rfl, F, O, _⟩ := h0.frag 0 (by simp)
    have f0 := F.h0
    have hk : f.k = 3 ∨ f.k = 4 := by
      cases st with
      | child s => exact Or.inl O.1
      | nth n => exact Or.inr O.1
    have HP : Hid (PathN w (.slice (some ⟨b, 0, none⟩) (st :: p).length cap) (st :: p)) := ⟨h0, fun e => by cases e⟩
    simp only [Nat.zero_mul] at f0
    obtain ⟨kk, tt, aa, ll, cc⟩ := f
    simp only at f0 hk
    simp only [List.length_cons] at hp
    simp only [List.length_cons] at HP ⊢
    clear h h0 F O
    rcases p with _ | ⟨st2, p⟩
    · simp only [List.length_nil, Nat.zero_add] at HP ⊢
      rcases hk with rfl | rfl
      all_goals
        go_enter Try.func22, Try.ntmps22
        go_wp2
        go_ret
        exact ⟨_, rfl, HP.out, .refl _⟩
    · simp only [List.length_cons] at HP hp ⊢
      have hn1 : ((p.length : Int) + 1 + 1 == 1) = false := by simp; omega
      go_enter Try.func22, Try.ntmps22
      go_wp2
      go_ret
      exact ⟨_, rfl, HP.out, .refl _⟩

theorem Try.enters_sole (args : Array Value) (w : World) : (callFunc 93 args).run Try.prog w = .ok (.enter 93 args) w := enters_of Try.func93 (by kernel_rfl) rfl args w
theorem sole_fn (p q : List Step) (hp : p.length ≤ 1000000) (hq : q.length ≤ 1000000) (vp vq : Value) (bl bk g k n c : Nat) (hk : k < n) (hn : n ≤ 1000000) (w : World) (h1 : w.cell? ⟨bl, 0, none⟩ = some (.slice (some ⟨g, 0, none⟩) n c)) (h2 : w.cell? ⟨bk, 0, none⟩ = some (.int .i64 (k : Int))) (h3 : w.cell? ⟨g, k, none⟩ = some vq) (h4 : PathAt w vp p) (h5 : PathAt w vq q) :
    Calls Try.prog 93 #[vp, .pointer (some ⟨bl, 0, none⟩), .pointer (some ⟨bk, 0, none⟩)] w (Gives (.bool (pathB p q)) w) := by
  have HS := Lib.hid (samePlace_any p q hp hq vp vq w h4 h5)
  clear h4 h5 hp hq
  go_enter Try.func93, Try.ntmps93
  go_wp2_with (go_at_call 60; refine (HS.out).mono ?_; rintro e w1 ⟨rfl, hx⟩; have HX := Lib.hid hx; clear hx HS)
  go_ret
  exact .mk rfl HX.out

theorem Try.enters_samePlaces (args : Array Value) (w : World) : (callFunc 67 args).run Try.prog w = .ok (.enter 67 args) w := enters_of Try.func67 (by kernel_rfl) rfl args w
theorem samePlaces_fn (p q : List Step) (hp : p.length ≤ 1000000) (hq : q.length ≤ 1000000) (vp vq : Value) (bl bk g k n c : Nat) (hk : k < n) (hn : n ≤ 1000000) (w : World) (h1 : w.cell? ⟨bl, 0, none⟩ = some (.slice (some ⟨g, 0, none⟩) n c)) (h2 : w.cell? ⟨bk, 0, none⟩ = some (.int .i64 (k : Int))) (h3 : w.cell? ⟨g, k, none⟩ = some vq) (h4 : PathAt w vp p) (h5 : PathAt w vq q) :
    Calls Try.prog 67 #[vp, .pointer (some ⟨bl, 0, none⟩), .pointer (some ⟨bk, 0, none⟩)] w (Gives (.bool (pathB p q)) w) := by
  have HS := Lib.hid (samePlace_any p q hp hq vp vq w h4 h5)
  clear h4 h5 hp hq
  go_enter Try.func67, Try.ntmps67
  go_wp2_with (go_at_call 60; refine (HS.out).mono ?_; rintro e w1 ⟨rfl, hx⟩; have HX := Lib.hid hx; clear hx HS)
  go_ret
  exact .mk rfl HX.out

set_option maxRecDepth 20000 in
set_option maxHeartbeats 2000000 in
theorem sole_any (ps : List (List Step)) (hn : ps.Nodup) (hl : ps.length ≤ 100000) (hpl : ∀ p ∈ ps, p.length ≤ 1000000) (v : Value) (w : World) (base : Nat) (h : PLs PathN w base v ps) : Calls Try.prog 66 #[v] w (Gives (.bool true) w) := by
  obtain ⟨a, c, rfl, hsh⟩ := h.shape
  have hcap := h.cap
  have HSH := Lib.hid hsh
  have HN := Lib.hid hn
  have HPL := Lib.hid hpl
  clear h hsh hn hpl
  go_enter Try.func66, Try.ntmps66
  go_wp2
  go_loopw [3] (fun t wr => ∃ m bk : Nat, m ≤ ps.length ∧ t = .pointer (some ⟨bk, 0, none⟩) ∧ wr.heap[bk]? = some (.cells #[.int .i64 (m : Int)] 3 (0, 0)) ∧ w.heap.size < bk ∧ Below (w.heap.size + 1) (w.alloc (.cells #[.slice a ps.length c] 30)) wr) (fun t wr => ps.length - cellNat wr t)
  case atStart =>
    refine ⟨0, w.heap.size + 1, Nat.zero_le _, rfl, ?_, by omega, (Below.refl _ _).alloc (by simp) _⟩
    have := heap_alloc_new (w.alloc (.cells #[.slice a ps.length c] 30)) (.cells #[.int .i64 0] 3)
    rw [World.size_alloc] at this
    exact this
  case round =>
    obtain ⟨m, bk, hm, rfl, hbk, hbw, hb⟩ := hrel
    have hl0 : wr.cell? ⟨w.heap.size, 0, none⟩ = some (.slice a ps.length c) := by
      rw [hb.cell (by simp)]
      simp
    have hk0 : wr.cell? ⟨bk, 0, none⟩ = some (.int .i64 (m : Int)) := (cell_of_row _ _ _ _ _ _ hbk).trans rfl
    have EX : Hid (Ext w wr) := (Ext.refl w).trans ((Below.alloc (Below.refl _ _) (Nat.le_refl _) _).trans (hb.mono (by omega)))
    have HB := Lib.hid hb
    have HBK := Lib.hid hbk
    clear hb hbk
    by_cases hlt : m < ps.length
    · obtain ⟨g, u, rfl, hcu, pk, hpk, hqk⟩ := HSH.out m hlt
      have HC : Hid (∀ w1, Ext wr w1 → Calls Try.prog 29 #[.slice (some ⟨g, 0, none⟩) m c, .func (.func 93) #[] #[.pointer (some ⟨w.heap.size, 0, none⟩), .pointer (some ⟨bk, 0, none⟩)]] w1 (AnyPost (fun _ => false) m w1)) := fun w1 hx1 =>
        containsPath_any 93 #[.pointer (some ⟨w.heap.size, 0, none⟩), .pointer (some ⟨bk, 0, none⟩)] Try.enters_sole _ m c (fun _ => false) w1 (by unfold reachN; omega) (fun i hi => by
          obtain ⟨g', u', e', hcu', p', hp', hq'⟩ := HSH.out i (by omega)
          simp only [Option.some.injEq, Addr.mk.injEq, and_true] at e'
          subst e'
          have X1 := Ext.trans EX.out hx1
          refine ⟨g, u', rfl, X1.keep _ _ hcu', fun w2 hx2 => ?_⟩
          have X2 := Ext.trans X1 hx2
          have X3 := Ext.trans hx1 hx2
          have := sole_fn p' pk (HPL.out _ (List.mem_of_getElem? hp')) (HPL.out _ (List.mem_of_getElem? hpk)) u' u w.heap.size bk g m ps.length c hlt (by omega) w2 (X3.keep _ _ hl0) (X3.keep _ _ hk0) (X2.keep _ _ hcu) ((PathN.pq.ext X2 hq').1) ((PathN.pq.ext X2 hqk).1)
          rw [pathB_false (fun e => by
            subst e
            have h1 := (List.getElem?_inj (List.getElem?_eq_some_iff.1 hp').1 HN.out).1 (hp'.trans hpk.symm)
            omega)] at this
          exact this)
      have hmi : (m : Int) ≤ (c : Int) := by omega
      have hmi0 : (0 : Int) ≤ (m : Int) := by omega
      clear hcu hpk hqk
      go_wp2_with (go_at_call 29; refine (HC.out _ (Ext.refl _)).mono ?_; rintro e w1 ⟨r, rfl, hr, hx1⟩; have hrf := never hr; subst hrf; have HX1 := Lib.hid hx1; have hk1 := HX1.out.keep _ _ hk0; have hl1 := HX1.out.keep _ _ hl0; clear hr hx1 HC hk0 hl0)
      go_roundw
      case rel => exact ⟨m + 1, w1.heap.size, by omega, rfl, by have := heap_alloc_new w1 (.cells #[.int .i64 ((m : Int) + 1)] 3); exact this, by have := HX1.out.size; have := (Array.getElem?_eq_some_iff.1 HBK.out).1; omega, (HB.out.trans (HX1.out.mono (by have := HB.out.size; simp at this; omega))).alloc (by have := HB.out.size; have := HX1.out.size; simp at *; omega) _⟩
      case measure =>
        rw [cellNat_of HBK.out, cellNat_of (heap_alloc_new w1 (.cells #[.int .i64 ((m : Int) + 1)] 3))]
        omega
    · clear HSH
      go_wp2
      go_ret
      exact .mk rfl EX.out

set_option maxRecDepth 20000 in
set_option maxHeartbeats 4000000 in
theorem samePlaces_any (ps qs : List (List Step)) (hn : ps.Nodup) (hlen : ps.length = qs.length) (hsub : ∀ p ∈ ps, p ∈ qs) (hl : ps.length ≤ 100000) (hpl : ∀ p ∈ ps, p.length ≤ 1000000) (hql : ∀ p ∈ qs, p.length ≤ 1000000) (va vb : Value) (w : World) (ba bb : Nat) (ha : PLs PathN w ba va ps) (hb : PLs PathN w bb vb qs) :
    Calls Try.prog 23 #[va, vb] w (Gives (.bool true) w) := by
  have HSO : Hid (∀ w1, Ext w w1 → Calls Try.prog 66 #[va] w1 (Gives (.bool true) w1)) := fun w1 hx => sole_any ps hn hl hpl va w1 ba (ha.ext PathN.pq hx)
  obtain ⟨a, c, rfl, hsh⟩ := ha.shape
  obtain ⟨a2, c2, rfl, hsh2⟩ := hb.shape
  have HSH := Lib.hid hsh
  have HSH2 := Lib.hid hsh2
  have HPL := Lib.hid hpl
  have HQL := Lib.hid hql
  have HSUB := Lib.hid hsub
  have hlI : ((ps.length : Int) != (qs.length : Int)) = false := by simp [hlen]
  have HLEN := Lib.hid hlen
  clear ha hb hsh hsh2 hn hpl hql hsub hlen
  go_enter Try.func23, Try.ntmps23
  have hbx : (w.alloc (.cells #[.slice a ps.length c] 30)).cell? ⟨w.heap.size, 0, none⟩ = some (.slice a ps.length c) := by simp
  go_wp2_with (go_at_call 66; refine (HSO.out _ ((Ext.refl w).alloc _)).mono ?_; rintro e w1 ⟨rfl, hx1⟩; have hx1c : Below (w.heap.size + 1) (w.alloc (.cells #[.slice a ps.length c] 30)) w1 := hx1.mono (by simp); have HX1 := Lib.hid hx1c; have hb1 := hx1.keep _ _ hbx; clear hx1 hx1c HSO hbx)
  go_loopw [5] (fun t wr => ∃ m bk : Nat, m ≤ ps.length ∧ t = .pointer (some ⟨bk, 0, none⟩) ∧ wr.heap[bk]? = some (.cells #[.int .i64 (m : Int)] 3 (0, 0)) ∧ w.heap.size < bk ∧ Below (w.heap.size + 1) (w.alloc (.cells #[.slice a ps.length c] 30)) wr) (fun t wr => ps.length - cellNat wr t)
  case atStart =>
    exact ⟨0, w1.heap.size, Nat.zero_le _, rfl, heap_alloc_new w1 _, by have := HX1.out.size; simp at this; omega, HX1.out.alloc (by have := HX1.out.size; simpa using this) _⟩
  case round =>
    clear hb1
    obtain ⟨m, bk, hm, rfl, hbk, hbw, hb⟩ := hrel
    have hl0 : wr.cell? ⟨w.heap.size, 0, none⟩ = some (.slice a ps.length c) := by
      rw [hb.cell (by simp)]
      simp
    have hk0 : wr.cell? ⟨bk, 0, none⟩ = some (.int .i64 (m : Int)) := (cell_of_row _ _ _ _ _ _ hbk).trans rfl
    have EX : Hid (Ext w wr) := (Ext.refl w).trans ((Below.alloc (Below.refl _ _) (Nat.le_refl _) _).trans (hb.mono (by omega)))
    have HB := Lib.hid hb
    have HBK := Lib.hid hbk
    clear hb hbk
    by_cases hlt : m < ps.length
    · obtain ⟨g, u, rfl, hcu, pk, hpk, hqk⟩ := HSH.out m hlt
      obtain ⟨q0, hq0, hq1⟩ : ∃ q0, q0 < qs.length ∧ pathB (qs.getD q0 []) pk = true := by
        obtain ⟨q0, hq0, he⟩ := List.getElem_of_mem (HSUB.out pk (List.mem_of_getElem? hpk))
        exact ⟨q0, hq0, by rw [List.getD, List.getElem?_eq_getElem hq0, Option.getD_some, he]; exact pathB_iff.2 rfl⟩
      have HQ0 := Lib.hid (And.intro hq0 hq1)
      clear hq0 hq1
      have HC : Hid (∀ w1, Ext wr w1 → Calls Try.prog 29 #[.slice a2 qs.length c2, .func (.func 67) #[] #[.pointer (some ⟨w.heap.size, 0, none⟩), .pointer (some ⟨bk, 0, none⟩)]] w1 (AnyPost (fun i => pathB (qs.getD i []) pk) qs.length w1)) := fun w1 hx1 =>
        containsPath_any 67 #[.pointer (some ⟨w.heap.size, 0, none⟩), .pointer (some ⟨bk, 0, none⟩)] Try.enters_samePlaces _ qs.length c2 _ w1 (by unfold reachN; have := HLEN.out; omega) (fun i hi => by
          obtain ⟨g', u', e', hcu', p', hp', hq'⟩ := HSH2.out i hi
          have X1 := Ext.trans EX.out hx1
          refine ⟨g', u', e', X1.keep _ _ hcu', fun w2 hx2 => ?_⟩
          have X2 := Ext.trans X1 hx2
          have X3 := Ext.trans hx1 hx2
          have := samePlaces_fn p' pk (HQL.out _ (List.mem_of_getElem? hp')) (HPL.out _ (List.mem_of_getElem? hpk)) u' u w.heap.size bk g m ps.length c hlt (by omega) w2 (X3.keep _ _ hl0) (X3.keep _ _ hk0) (X2.keep _ _ hcu) ((PathN.pq.ext X2 hq').1) ((PathN.pq.ext X2 hqk).1)
          rw [List.getD, hp', Option.getD_some]
          exact this)
      clear hcu hpk hqk
      go_wp2_with (go_at_call 29; refine (HC.out _ (Ext.refl _)).mono ?_; rintro e w1 ⟨r, rfl, hr, hx1⟩; have hrf : r = true := hr.2 ⟨q0, HQ0.out⟩; subst hrf; have HX1 := Lib.hid hx1; have hk1 := HX1.out.keep _ _ hk0; have hl1 := HX1.out.keep _ _ hl0; clear hr hx1 HC hk0 hl0)
      go_roundw
      case rel => exact ⟨m + 1, w1.heap.size, by omega, rfl, by have := heap_alloc_new w1 (.cells #[.int .i64 ((m : Int) + 1)] 3); exact this, by have := HX1.out.size; have := (Array.getElem?_eq_some_iff.1 HBK.out).1; omega, (HB.out.trans (HX1.out.mono (by have := HB.out.size; simp at this; omega))).alloc (by have := HB.out.size; have := HX1.out.size; simp at *; omega) _⟩
      case measure =>
        rw [cellNat_of HBK.out, cellNat_of (heap_alloc_new w1 (.cells #[.int .i64 ((m : Int) + 1)] 3))]
        omega
    · clear HSH HSH2
      go_wp2
      go_ret
      exact .mk rfl EX.out
end Go.Proofs.Ytikpedfggbibpaa
