/- Walks: sameStep, samePlace. Walks: samePlace. -/
import Derived.Test.YtikpedfggbibpaaZ33
import Derived.BigQuiet
import Derived.Deep.QuietTactic
namespace Go.Proofs.Ytikpedfggbibpaa
open Go.RowKit Go.Lib
set_option linter.unusedVariables false
set_option linter.unusedSimpArgs false

def pathB : List Step → List Step → Bool
  | [], [] => true
  | a :: p, b :: q => a.eqb b && pathB p q
  | _, _ => false
theorem pathB_iff : ∀ {p q : List Step}, pathB p q = true ↔ p = q
  | [], [] => by simp [pathB]
  | [], b :: q => by simp [pathB]
  | a :: p, [] => by simp [pathB]
  | a :: p, b :: q => by
    rw [pathB, Bool.and_eq_true, Step.eqb_iff, pathB_iff]
    simp
theorem pathB_false {p q : List Step} (h : p ≠ q) : pathB p q = false := by
  rw [Bool.eq_false_iff]
  exact fun e => h (pathB_iff.1 e)

set_option maxRecDepth 20000 in
set_option maxHeartbeats 1000000 in
/-- slices.Equal of numbers, one each -/
theorem equal_one (b1 b2 c1 c2 : Nat) (n1 n2 : Int) (w : World) (h1 : w.cell? ⟨b1, 0, none⟩ = some (.int .i64 n1)) (h2 : w.cell? ⟨b2, 0, none⟩ = some (.int .i64 n2)) :
    Calls Try.prog 95 #[.slice (some ⟨b1, 0, none⟩) 1 c1, .slice (some ⟨b2, 0, none⟩) 1 c2] w (Gives (.bool (decide (n1 = n2))) w) := by
  by_cases hn : n1 = n2
  · subst hn
    go_enter Try.func95, Try.ntmps95
    go_wp2
    refine wp_loop_rounds 2 ?_
    rw [rounds_succ]
    go_wp2
    go_quiet (fail)
    go_wp2
    rw [rounds_succ]
    go_wp2
    go_ret
    exact .mk (by simp) ((Ext.refl _).drewN _)
  · have hne : (n1 == n2) = false := by simp [hn]
    have HN : Hid (¬ n1 = n2) := hn
    go_enter Try.func95, Try.ntmps95
    go_wp2
    refine wp_loop_rounds 2 ?_
    rw [rounds_succ]
    go_wp2
    go_quiet (fail)
    go_wp2
    go_ret
    exact .mk (by simp [HN.out]) ((Ext.refl _).drewN _)

/-- a fragment's value -/
def Fr.agg (f : Fr) : Value := .agg #[.int .i64 f.k, .string f.s, .slice f.a f.l f.c, .slice none 0 0, .int .i64 0, .int .i64 0, .int .i64 0, .float .f64 0, .string ByteArray.empty, .slice none 0 0, .slice none 0 0, .slice none 0 0, .slice none 0 0]

set_option maxRecDepth 20000 in
set_option maxHeartbeats 2000000 in
theorem sameStep_any (s1 s2 : Step) (f1 f2 : Fr) (w : World) (h1 : FrOk w s1 f1) (h2 : FrOk w s2 f2) :
    Calls Try.prog 73 #[.agg #[.int .i64 f1.k, .string f1.s, .slice f1.a f1.l f1.c, .slice none 0 0, .int .i64 0, .int .i64 0, .int .i64 0, .float .f64 0, .string ByteArray.empty, .slice none 0 0, .slice none 0 0, .slice none 0 0, .slice none 0 0],
      .agg #[.int .i64 f2.k, .string f2.s, .slice f2.a f2.l f2.c, .slice none 0 0, .int .i64 0, .int .i64 0, .int .i64 0, .float .f64 0, .string ByteArray.empty, .slice none 0 0, .slice none 0 0, .slice none 0 0, .slice none 0 0]] w (Gives (.bool (s1.eqb s2)) w) := by
  obtain ⟨k1, t1, a1, l1, c1⟩ := f1
  obtain ⟨k2, t2, a2, l2, c2⟩ := f2
  rcases s1 with x1 | x1 <;> rcases s2 with x2 | x2
  · obtain ⟨rfl, rfl⟩ := h1
    obtain ⟨rfl, rfl⟩ := h2
    by_cases hx : t1 = t2
    · subst hx
      go_enter Try.func73, Try.ntmps73
      go_wp2
      go_ret
      exact .mk (by simp [Step.eqb]) (((Ext.refl _).alloc _).alloc _)
    · go_enter Try.func73, Try.ntmps73
      go_wp2
      all_goals go_ret
      all_goals exact .mk (by simp_all [Step.eqb, bytes_eq, bytes_beq]) (((Ext.refl _).alloc _).alloc _)
  · obtain ⟨rfl, rfl⟩ := h1
    obtain ⟨h2, _⟩ := h2
    simp only at h2
    subst h2
    go_enter Try.func73, Try.ntmps73
    go_wp2
    go_ret
    exact .mk (by simp [Step.eqb]) (((Ext.refl _).alloc _).alloc _)
  · obtain ⟨rfl, rfl⟩ := h2
    obtain ⟨h1, _⟩ := h1
    simp only at h1
    subst h1
    go_enter Try.func73, Try.ntmps73
    go_wp2
    go_ret
    exact .mk (by simp [Step.eqb]) (((Ext.refl _).alloc _).alloc _)
  · obtain ⟨h3, h4, b1, h5, h6⟩ := h1
    obtain ⟨h7, h8, b2, h9, h10⟩ := h2
    simp only at h3 h4 h5 h7 h8 h9
    subst h3 h4 h5 h7 h8 h9
    have HE : Hid (∀ w1, Ext w w1 → Calls Try.prog 95 #[.slice (some ⟨b1, 0, none⟩) 1 c1, .slice (some ⟨b2, 0, none⟩) 1 c2] w1 (Gives (.bool (decide (x1 = x2))) w1)) := fun w1 hx =>
      equal_one b1 b2 c1 c2 x1 x2 w1 (hx.keep _ _ ((cell_of_row _ _ _ _ _ _ h6).trans rfl)) (hx.keep _ _ ((cell_of_row _ _ _ _ _ _ h10).trans rfl))
    clear h6 h10
    generalize hr : decide (x1 = x2) = r at HE
    have HR := Lib.hid hr
    clear hr
    go_enter Try.func73, Try.ntmps73
    go_wp2_with (go_at_call 95; refine (HE.out _ (((Ext.refl _).alloc _).alloc _)).mono ?_; rintro e w1 ⟨rfl, hx1⟩; have HX := Lib.hid hx1; clear hx1 HE; cases r)
    all_goals go_ret
    all_goals exact .mk (by simp [Step.eqb, HR.out]) ((((Ext.refl _).alloc _).alloc _).trans HX.out)
end Go.Proofs.Ytikpedfggbibpaa
namespace Go.Proofs.Ytikpedfggbibpaa
open Go.RowKit Go.Lib
set_option linter.unusedVariables false
set_option linter.unusedSimpArgs false

theorem Try.entersSame (args : Array Value) (w : World) : (callFunc 73 args).run Try.prog w = .ok (.enter 73 args) w := enters_of Try.func73 (by kernel_rfl) rfl args w

set_option maxRecDepth 20000 in
set_option maxHeartbeats 4000000 in
theorem equalFrag_any (p q : List Step) (hp1 : p.length ≤ 1000000) (hq1 : q.length ≤ 1000000) (va vb : Value) (w : World) (h1 : PathAt w va p) (h2 : PathAt w vb q) :
    Calls Try.prog 91 #[va, vb, .func (.func 73) #[] #[]] w (Gives (.bool (pathB p q)) w) := by
  obtain ⟨a1, c1, rfl, hc1⟩ := h1.sh
  obtain ⟨a2, c2, rfl, hc2⟩ := h2.sh
  have H1 := Lib.hid h1
  have H2 := Lib.hid h2
  have eg := Try.entersSame
  clear h1 h2 hc1 hc2
  by_cases hl : p.length = q.length
  · have hlI : ((p.length : Int) != (q.length : Int)) = false := by simp [hl]
    have HL := Lib.hid hl
    clear hl
    go_enter Try.func91, Try.ntmps91
    go_wp2
    go_loopw [17] (fun i wr => ∃ m : Nat, m ≤ p.length ∧ i = .int .i64 m ∧ p.take m = q.take m ∧ Ext w wr) (fun i _ => p.length - (intOf i).toNat)
    case atStart => exact ⟨0, Nat.zero_le _, rfl, by simp, Ext.refl _⟩
    case round =>
      obtain ⟨m, hm, rfl, heq, hx⟩ := hrel
      have HEQ := Lib.hid heq
      have HX := Lib.hid hx
      clear heq hx
      by_cases hlt : m < p.length
      · have hlt2 : m < q.length := by have := HL.out; omega
        obtain ⟨b1, cap1, f1, e1, F1, O1, _⟩ := (H1.out.ext HX.out.keepB).frag m hlt
        obtain ⟨b2, cap2, f2, e2, F2, O2, _⟩ := (H2.out.ext HX.out.keepB).frag m hlt2
        simp only [Value.slice.injEq, true_and] at e1 e2
        obtain ⟨rfl, rfl⟩ := e1
        obtain ⟨rfl, rfl⟩ := e2
        have HS : Hid (∀ w1, Ext wr w1 → Calls Try.prog 73 _ w1 (Gives (.bool (p[m].eqb q[m])) w1)) := fun w1 hx => sameStep_any p[m] q[m] f1 f2 w1 (O1.ext hx) (O2.ext hx)
        obtain ⟨x0, x1, x2, x3, x4, x5, x6, x7, x8, x9, x10, x11, x12⟩ := F1
        obtain ⟨y0, y1, y2, y3, y4, y5, y6, y7, y8, y9, y10, y11, y12⟩ := F2
        obtain ⟨k1, t1, aa1, l1, cc1⟩ := f1
        obtain ⟨k2, t2, aa2, l2, cc2⟩ := f2
        simp only at x0 x1 x2 y0 y1 y2
        have lb1 := lt_of_cell x0
        have lb2 := lt_of_cell y0
        simp only at lb1 lb2
        generalize hr : p[m].eqb q[m] = r at HS
        have HR := Lib.hid hr
        clear hr O1 O2
        go_wp2_with (go_at_fn 73; refine (HS.out _ (((Ext.refl _).alloc _).alloc _)).mono ?_; rintro e w1 ⟨rfl, hx1⟩; have HX1 := Lib.hid hx1; clear hx1 HS; cases r)
        · go_ret
          have hne : p ≠ q := fun e => by
            subst e
            have := HR.out
            rw [Step.eqb_iff.2 rfl] at this
            cases this
          exact .mk (congrArg Value.bool (pathB_false hne).symm) (HX.out.trans ((((Ext.refl _).alloc _).alloc _).trans HX1.out))
        · go_roundw
          case rel => exact ⟨m + 1, by omega, by go_num, by rw [List.take_succ_eq_append_getElem hlt, List.take_succ_eq_append_getElem hlt2, HEQ.out, Step.eqb_iff.1 HR.out], HX.out.trans ((((Ext.refl _).alloc _).alloc _).trans HX1.out)⟩
          case measure => simp [intOf]; omega
      · have HPQ : Hid (p = q) := by
          have h1 := HEQ.out
          rw [List.take_of_length_le (by omega), List.take_of_length_le (by have := HL.out; omega)] at h1
          exact h1
        go_wp2
        go_ret
        exact .mk (congrArg Value.bool (pathB_iff.2 HPQ.out).symm) HX.out
  · have hlI : ((p.length : Int) != (q.length : Int)) = true := by simp; omega
    have HN : Hid (p ≠ q) := fun e => hl (by rw [e])
    clear hl
    go_enter Try.func91, Try.ntmps91
    go_wp2
    go_ret
    exact .mk (congrArg Value.bool (pathB_false HN.out).symm) (.refl _)

theorem unrooted_path (p : List Step) (hp : p.length ≤ 1000000) (v : Value) (w : World) (h : PathAt w v p) : Calls Try.prog 41 #[v] w fun e w' => e = .returned v ∧ w = w' := by
  obtain ⟨a, c, rfl, _⟩ := h.sh
  refine (unrooted_any a p.length c w (by unfold reachN; omega) (fun h0 => ?_)).mono fun _ _ h => ⟨h.1, h.2.symm⟩
  obtain ⟨b, cap, f, e, F, O, _⟩ := h.frag 0 h0
  simp only [Value.slice.injEq, true_and] at e
  obtain ⟨rfl, rfl⟩ := e
  refine ⟨b, 0, f.k, rfl, by simpa using F.h0, ?_⟩
  cases hs : p[0] with
  | child s => rw [hs] at O; rw [O.1]; decide
  | nth n => rw [hs] at O; rw [O.1]; decide

theorem samePlace_any (p q : List Step) (hp1 : p.length ≤ 1000000) (hq1 : q.length ≤ 1000000) (va vb : Value) (w : World) (h1 : PathAt w va p) (h2 : PathAt w vb q) :
    Calls Try.prog 60 #[va, vb] w (Gives (.bool (pathB p q)) w) := by
  have HU1 := Lib.hid (unrooted_path p hp1 va w h1)
  have HU2 := Lib.hid (unrooted_path q hq1 vb w h2)
  have HE := Lib.hid (equalFrag_any p q hp1 hq1 va vb w h1 h2)
  clear h1 h2 hp1 hq1
  go_enter Try.func60, Try.ntmps60
  go_wp2_with (first
    | (go_at_call 41; refine (HU1.out).mono ?_; rintro e w' ⟨rfl, rfl⟩; clear HU1)
    | (go_at_call 41; refine (HU2.out).mono ?_; rintro e w' ⟨rfl, rfl⟩; clear HU2)
    | (go_at_call 91; refine (HE.out).mono ?_; rintro e w1 ⟨rfl, hx⟩; have HX := Lib.hid hx; clear hx HE))
  go_ret
  exact .mk rfl HX.out
end Go.Proofs.Ytikpedfggbibpaa
