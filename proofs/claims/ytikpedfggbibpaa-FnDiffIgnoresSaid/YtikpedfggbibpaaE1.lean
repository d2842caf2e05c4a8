/- FnDiffIgnores: fragments in memory and their reading; walks: cleanPaths, trail, impl.Diff with ignored paths, coversPlace, DeleteFunc, evenly; plain laws. -/
import Derived.Test.YtikpedfggbibpaaD
import Derived.Test.YtikpedfggbibpaaWm
import Derived.Test.YtikpedfggbibpaaDv
import Derived.Lib.SliceRun
namespace Go.Proofs.Ytikpedfggbibpaa
open Go.RowKit
set_option linter.unusedVariables false
set_option linter.unusedSimpArgs false

/-- these cells lie here -/
def CellsAt (w : World) (b o : Nat) (cs : List Value) : Prop := ∀ j, (h : j < cs.length) → w.cell? ⟨b, o + j, none⟩ = some cs[j]
theorem CellsAt.keep {w w' : World} (k : Keep w w') {b o : Nat} {cs : List Value} (h : CellsAt w b o cs) : CellsAt w' b o cs := fun j hj => k _ _ (h j hj)
/-- elements of so many cells, of each of which this holds -/
def RowOf (w : World) (m : Nat) (Q : List Value → Prop) (a : Option Addr) (n : Nat) : Prop :=
  ∀ i, i < n → ∃ b o cs, a = some ⟨b, o, none⟩ ∧ cs.length = m ∧ CellsAt w b (o + i * m) cs ∧ Q cs
theorem RowOf.imp {w w' : World} (k : Keep w w') {m n : Nat} {Q Q' : List Value → Prop} {a : Option Addr} (hq : ∀ cs, Q cs → Q' cs) (h : RowOf w m Q a n) : RowOf w' m Q' a n := fun i hi => by
  obtain ⟨b, o, cs, e, hl, hc, hQ⟩ := h i hi
  exact ⟨b, o, cs, e, hl, hc.keep k, hq cs hQ⟩

/-- the cells of a fragment (true) or an equation (false), so many deep -/
def FE (w : World) : Nat → Bool → List Value → Prop
  | 0, _, _ => False
  | n + 1, false, cs => ∃ op d0 d1 d2 d3 d4 d5 ap pl pc aq ql qc, cs = [.int .i64 op, d0, d1, d2, d3, d4, d5, .slice ap pl pc, .slice aq ql qc] ∧ (∃ x, RV w x (.agg #[d0, d1, d2, d3, d4, d5])) ∧ pl ≤ reachN ∧ ql ≤ reachN ∧
      RowOf w 13 (fun c => FE w n true c) ap pl ∧ RowOf w 9 (fun c => FE w n false c) aq ql
  | n + 1, true, cs => ∃ k s an nl nc al ll lc es, cs = .int .i64 k :: .string s :: .slice an nl nc :: .slice al ll lc :: es ∧ es.length = 9 ∧ FE w n false es ∧ nl ≤ reachN ∧ nl ≤ nc ∧ RowOf w 1 (fun c => ∃ i, c = [.int .i64 i]) an nl ∧ ll ≤ reachN ∧
      RowOf w 13 (fun c => FE w n true c) al ll
theorem FE.keep {w w' : World} (k : Keep w w') : ∀ (n : Nat) (t : Bool) (cs : List Value), FE w n t cs → FE w' n t cs
  | 0, _, _, h => h
  | n + 1, false, cs, ⟨op, d0, d1, d2, d3, d4, d5, ap, pl, pc, aq, ql, qc, e, ⟨x, hx⟩, h1, h2, h3, h4⟩ =>
    ⟨op, d0, d1, d2, d3, d4, d5, ap, pl, pc, aq, ql, qc, e, ⟨x, RV.keep k _ hx⟩, h1, h2, h3.imp k (fun cs => FE.keep k n true cs), h4.imp k (fun cs => FE.keep k n false cs)⟩
  | n + 1, true, cs, ⟨q, s, an, nl, nc, al, ll, lc, es, e, hl, he, h1, h1', h2, h3, h4⟩ =>
    ⟨q, s, an, nl, nc, al, ll, lc, es, e, hl, FE.keep k n false es he, h1, h1', h2.imp k (fun _ h => h), h3, h4.imp k (fun cs => FE.keep k n true cs)⟩

theorem SomeBool.from {w w1 w' : World} {e : Ending} (k : Ext w w1) (h : SomeBool w1 e w') : SomeBool w e w' := ⟨h.1, k.trans h.2⟩

set_option maxHeartbeats 1000000 in
theorem zeroValue_any (x : V) (v : Value) (w : World) (h : RV w x v) : Calls Try.prog 105 #[v] w (SomeBool w) := by
  obtain ⟨k, n, f, s, l, ks⟩ := x
  unfold RV at h
  obtain ⟨al, lc, ak, kc, rfl, z, hl, hk⟩ := h
  clear hl hk z
  go_enter Try.func105, Try.ntmps105
  go_wp2_with (go_at_call 96; refine (noFloat_any _ _).mono ?_; rintro e w' ⟨rfl, rfl⟩)
  all_goals go_ret
  all_goals exact .mk _ ((Ext.refl w).alloc _)

/-- what is asked of the walk of a fragment -/
def CleanFragAt (n : Nat) : Prop := ∀ cs w, FE w n true cs → Calls Try.prog 94 #[.agg cs.toArray] w (SomeBool w)
def CleanEqAt (n : Nat) : Prop := ∀ cs w, FE w n false cs → Calls Try.prog 106 #[.agg cs.toArray] w (SomeBool w)
def CleanPathAt (n : Nat) : Prop := ∀ a l c w, l ≤ reachN → RowOf w 13 (fun c => FE w n true c) a l → Calls Try.prog 71 #[.slice a l c] w (SomeBool w)

set_option maxHeartbeats 1000000 in
theorem cleanPath_of (n : Nat) (hf : CleanFragAt n) : CleanPathAt n := by
  intro a l c w hl hr
  unfold reachN at hl
  have HF := Lib.hid hf
  have HR := Lib.hid hr
  clear hf hr
  go_enter Try.func71, Try.ntmps71
  go_wp2
  go_loopw [3] (fun i wr => ∃ m : Nat, m ≤ l ∧ i = .int .i64 m ∧ Ext w wr) (fun i _ => l - (intOf i).toNat)
  case atStart => exact ⟨0, Nat.zero_le _, rfl, Ext.refl _⟩
  case round =>
    obtain ⟨m, hm, rfl, hb⟩ := hrel
    have HB := Lib.hid hb
    clear hb
    by_cases hlt : m < l
    · obtain ⟨b, o, cs, rfl, hcl, hcs, hQ⟩ := HR.out m hlt
      match cs, hcl with
      | [c0, c1, c2, c3, c4, c5, c6, c7, c8, c9, c10, c11, c12], _ =>
      have KK := HB.out.keep
      have hcs' := hcs.keep KK
      have e0 := hcs' 0 (by simp)
      have e1 := hcs' 1 (by simp)
      have e2 := hcs' 2 (by simp)
      have e3 := hcs' 3 (by simp)
      have e4 := hcs' 4 (by simp)
      have e5 := hcs' 5 (by simp)
      have e6 := hcs' 6 (by simp)
      have e7 := hcs' 7 (by simp)
      have e8 := hcs' 8 (by simp)
      have e9 := hcs' 9 (by simp)
      have e10 := hcs' 10 (by simp)
      have e11 := hcs' 11 (by simp)
      have e12 := hcs' 12 (by simp)
      simp only [List.getElem_cons_zero, List.getElem_cons_succ, Nat.add_zero] at e0 e1 e2 e3 e4 e5 e6 e7 e8 e9 e10 e11 e12
      have HC := Lib.hid (HF.out _ wr (FE.keep KK n true _ hQ))
      clear hcs hcs' hQ KK
      go_wp2_with (go_at_call 94; refine (HC.out).mono ?_; rintro e w2 ⟨⟨b2, rfl⟩, hb2⟩; have HB2 := Lib.hid hb2; clear hb2 HC; cases b2)
      · go_ret
        exact .mk _ (HB.out.trans HB2.out)
      · go_roundw
        case rel => exact ⟨m + 1, by omega, by go_num, HB.out.trans HB2.out⟩
        case measure => simp [intOf]; omega
    · go_wp2
      go_ret
      exact .mk _ HB.out

theorem box13 {w w1 : World} {c0 c1 c2 c3 c4 c5 c6 c7 c8 c9 c10 c11 c12 : Value} {t : TypeId} (h : Keep (w.alloc (.cells #[c0, c1, c2, c3, c4, c5, c6, c7, c8, c9, c10, c11, c12] t)) w1) : w1.cell? ⟨w.heap.size, 0, none⟩ = some c0 ∧ w1.cell? ⟨w.heap.size, 1, none⟩ = some c1 ∧ w1.cell? ⟨w.heap.size, 2, none⟩ = some c2 ∧ w1.cell? ⟨w.heap.size, 3, none⟩ = some c3 ∧ w1.cell? ⟨w.heap.size, 4, none⟩ = some c4 ∧ w1.cell? ⟨w.heap.size, 5, none⟩ = some c5 ∧ w1.cell? ⟨w.heap.size, 6, none⟩ = some c6 ∧ w1.cell? ⟨w.heap.size, 7, none⟩ = some c7 ∧ w1.cell? ⟨w.heap.size, 8, none⟩ = some c8 ∧ w1.cell? ⟨w.heap.size, 9, none⟩ = some c9 ∧ w1.cell? ⟨w.heap.size, 10, none⟩ = some c10 ∧ w1.cell? ⟨w.heap.size, 11, none⟩ = some c11 ∧ w1.cell? ⟨w.heap.size, 12, none⟩ = some c12 := by
  refine ⟨?_, ?_, ?_, ?_, ?_, ?_, ?_, ?_, ?_, ?_, ?_, ?_, ?_⟩ <;> exact h _ _ (by simp)
theorem box9 {w w1 : World} {c0 c1 c2 c3 c4 c5 c6 c7 c8 : Value} {t : TypeId} (h : Keep (w.alloc (.cells #[c0, c1, c2, c3, c4, c5, c6, c7, c8] t)) w1) : w1.cell? ⟨w.heap.size, 0, none⟩ = some c0 ∧ w1.cell? ⟨w.heap.size, 1, none⟩ = some c1 ∧ w1.cell? ⟨w.heap.size, 2, none⟩ = some c2 ∧ w1.cell? ⟨w.heap.size, 3, none⟩ = some c3 ∧ w1.cell? ⟨w.heap.size, 4, none⟩ = some c4 ∧ w1.cell? ⟨w.heap.size, 5, none⟩ = some c5 ∧ w1.cell? ⟨w.heap.size, 6, none⟩ = some c6 ∧ w1.cell? ⟨w.heap.size, 7, none⟩ = some c7 ∧ w1.cell? ⟨w.heap.size, 8, none⟩ = some c8 := by
  refine ⟨?_, ?_, ?_, ?_, ?_, ?_, ?_, ?_, ?_⟩ <;> exact h _ _ (by simp)

set_option maxRecDepth 20000 in
set_option maxHeartbeats 4000000 in
theorem cleanFrag_of (n : Nat) (he : CleanEqAt n) (hp : CleanPathAt n) : CleanFragAt (n + 1) := by
  intro cs w h
  unfold FE at h
  obtain ⟨k, s, an, nl, nc, al, ll, lc, es, rfl, hel, hE, h1, h1', h2, h3, h4⟩ := h
  cases n with
  | zero => unfold FE at hE; exact hE.elim
  | succ n =>
  have hE0 := hE
  unfold FE at hE
  obtain ⟨op, d0, d1, d2, d3, d4, d5, ap, pl, pc, aq, ql, qc, rfl, ⟨x, hx⟩, h5, h6, h7, h8⟩ := hE
  have HZ : Hid (∀ w1, Keep w w1 → Calls Try.prog 105 #[.agg #[d0, d1, d2, d3, d4, d5]] w1 (SomeBool w1)) := fun w1 hk => zeroValue_any x _ w1 (RV.keep hk _ hx)
  have HE : Hid (∀ w1, Keep w w1 → ∀ p' q', p' = pl → q' = ql → Calls Try.prog 106 #[.agg #[.int .i64 op, d0, d1, d2, d3, d4, d5, .slice ap p' pc, .slice aq q' qc]] w1 (SomeBool w1)) := fun w1 hk p' q' e1 e2 => by
    subst e1 e2
    exact he _ w1 (FE.keep hk _ _ _ hE0)
  have HP : Hid (∀ w1, Keep w w1 → Calls Try.prog 71 #[.slice al ll lc] w1 (SomeBool w1)) := fun w1 hk => hp al ll lc w1 h3 (h4.imp hk fun cs => FE.keep hk _ _ cs)
  obtain ⟨vk, vn, vf, vs, val, vll, vlc, vak, vkl, vkc, rfl, rfl, rfl, rfl, rfl, rfl⟩ := hx.shape
  clear hE0 hx h1 h1' h2 h3 h4 h5 h6 h7 h8 he hp hel
  have K0 : Hid (∀ o, Keep w (w.alloc o)) := fun o => Keep.alloc w o
  have X0 : Hid (∀ o, Ext w (w.alloc o)) := fun o => (Ext.refl w).alloc o
  by_cases hop : op = 0
  · subst hop
    go_enter Try.func94, Try.ntmps94
    go_wp2_with (first
      | (go_at_call 105; refine (HZ.out _ (K0.out _)).mono ?_; rintro e w1 ⟨⟨b1, rfl⟩, hx1⟩; have HX1 := Lib.hid hx1; clear hx1; obtain ⟨z0, z1, z2, z3, z4, z5, z6, z7, z8, z9, z10, z11, z12⟩ := box13 HX1.out.keep; cases b1)
      | (go_at_call 106; refine (HE.out _ ((K0.out _).trans HX1.out.keep) _ _ (by first | rfl | omega) (by first | rfl | omega)).mono ?_; rintro e w2 ⟨⟨b2, rfl⟩, hx2⟩; have HX2 := Lib.hid hx2; clear hx2; cases b2)
      | (go_at_call 71; refine (HP.out _ ((K0.out _).trans HX1.out.keep)).mono ?_; rintro e w2 ⟨⟨b2, rfl⟩, hx2⟩; have HX2 := Lib.hid hx2; clear hx2; cases b2))
    all_goals go_ret
    all_goals first
      | exact .mk _ (X0.out _)
      | exact .mk _ ((X0.out _).trans HX1.out)
      | exact .mk _ ((X0.out _).trans (HX1.out.trans HX2.out))
  · have hop' : (op == 0) = false := by simp [hop]
    clear hop HZ
    go_enter Try.func94, Try.ntmps94
    go_wp2_with (go_at_call 106; refine (HE.out _ (K0.out _) _ _ rfl rfl).mono ?_; rintro e w2 ⟨⟨b2, rfl⟩, hx2⟩; have HX2 := Lib.hid hx2; clear hx2; cases b2)
    all_goals go_ret
    all_goals first
      | exact .mk _ (X0.out _)
      | exact .mk _ ((X0.out _).trans HX2.out)

set_option maxRecDepth 20000 in
set_option maxHeartbeats 4000000 in
theorem cleanEq_of (n : Nat) (he : CleanEqAt n) (hp : CleanPathAt n) : CleanEqAt (n + 1) := by
  intro cs w h
  unfold FE at h
  obtain ⟨op, d0, d1, d2, d3, d4, d5, ap, pl, pc, aq, ql, qc, rfl, ⟨x, hx⟩, h5, h6, h7, h8⟩ := h
  have HZ : Hid (∀ w1, Keep w w1 → Calls Try.prog 105 #[.agg #[d0, d1, d2, d3, d4, d5]] w1 (SomeBool w1)) := fun w1 hk => zeroValue_any x _ w1 (RV.keep hk _ hx)
  have HV : Hid (∀ w1, Keep w w1 → Calls Try.prog 75 #[.agg #[d0, d1, d2, d3, d4, d5]] w1 (SomeBool w1)) := fun w1 hk => (cleanValue_any x.nodes x (Nat.le_refl _) _ w1 (RV.keep hk _ hx)).mono fun e w' ⟨b, e1, _, e2⟩ => ⟨⟨b, e1⟩, e2⟩
  have HP : Hid (∀ w1, Keep w w1 → Calls Try.prog 71 #[.slice ap pl pc] w1 (SomeBool w1)) := fun w1 hk => hp ap pl pc w1 h5 (h7.imp hk fun cs => FE.keep hk _ _ cs)
  have HQ : Hid (RowOf w 9 (fun c => FE w n false c) aq ql) := h8
  have HE := Lib.hid he
  obtain ⟨vk, vn, vf, vs, val, vll, vlc, vak, vkl, vkc, rfl, rfl, rfl, rfl, rfl, rfl⟩ := hx.shape
  unfold reachN at h6
  clear hx h5 h7 h8 he hp
  have K0 : Hid (∀ o, Keep w (w.alloc o)) := fun o => Keep.alloc w o
  have X0 : Hid (∀ o, Ext w (w.alloc o)) := fun o => (Ext.refl w).alloc o
  by_cases o1 : op = 1
  · subst o1
    go_enter Try.func106, Try.ntmps106
    go_wp2_with (go_at_call 75; refine (HV.out _ (K0.out _)).mono ?_; rintro e w1 ⟨⟨b1, rfl⟩, hx1⟩; have HX1 := Lib.hid hx1; clear hx1; obtain ⟨z0, z1, z2, z3, z4, z5, z6, z7, z8⟩ := box9 HX1.out.keep; cases b1)
    all_goals go_ret
    all_goals exact .mk _ ((X0.out _).trans HX1.out)
  have q1 : (op == 1) = false := by simp [o1]
  by_cases o2 : op = 2
  · subst o2
    clear q1
    go_enter Try.func106, Try.ntmps106
    go_wp2_with (go_at_call 105; refine (HZ.out _ (K0.out _)).mono ?_; rintro e w1 ⟨⟨b1, rfl⟩, hx1⟩; have HX1 := Lib.hid hx1; clear hx1; obtain ⟨z0, z1, z2, z3, z4, z5, z6, z7, z8⟩ := box9 HX1.out.keep; cases b1)
    all_goals go_ret
    all_goals exact .mk _ ((X0.out _).trans HX1.out)
  have q2 : (op == 2) = false := by simp [o2]
  by_cases o3 : op = 3 ∨ op = 4 ∨ op = 5
  · clear q1 q2
    rcases o3 with rfl | rfl | rfl
    all_goals
      go_enter Try.func106, Try.ntmps106
      go_wp2_with (first
        | (go_at_call 105; refine (HZ.out _ (K0.out _)).mono ?_; rintro e w1 ⟨⟨b1, rfl⟩, hx1⟩; have HX1 := Lib.hid hx1; clear hx1; obtain ⟨z0, z1, z2, z3, z4, z5, z6, z7, z8⟩ := box9 HX1.out.keep; cases b1)
        | (go_at_call 71; refine (HP.out _ ((K0.out _).trans HX1.out.keep)).mono ?_; rintro e w2 ⟨⟨b2, rfl⟩, hx2⟩; have HX2 := Lib.hid hx2; clear hx2; clear z0 z1 z2 z3 z4 z5 z6 z7 z8; obtain ⟨z0, z1, z2, z3, z4, z5, z6, z7, z8⟩ := box9 (HX1.out.trans HX2.out).keep; cases b2))
      all_goals go_ret
      all_goals first
        | exact .mk _ ((X0.out _).trans HX1.out)
        | exact .mk _ ((X0.out _).trans (HX1.out.trans HX2.out))
  have q3 : (op == 3) = false := by simp; omega
  have q4 : (op == 4) = false := by simp; omega
  have q5 : (op == 5) = false := by simp; omega
  clear o1 o2 o3 HV HP
  by_cases o6 : op < 1
  · have q6 : decide (op < 1) = true := by simp [o6]
    go_enter Try.func106, Try.ntmps106
    go_wp2
    go_ret
    exact .mk _ (X0.out _)
  by_cases o7 : 22 < op
  · go_enter Try.func106, Try.ntmps106
    go_wp2
    go_ret
    exact .mk _ (X0.out _)
  go_enter Try.func106, Try.ntmps106
  go_wp2
  go_loopw [3] (fun i wr => ∃ m : Nat, m ≤ ql ∧ i = .int .i64 m ∧ Below (w.heap.size + 1) (w.alloc (Obj.cells #[.int .i64 op, .int .i64 vk, .int .i64 vn, .float .f64 vf, .string vs, .slice val vll vlc, .slice vak vkl vkc, .slice ap pl pc, .slice aq ql qc] 36)) wr) (fun i _ => ql - (intOf i).toNat)
  case atStart => exact ⟨0, Nat.zero_le _, rfl, Below.refl _ _⟩
  case round =>
    obtain ⟨m, hm, rfl, hb⟩ := hrel
    have HB := Lib.hid hb
    have HX : Hid (Ext w wr) := (Ext.refl w).trans ((Below.alloc (Below.refl _ _) (Nat.le_refl _) _).trans (HB.out.mono (by omega)))
    obtain ⟨z0, z1, z2, z3, z4, z5, z6, z7, z8⟩ := box9 (Keep.of_below hb (by simp))
    clear hb
    by_cases hlt : m < ql
    · obtain ⟨b, o, cs, rfl, hcl, hcs, hQ⟩ := HQ.out m hlt
      match cs, hcl with
      | [c0, c1, c2, c3, c4, c5, c6, c7, c8], _ =>
      have KK := HX.out.keep
      have hcs' := hcs.keep KK
      have e0 := hcs' 0 (by simp)
      have e1 := hcs' 1 (by simp)
      have e2 := hcs' 2 (by simp)
      have e3 := hcs' 3 (by simp)
      have e4 := hcs' 4 (by simp)
      have e5 := hcs' 5 (by simp)
      have e6 := hcs' 6 (by simp)
      have e7 := hcs' 7 (by simp)
      have e8 := hcs' 8 (by simp)
      simp only [List.getElem_cons_zero, List.getElem_cons_succ, Nat.add_zero] at e0 e1 e2 e3 e4 e5 e6 e7 e8
      have HC := Lib.hid (HE.out _ wr (FE.keep KK n false _ hQ))
      clear hcs hcs' hQ KK
      go_wp2_with (go_at_call 106; refine (HC.out).mono ?_; rintro e w2 ⟨⟨b2, rfl⟩, hb2⟩; have HB2 := Lib.hid hb2; clear hb2 HC; cases b2)
      · go_ret
        exact .mk _ (HX.out.trans HB2.out)
      · go_roundw
        case rel => exact ⟨m + 1, by omega, by go_num, HB.out.trans (HB2.out.mono (by have := HB.out.size; simp at this; omega))⟩
        case measure => simp [intOf]; omega
    · go_wp2_with (go_at_call 105; refine (HZ.out _ HX.out.keep).mono ?_; rintro e w1 ⟨⟨b1, rfl⟩, hx1⟩; have HX1 := Lib.hid hx1; clear hx1; clear z0 z1 z2 z3 z4 z5 z6 z7 z8; obtain ⟨z0, z1, z2, z3, z4, z5, z6, z7, z8⟩ := box9 ((Keep.of_below HB.out (by simp)).trans HX1.out.keep); cases b1)
      all_goals go_ret
      all_goals exact .mk _ (HX.out.trans HX1.out)

theorem clean_any : ∀ n, CleanFragAt n ∧ CleanEqAt n ∧ CleanPathAt n
  | 0 => ⟨fun cs w h => by unfold FE at h; exact h.elim, fun cs w h => by unfold FE at h; exact h.elim, cleanPath_of 0 (fun cs w h => by unfold FE at h; exact h.elim)⟩
  | n + 1 => by
    obtain ⟨h1, h2, h3⟩ := clean_any n
    have hf := cleanFrag_of n h2 h3
    exact ⟨hf, cleanEq_of n h2 h3, cleanPath_of (n + 1) hf⟩

/-- paths in a row: each a row of fragments -/
def PathsIn (w : World) (n : Nat) (a : Option Addr) (l : Nat) : Prop :=
  RowOf w 1 (fun cs => ∃ a' l' c', cs = [.slice a' l' c'] ∧ l' ≤ reachN ∧ l' ≤ c' ∧ RowOf w 13 (fun c => FE w n true c) a' l') a l

set_option maxHeartbeats 1000000 in
theorem cleanPaths_any (n : Nat) (a : Option Addr) (l c : Nat) (w : World) (hl : l ≤ reachN) (hr : PathsIn w n a l) : Calls Try.prog 26 #[.slice a l c] w (SomeBool w) := by
  unfold reachN at hl
  have HR := Lib.hid hr
  clear hr
  go_enter Try.func26, Try.ntmps26
  go_wp2
  go_loopw [3] (fun i wr => ∃ m : Nat, m ≤ l ∧ i = .int .i64 m ∧ Ext w wr) (fun i _ => l - (intOf i).toNat)
  case atStart => exact ⟨0, Nat.zero_le _, rfl, Ext.refl _⟩
  case round =>
    obtain ⟨m, hm, rfl, hb⟩ := hrel
    have HB := Lib.hid hb
    clear hb
    by_cases hlt : m < l
    · obtain ⟨b, o, cs, rfl, hcl, hcs, a', l', c', rfl, hl', hlc', hQ⟩ := HR.out m hlt
      have KK := HB.out.keep
      have e0 := hcs.keep KK 0 (by simp)
      simp only [List.getElem_cons_zero, Nat.add_zero, Nat.mul_one] at e0
      have HC := Lib.hid ((clean_any n).2.2 a' l' c' wr hl' (hQ.imp KK fun cs => FE.keep KK n true cs))
      clear hcs hQ KK hcl hl' hlc'
      go_wp2_with (go_at_call 71; refine (HC.out).mono ?_; rintro e w2 ⟨⟨b2, rfl⟩, hb2⟩; have HB2 := Lib.hid hb2; clear hb2 HC; cases b2)
      · go_ret
        exact .mk _ (HB.out.trans HB2.out)
      · go_roundw
        case rel => exact ⟨m + 1, by omega, by go_num, HB.out.trans HB2.out⟩
        case measure => simp [intOf]; omega
    · go_wp2
      go_ret
      exact .mk _ HB.out
end Go.Proofs.Ytikpedfggbibpaa
namespace Go.Proofs.Ytikpedfggbibpaa
open Go.ChangeShapes Go.WideShapes Go.RowKit
set_option linter.unusedVariables false
set_option linter.unusedSimpArgs false

theorem Try.cells_frag : Try.prog.cellsOf 38 = 13 := by kernel_rfl
theorem Try.cells_eq : Try.prog.cellsOf 36 = 9 := by kernel_rfl
theorem Try.cells_path : Try.prog.cellsOf 32 = 1 := by kernel_rfl
theorem Try.cells_ints : Try.prog.cellsOf 33 = 1 := by kernel_rfl
theorem Try.cells_eqs : Try.prog.cellsOf 34 = 1 := by kernel_rfl
theorem Try.bytes_frag : Try.prog.bytesOf 38 = 216 := by kernel_rfl
theorem Try.bytes_eq : Try.prog.bytesOf 36 = 144 := by kernel_rfl
theorem Try.bytes_path : Try.prog.bytesOf 32 = 24 := by kernel_rfl
theorem Try.bytes_int : Try.prog.bytesOf 3 = 8 := by kernel_rfl

theorem FE.up {w : World} : ∀ (n : Nat) (t : Bool) (cs : List Value), FE w n t cs → FE w (n + 1) t cs
  | 0, _, _, h => by unfold FE at h; exact h.elim
  | n + 1, false, cs, ⟨op, d0, d1, d2, d3, d4, d5, ap, pl, pc, aq, ql, qc, e, hx, h1, h2, h3, h4⟩ =>
    ⟨op, d0, d1, d2, d3, d4, d5, ap, pl, pc, aq, ql, qc, e, hx, h1, h2, h3.imp (Keep.refl w) (fun cs => FE.up n true cs), h4.imp (Keep.refl w) (fun cs => FE.up n false cs)⟩
  | n + 1, true, cs, ⟨q, s, an, nl, nc, al, ll, lc, es, e, hl, he, h1, h1', h2, h3, h4⟩ =>
    ⟨q, s, an, nl, nc, al, ll, lc, es, e, hl, FE.up n false es he, h1, h1', h2, h3, h4.imp (Keep.refl w) (fun cs => FE.up n true cs)⟩
theorem FE.le {w : World} {n m : Nat} (h : n ≤ m) {t : Bool} {cs : List Value} (hf : FE w n t cs) : FE w m t cs := by
  induction h with
  | refl => exact hf
  | step _ ih => exact FE.up _ _ _ ih

section
variable {H : Type} {enc : TypeId × Value → H} {W : World}

theorem read_row {t e : TypeId} {m z : Nat} (hu : Try.prog.underlying t = some (.slice e)) (hm : Try.prog.cellsOf e = m) (hz : Try.prog.bytesOf e = z) (h0 : 0 < m) {fuel : Nat} {cs : List Value} {x : DataW H × List MemPlace}
    (h : DataW.trod enc Try.prog W 0 (fun _ => true) true fuel t cs = some x) (hs : Small t x.1) (Q : List Value → Prop)
    (hQ : ∀ f' ds (y : DataW H × List MemPlace), f' < fuel → DataW.trod enc Try.prog W 0 (fun _ => true) true f' e ds = some y → Small e y.1 → Q ds) :
    ∃ a len cap, cs = [.slice a len cap] ∧ len ≤ cap ∧ len * z ≤ reachN ∧ RowOf W m Q a len := by
  rcases DataW.trod_slice hu h with ⟨e4, _⟩ | ⟨a, len, cap, elems, rest, n, rfl, e4, rfl, hb, hl, _, hel, hels, _, _⟩
  · exact ⟨none, 0, 0, e4, by simp, by simp, fun i hi => by omega⟩
  · have h1 := hs ((elems.map (·.1)).length * Try.prog.bytesOf e + (rest.map (·.1)).length * Try.prog.bytesOf e) (by
      simp only [DataW.weights, hu]
      rw [Nat.add_mul]
      simp)
    rw [hz] at h1
    simp only [List.length_map, hel, reachBytes] at h1
    refine ⟨some a, len, cap, e4, hl, by unfold reachN; omega, fun i hi => ?_⟩
    have h2 := hels i hi
    rw [hm, List.getElem?_eq_getElem (by omega)] at h2
    obtain ⟨ds, h3, h4⟩ := Option.bind_eq_some_iff.1 h2
    obtain ⟨_, h5, h6⟩ := World.cells?_some h3
    have hq := hQ n ds _ (by omega) h4 (fun k hk => hs k (by
      simp only [DataW.weights, hu, List.mem_cons, List.mem_append]
      refine Or.inr (Or.inl (weightsAll_mem (i := i) (d := elems[i].1) ?_ _ hk))
      rw [List.getElem?_map, List.getElem?_eq_getElem (by omega)]
      rfl))
    have hc : ∀ j, (hj : j < ds.length) → W.cell? (a.add (i * m + j)) = some ds[j] := fun j hj => by
      have := h6 j (by omega)
      rw [Go.Deep.add_add, List.getElem?_eq_getElem hj] at this
      exact this
    have hp : a = ⟨a.block, a.off, none⟩ := by
      have h2' := hels 0 (by omega)
      rw [hm, List.getElem?_eq_getElem (by omega)] at h2'
      obtain ⟨ds', h3', _⟩ := Option.bind_eq_some_iff.1 h2'
      obtain ⟨_, h5', h6'⟩ := World.cells?_some h3'
      have h7 := h6' 0 h0
      rw [Go.Deep.add_add, List.getElem?_eq_getElem (by omega)] at h7
      exact addr_plain (a := a) (by simpa [Addr.add] using h7)
    refine ⟨a.block, a.off, ds, by rw [← hp], h5, fun j hj => ?_, hq⟩
    have := hc j hj
    rw [hp, Addr.add_lit] at this
    rw [Nat.add_assoc]
    exact this

set_option maxRecDepth 100000 in
theorem read_fe : ∀ (fuel : Nat) (t : Bool) (cs : List Value) (x : DataW H × List MemPlace), DataW.trod enc Try.prog W 0 (fun _ => true) true fuel (if t then 38 else 36) cs = some x → Small (if t then 38 else 36) x.1 → FE W fuel t cs := by
  intro fuel
  induction fuel using Nat.strongRecOn with
  | _ fuel ih =>
  intro t cs x h hs
  cases t with
  | false =>
    simp only [Bool.false_eq_true, if_false] at h hs
    obtain ⟨xs, n, rfl, rfl, hlen, hxs, hf⟩ := DataW.trod_struct Try.underlying36 h
    rw [Try.cells_eq] at hlen
    match cs, hlen with
    | [c0, c1, c2, c3, c4, c5, c6, c7, c8], _ =>
    match xs, hxs with
    | [y0, y1, y2, y3], _ =>
    have f0 := hf 0 _ rfl
    have f1 := hf 1 _ rfl
    have f2 := hf 2 _ rfl
    have f3 := hf 3 _ rfl
    change DataW.trod enc Try.prog W 0 (fun _ => true) true n 3 (([c0, c1, c2, c3, c4, c5, c6, c7, c8].drop 0).take (Try.prog.cellsOf 3)) = some y0 at f0
    change DataW.trod enc Try.prog W 0 (fun _ => true) true n 26 (([c0, c1, c2, c3, c4, c5, c6, c7, c8].drop 1).take (Try.prog.cellsOf 26)) = some y1 at f1
    change DataW.trod enc Try.prog W 0 (fun _ => true) true n 32 (([c0, c1, c2, c3, c4, c5, c6, c7, c8].drop 7).take (Try.prog.cellsOf 32)) = some y2 at f2
    change DataW.trod enc Try.prog W 0 (fun _ => true) true n 34 (([c0, c1, c2, c3, c4, c5, c6, c7, c8].drop 8).take (Try.prog.cellsOf 34)) = some y3 at f3
    rw [Try.cells_int] at f0
    rw [Try.cells_val] at f1
    rw [Try.cells_path] at f2
    rw [Try.cells_eqs] at f3
    simp only [List.drop_succ_cons, List.drop_zero, List.take_succ_cons, List.take_zero] at f0 f1 f2 f3
    obtain ⟨k0, e0, rfl, w0⟩ := DataW.trod_int Try.underlying3 f0
    simp only [List.cons.injEq, and_true] at e0
    subst e0
    have hsm : ∀ n ∈ DataW.weightsEach Try.prog [3, 26, 32, 34] [.lit (.int .i64 k0), y1.1, y2.1, y3.1], n ≤ reachBytes := fun n hn => hs n (by
      simp only [DataW.weights, Try.underlying36]
      exact hn)
    have s1 : Small 26 y1.1 := fun n hn => hsm n (by simp only [DataW.weightsEach, List.mem_append]; exact Or.inr (Or.inl hn))
    have s2 : Small 32 y2.1 := fun n hn => hsm n (by simp only [DataW.weightsEach, List.mem_append]; exact Or.inr (Or.inr (Or.inl hn)))
    have s3 : Small 34 y3.1 := fun n hn => hsm n (by simp only [DataW.weightsEach, List.mem_append]; exact Or.inr (Or.inr (Or.inr (Or.inl hn))))
    obtain ⟨v, hv⟩ := read_val _ _ _ f1 s1
    obtain ⟨ap, pl, pc, e2, _, p2, p3⟩ := read_row Try.underlying32 Try.cells_frag Try.bytes_frag (by decide) f2 s2 (fun c => FE W n true c) (fun f' ds y hf hy hsy => FE.le (Nat.le_of_lt hf) (ih f' (by omega) true ds y hy hsy))
    obtain ⟨aq, ql, qc, e3, _, q2, q3⟩ := read_row Try.underlying34 Try.cells_eq Try.bytes_eq (by decide) f3 s3 (fun c => FE W n false c) (fun f' ds y hf hy hsy => FE.le (Nat.le_of_lt hf) (ih f' (by omega) false ds y hy hsy))
    simp only [List.cons.injEq, and_true] at e2 e3
    subst e2 e3
    exact ⟨k0, c1, c2, c3, c4, c5, c6, ap, pl, pc, aq, ql, qc, rfl, ⟨v, hv⟩, by omega, by omega, p3, q3⟩
  | true =>
    simp only [if_true] at h hs
    obtain ⟨xs, n, rfl, rfl, hlen, hxs, hf⟩ := DataW.trod_struct Try.underlying38 h
    rw [Try.cells_frag] at hlen
    match cs, hlen with
    | [c0, c1, c2, c3, c4, c5, c6, c7, c8, c9, c10, c11, c12], _ =>
    match xs, hxs with
    | [y0, y1, y2, y3, y4], _ =>
    have f0 := hf 0 _ rfl
    have f1 := hf 1 _ rfl
    have f2 := hf 2 _ rfl
    have f3 := hf 3 _ rfl
    have f4 := hf 4 _ rfl
    change DataW.trod enc Try.prog W 0 (fun _ => true) true n 3 (([c0, c1, c2, c3, c4, c5, c6, c7, c8, c9, c10, c11, c12].drop 0).take (Try.prog.cellsOf 3)) = some y0 at f0
    change DataW.trod enc Try.prog W 0 (fun _ => true) true n 9 (([c0, c1, c2, c3, c4, c5, c6, c7, c8, c9, c10, c11, c12].drop 1).take (Try.prog.cellsOf 9)) = some y1 at f1
    change DataW.trod enc Try.prog W 0 (fun _ => true) true n 33 (([c0, c1, c2, c3, c4, c5, c6, c7, c8, c9, c10, c11, c12].drop 2).take (Try.prog.cellsOf 33)) = some y2 at f2
    change DataW.trod enc Try.prog W 0 (fun _ => true) true n 32 (([c0, c1, c2, c3, c4, c5, c6, c7, c8, c9, c10, c11, c12].drop 3).take (Try.prog.cellsOf 32)) = some y3 at f3
    change DataW.trod enc Try.prog W 0 (fun _ => true) true n 36 (([c0, c1, c2, c3, c4, c5, c6, c7, c8, c9, c10, c11, c12].drop 4).take (Try.prog.cellsOf 36)) = some y4 at f4
    rw [Try.cells_int] at f0
    rw [Try.cells_str] at f1
    rw [Try.cells_ints] at f2
    rw [Try.cells_path] at f3
    rw [Try.cells_eq] at f4
    simp only [List.drop_succ_cons, List.drop_zero, List.take_succ_cons, List.take_zero] at f0 f1 f2 f3 f4
    obtain ⟨k0, e0, rfl, w0⟩ := DataW.trod_int Try.underlying3 f0
    obtain ⟨k1, e1, rfl, w1⟩ := DataW.trod_string Try.underlying9 f1
    simp only [List.cons.injEq, and_true] at e0 e1
    subst e0 e1
    have hsm : ∀ n ∈ DataW.weightsEach Try.prog [3, 9, 33, 32, 36] [.lit (.int .i64 k0), .lit (.string k1.data.toList), y2.1, y3.1, y4.1], n ≤ reachBytes := fun n hn => hs n (by
      simp only [DataW.weights, Try.underlying38]
      exact hn)
    have s2 : Small 33 y2.1 := fun n hn => hsm n (by simp only [DataW.weightsEach, List.mem_append]; exact Or.inr (Or.inr (Or.inl hn)))
    have s3 : Small 32 y3.1 := fun n hn => hsm n (by simp only [DataW.weightsEach, List.mem_append]; exact Or.inr (Or.inr (Or.inr (Or.inl hn))))
    have s4 : Small 36 y4.1 := fun n hn => hsm n (by simp only [DataW.weightsEach, List.mem_append]; exact Or.inr (Or.inr (Or.inr (Or.inr (Or.inl hn)))))
    obtain ⟨an, nl, nc, e2, p1, p2, p3⟩ := read_row Try.underlying33 Try.cells_int Try.bytes_int (by decide) f2 s2 (fun c => ∃ i, c = [.int .i64 i]) (fun f' ds y hf hy hsy => by
      obtain ⟨k, e, _⟩ := DataW.trod_int Try.underlying3 hy
      exact ⟨k, e⟩)
    obtain ⟨al, ll, lc, e3, _, q2, q3⟩ := read_row Try.underlying32 Try.cells_frag Try.bytes_frag (by decide) f3 s3 (fun c => FE W n true c) (fun f' ds y hf hy hsy => FE.le (Nat.le_of_lt hf) (ih f' (by omega) true ds y hy hsy))
    have hE := ih n (by omega) false [c4, c5, c6, c7, c8, c9, c10, c11, c12] y4 f4 s4
    simp only [List.cons.injEq, and_true] at e2 e3
    subst e2 e3
    exact ⟨k0, k1, an, nl, nc, al, ll, lc, _, rfl, rfl, hE, by omega, p1, p3, by omega, q3⟩

set_option maxRecDepth 100000 in
/-- an argument that is a list of paths -/
theorem open_paths {base : Nat} {v : Value} {d : DataW H} {p : List MemPlace} (hv : Value.okWide Try.prog W .any base 30 v) (h : DataW.Trod enc Try.prog W 0 (fun _ => true) true 30 v d p) (hs : Small 30 d) : ∃ n a l c, v = .slice a l c ∧ l ≤ c ∧ l ≤ reachN ∧ PathsIn W n a l := by
  obtain ⟨fuel, hf⟩ := h
  obtain ⟨a, l, c, e, h1, h2, h3⟩ := read_row Try.underlying30 Try.cells_path Try.bytes_path (by decide) hf hs (fun cs => ∃ a' l' c', cs = [.slice a' l' c'] ∧ l' ≤ reachN ∧ l' ≤ c' ∧ RowOf W 13 (fun c => FE W fuel true c) a' l') (fun f' ds y hf' hy hsy => by
    obtain ⟨a', l', c', e, q1, q2, q3⟩ := read_row Try.underlying32 Try.cells_frag Try.bytes_frag (by decide) hy hsy (fun c => FE W fuel true c) (fun f2 ds2 y2 hf2 hy2 hsy2 => FE.le (Nat.le_of_lt (Nat.lt_trans hf2 hf')) (read_fe f2 true ds2 y2 hy2 hsy2))
    exact ⟨a', l', c', e, by omega, q1, q3⟩)
  obtain ⟨a0, len, cap, rfl⟩ := okWide_slice Try.underlying30 hv
  simp only [Value.cells, List.cons.injEq, and_true] at e
  exact ⟨fuel, a, l, c, e, h1, by omega, h3⟩
end
end Go.Proofs.Ytikpedfggbibpaa
namespace Go.Proofs.Ytikpedfggbibpaa
open Go.RowKit Go.Lib
set_option linter.unusedVariables false
set_option linter.unusedSimpArgs false

/-- what a fragment's other ten cells are -/
def Ten (es : List Value) : Prop := ∃ al ll lc op vk vn vf vs val vll vlc vak vkl vkc ap pl pc aq ql qc, es = [.slice al ll lc, .int .i64 op, .int .i64 vk, .int .i64 vn, .float .f64 vf, .string vs, .slice val vll vlc, .slice vak vkl vkc, .slice ap pl pc, .slice aq ql qc]
/-- the cells of a fragment that may be ignored: a wildcard, a child, a number -/
def QFr (w : World) : Option Step → List Value → Prop
  | none, cs => ∃ s a l c es, cs = .int .i64 5 :: .string s :: .slice a l c :: es ∧ Ten es
  | some (.child t), cs => ∃ a l c es, cs = .int .i64 3 :: .string t :: .slice a l c :: es ∧ Ten es
  | some (.nth n), cs => ∃ s b o c es, cs = .int .i64 4 :: .string s :: .slice (some ⟨b, o, none⟩) 1 c :: es ∧ Ten es ∧ w.cell? ⟨b, o, none⟩ = some (.int .i64 n) ∧ 1 ≤ c
theorem QFr.keep {w w' : World} (k : Keep w w') : ∀ {x : Option Step} {cs : List Value}, QFr w x cs → QFr w' x cs
  | none, _, h => h
  | some (.child _), _, h => h
  | some (.nth _), _, ⟨s, b, o, c, es, e, hl, h1, h2⟩ => ⟨s, b, o, c, es, e, hl, k _ _ h1, h2⟩
/-- they lie in a row -/
def QAt (w : World) (b o : Nat) (q : List (Option Step)) : Prop := ∀ i, (h : i < q.length) → ∃ cs, CellsAt w b (o + i * 13) cs ∧ QFr w q[i] cs
theorem QAt.keep {w w' : World} (k : Keep w w') {b o : Nat} {q : List (Option Step)} (h : QAt w b o q) : QAt w' b o q := fun i hi => by
  obtain ⟨cs, h1, h2⟩ := h i hi
  exact ⟨cs, h1.keep k, h2.keep k⟩

def TrPost (q : List (Option Step)) (w : World) (e : Ending) (w' : World) : Prop :=
  ∃ bq cq, e = .returned (.tuple #[.slice (some ⟨bq, 0, none⟩) q.length cq, .bool true]) ∧ q.length ≤ cq ∧ (∀ i, (h : i < q.length) → w'.cell? ⟨bq, i, none⟩ = some (ival q[i])) ∧ Ext w w'

theorem take_map_snoc {α β : Type} (f : α → β) (l : List α) (m : Nat) (h : m < l.length) : (l.take (m + 1)).map f = (l.take m).map f ++ [f l[m]] := by
  rw [List.take_succ_eq_append_getElem h, List.map_append]
  rfl
theorem ival_one (x : Option Step) : (ival x).oneCell' = true := by
  cases x with
  | none => rfl
  | some st => cases st <;> rfl

/-- one value more in a path of the call's own -/
theorem wpList_ipush {ops : Array Oper} {rest : List Oper} {o : Oper} {a : Act} {Q : Exit → Act → World → Prop} (s x : Operand) (hgd : o.guard = none)
    (ho : o.op = .call { callee := .builtin .append, args := #[s, x], argTypes := #[86, 86] })
    (w w1 : World) (v : Value) (n : Nat) (xs : List Value) (y : Value) (h1 : y.oneCell' = true) (hP : w1.ownsRow w.heap.size 20 1 v n xs) (hX : Ext w w1) (hn : n ≤ 1000)
    (H : Nat) (hH : w1.heap.size = H) (hs : a.eval s = v) (hx : a.eval x = .slice (some ⟨H, 0, none⟩) 1 1)
    (h : ∀ g c w', w'.ownsRow w.heap.size 20 1 (.slice (some ⟨g, 0, none⟩) (n + 1) c) (n + 1) (xs ++ [y]) → Ext w w' → wpList Try.prog ops Q rest (a.put o.dst (.slice (some ⟨g, 0, none⟩) (n + 1) c)) w') :
    wpList Try.prog ops Q (o :: rest) a (w1.alloc (.cells #[y] 20)) := by
  obtain ⟨i0, hi, hz0, hz1, hz2⟩ := info_parts Try.infoIface
  subst hH
  have EX : Ext w1 (w1.alloc (.cells #[y] 20)) := (Ext.refl w1).alloc _
  refine wpList_append_lies _ hgd s x 86 ho w.heap.size 20 i0 .nilIface 1 16 Try.underlying86 hi hz0 hz1 hz2 rfl (by decide) v n xs hs (ownsRow_ext hP EX)
    ⟨w1.heap.size, 0, none⟩ 1 1 [y] hx rfl (cell_one_new _ _ _) (by intro u hu; simp at hu; subst hu; exact h1) (by decide) (by unfold maxLen; omega) (by omega) (by have := hX.size; simp; omega) (w1.heap.size + 1) (by simp) ?_
  intro g c w' hown hgrow hat hlt
  exact h g c w' hown ((Ext.trans hX EX).grown hgrow (Ext.trans hX EX).size (fun k hk => (hP.lt k hk).1))

set_option maxRecDepth 20000 in
set_option maxHeartbeats 2000000 in
theorem trail_any (q : List (Option Step)) (hq0 : 0 < q.length) (hq : q.length ≤ 4) (b o c : Nat) (w : World) (h : QAt w b o q) : Calls Try.prog 62 #[.slice (some ⟨b, o, none⟩) q.length c] w (TrPost q w) := by
  have HQ := Lib.hid h
  clear h
  go_enter Try.func62, Try.ntmps62
  go_wp2
  go_loopw [4, 10] (fun v i wr => ∃ m : Nat, m ≤ q.length ∧ i = .int .i64 m ∧ wr.ownsRow w.heap.size 20 1 v m ((q.take m).map ival) ∧ Ext w wr) (fun _ i _ => q.length - (intOf i).toNat)
  case atStart => exact ⟨0, Nat.zero_le _, rfl, ⟨by simp, Or.inr ⟨w.heap.size, 0, #[], rfl, Nat.le_refl _, heap_alloc_new w _, Nat.le_refl _, by unfold maxLen; omega, rfl, by simp⟩⟩, (Ext.refl _).alloc _⟩
  case round =>
    obtain ⟨m, hm, rfl, ho, hx⟩ := hrel
    have HO := Lib.hid ho
    have HX := Lib.hid hx
    clear ho hx
    by_cases hlt : m < q.length
    · obtain ⟨cs, hcs0, hqf0⟩ := HQ.out m hlt
      have hcs := hcs0.keep HX.out.keep
      have hqf := hqf0.keep HX.out.keep
      have HT := Lib.hid (take_map_snoc ival q m hlt)
      have X1 : Hid (∀ o, Ext wr (wr.alloc o)) := fun o => (Ext.refl wr).alloc o
      clear hcs0 hqf0
      generalize q[m] = x at hqf HT
      have hm1 : (m : Int) < (q.length : Int) := by omega
      rcases x with _ | ⟨st | n⟩
      · obtain ⟨s, ca, cl, cc, es, rfl, al, ll, lc, op, vk, vn, vf, vs, val, vll, vlc, vak, vkl, vkc, ap, pl, pc, aq, ql, qc, rfl⟩ := hqf
        have e0 := hcs 0 (by simp)
        have e1 := hcs 1 (by simp)
        have e2 := hcs 2 (by simp)
        have e3 := hcs 3 (by simp)
        have e4 := hcs 4 (by simp)
        have e5 := hcs 5 (by simp)
        have e6 := hcs 6 (by simp)
        have e7 := hcs 7 (by simp)
        have e8 := hcs 8 (by simp)
        have e9 := hcs 9 (by simp)
        have e10 := hcs 10 (by simp)
        have e11 := hcs 11 (by simp)
        have e12 := hcs 12 (by simp)
        simp only [List.getElem_cons_zero, List.getElem_cons_succ, Nat.add_zero] at e0 e1 e2 e3 e4 e5 e6 e7 e8 e9 e10 e11 e12
        clear hcs
        go_wp2_with (at_builtin; refine wpList_ipush (.tmp 46) (.tmp 47) rfl rfl w (wr.alloc _) u4 m ((q.take m).map ival) _ rfl (ownsRow_ext HO.out (X1.out _)) (Ext.trans HX.out (X1.out _)) (by omega) (wr.heap.size + 1) (by simp) rfl rfl ?_; intro g9 c9 w9 hown9 hx9; have HO9 := Lib.hid hown9; have HX9 := Lib.hid hx9; clear hown9 hx9)
        go_roundw
        case rel => exact ⟨m + 1, by omega, by go_num, by rw [HT.out]; exact HO9.out, HX9.out⟩
        case measure => simp [intOf]; omega
      · obtain ⟨ca, cl, cc, es, rfl, al, ll, lc, op, vk, vn, vf, vs, val, vll, vlc, vak, vkl, vkc, ap, pl, pc, aq, ql, qc, rfl⟩ := hqf
        have e0 := hcs 0 (by simp)
        have e1 := hcs 1 (by simp)
        have e2 := hcs 2 (by simp)
        have e3 := hcs 3 (by simp)
        have e4 := hcs 4 (by simp)
        have e5 := hcs 5 (by simp)
        have e6 := hcs 6 (by simp)
        have e7 := hcs 7 (by simp)
        have e8 := hcs 8 (by simp)
        have e9 := hcs 9 (by simp)
        have e10 := hcs 10 (by simp)
        have e11 := hcs 11 (by simp)
        have e12 := hcs 12 (by simp)
        simp only [List.getElem_cons_zero, List.getElem_cons_succ, Nat.add_zero] at e0 e1 e2 e3 e4 e5 e6 e7 e8 e9 e10 e11 e12
        clear hcs
        go_wp2_with (at_builtin; refine wpList_ipush (.tmp 18) (.tmp 22) rfl rfl w (wr.alloc _) u4 m ((q.take m).map ival) _ rfl (ownsRow_ext HO.out (X1.out _)) (Ext.trans HX.out (X1.out _)) (by omega) (wr.heap.size + 1) (by simp) rfl rfl ?_; intro g9 c9 w9 hown9 hx9; have HO9 := Lib.hid hown9; have HX9 := Lib.hid hx9; clear hown9 hx9)
        go_roundw
        case rel => exact ⟨m + 1, by omega, by go_num, by rw [HT.out]; exact HO9.out, HX9.out⟩
        case measure => simp [intOf]; omega
      · obtain ⟨s, cb, co, cc, es, rfl, ⟨al, ll, lc, op, vk, vn, vf, vs, val, vll, vlc, vak, vkl, vkc, ap, pl, pc, aq, ql, qc, rfl⟩, hn, hc1⟩ := hqf
        have hcb := lt_of_cell hn
        simp only at hcb
        have e0 := hcs 0 (by simp)
        have e1 := hcs 1 (by simp)
        have e2 := hcs 2 (by simp)
        have e3 := hcs 3 (by simp)
        have e4 := hcs 4 (by simp)
        have e5 := hcs 5 (by simp)
        have e6 := hcs 6 (by simp)
        have e7 := hcs 7 (by simp)
        have e8 := hcs 8 (by simp)
        have e9 := hcs 9 (by simp)
        have e10 := hcs 10 (by simp)
        have e11 := hcs 11 (by simp)
        have e12 := hcs 12 (by simp)
        simp only [List.getElem_cons_zero, List.getElem_cons_succ, Nat.add_zero] at e0 e1 e2 e3 e4 e5 e6 e7 e8 e9 e10 e11 e12
        clear hcs
        go_wp2_with (at_builtin; refine wpList_ipush (.tmp 34) (.tmp 40) rfl rfl w (wr.alloc _) u4 m ((q.take m).map ival) _ rfl (ownsRow_ext HO.out (X1.out _)) (Ext.trans HX.out (X1.out _)) (by omega) (wr.heap.size + 1) (by simp) rfl rfl ?_; intro g9 c9 w9 hown9 hx9; have HO9 := Lib.hid hown9; have HX9 := Lib.hid hx9; clear hown9 hx9)
        go_roundw
        case rel => exact ⟨m + 1, by omega, by go_num, by rw [HT.out]; exact HO9.out, HX9.out⟩
        case measure => simp [intOf]; omega
    · have hme : m = q.length := by omega
      subst hme
      rw [List.take_length] at HO
      go_wp2
      go_ret2
      rcases HO.out.2 with ⟨rfl, h0⟩ | ⟨g, cap, cur, rfl, hb, hh, hc, rest⟩
      · omega
      · refine ⟨g, cap, rfl, hc, fun i hi => ?_, HX.out⟩
        have := HO.out.cells (g := g) rfl i (ival q[i]) (by rw [List.getElem?_map, List.getElem?_eq_getElem hi]; rfl)
        rw [Addr.add_lit, Nat.zero_add] at this
        exact this
end Go.Proofs.Ytikpedfggbibpaa
namespace Go.Proofs.Ytikpedfggbibpaa
open Go.RowKit Go.Lib
set_option linter.unusedVariables false
set_option linter.unusedSimpArgs false

set_option maxRecDepth 100000 in
set_option maxHeartbeats 8000000 in
theorem implDiff1 (q : List (Option Step)) (hq0 : 0 < q.length) (hq4 : q.length ≤ 4) (a b : J) (ha : a.ok) (han : a.nofl) (hb : b.ok) (hbn : b.nofl) (hsa : a.nodes ≤ 1000) (hsb : b.nodes ≤ 1000) (hgn : IgOk (some q)) (hev : evenF (a.nodes + b.nodes) a b) (bi oi ci bq oq cq : Nat) (va vb : Value) (w : World) (hI : w.cell? ⟨bi, oi, none⟩ = some (.slice (some ⟨bq, oq, none⟩) q.length cq)) (hQ : QAt w bq oq q) (h1 : RV w (V.ofJ a) va) (h2 : RV w (V.ofJ b) vb) :
    Calls Try.prog 21 #[va, vb, .slice (some ⟨bi, oi, none⟩) 1 ci, .bool false] w (IDPost (some q) a b w) := by
  have HRF : Hid (∀ w1, Keep w w1 → Calls Try.prog 37 #[va] w1 (Gives (.bool true) w1)) := fun w1 hk => right_any a.nodes a (Nat.le_refl _) ha va w1 (RV.keep hk _ h1)
  have HRT : Hid (∀ w1, Keep w w1 → Calls Try.prog 37 #[vb] w1 (Gives (.bool true) w1)) := fun w1 hk => right_any b.nodes b (Nat.le_refl _) hb vb w1 (RV.keep hk _ h2)
  have HBF : Hid (∀ w1, Keep w w1 → Calls Try.prog 38 #[va] w1 (Gives (.bool false) w1)) := fun w1 hk => big_any a.nodes a (Nat.le_refl _) va w1 (RV.keep hk _ h1)
  have HBT : Hid (∀ w1, Keep w w1 → Calls Try.prog 38 #[vb] w1 (Gives (.bool false) w1)) := fun w1 hk => big_any b.nodes b (Nat.le_refl _) vb w1 (RV.keep hk _ h2)
  have HPF : Hid (∀ w1, Keep w w1 → Calls Try.prog 40 #[va] w1 (PlainPost a w1)) := fun w1 hk => plain_any a.nodes a (Nat.le_refl _) ha va w1 (RV.keep hk _ h1)
  have HPT : Hid (∀ w1, Keep w w1 → Calls Try.prog 40 #[vb] w1 (PlainPost b w1)) := fun w1 hk => plain_any b.nodes b (Nat.le_refl _) hb vb w1 (RV.keep hk _ h2)
  have HM : Hid (∀ x y vg w1, RA w1 0 a x → RA w1 0 b y → IgAt w1 vg (some q) → Calls Try.prog 65 #[x, y, vg] w1 (DiffPost (a.nodes + b.nodes) (some q) a b w1)) := fun x y vg w1 hx hy hg => altDiff_any a b ha han hb hbn hsa hsb (some q) hgn (Or.inr hev) x y vg w1 hx hy hg
  have HBN : Hid (a.ok ∧ b.ok ∧ a.nodes ≤ 1000 ∧ b.nodes ≤ 1000) := ⟨ha, hb, hsa, hsb⟩
  obtain ⟨fk, fn, ff, fs, fal, fll, flc, fak, fkl, fkc, rfl⟩ := h1.sh
  obtain ⟨tk, tn, tf, ts, tal, tll, tlc, tak, tkl, tkc, rfl⟩ := h2.sh
  have HTR : Hid (∀ w1, Keep w w1 → Calls Try.prog 62 #[.slice (some ⟨bq, oq, none⟩) q.length cq] w1 (TrPost q w1)) := fun w1 hk => trail_any q hq0 hq4 bq oq cq w1 (hQ.keep hk)
  have HI := Lib.hid hI
  have HQ0 : Hid (0 < q.length ∧ q.length ≤ 4) := ⟨hq0, hq4⟩
  obtain ⟨i0, hii, hz0, hz1, hz2⟩ := info_parts Try.infoAPath
  clear h1 h2 ha han hb hbn hsa hsb hI hQ hgn hev hq0 hq4
  go_enter Try.func21, Try.ntmps21
  have K0 : Hid (Keep w ((w.alloc (.cells #[.int .i64 fk, .int .i64 fn, .float .f64 ff, .string fs, .slice fal fll flc, .slice fak fkl fkc] 26)).alloc (.cells #[.int .i64 tk, .int .i64 tn, .float .f64 tf, .string ts, .slice tal tll tlc, .slice tak tkl tkc] 26))) := (Keep.alloc _ _).trans (Keep.alloc _ _)
  have T0 : Hid (Two w ((w.alloc (.cells #[.int .i64 fk, .int .i64 fn, .float .f64 ff, .string fs, .slice fal fll flc, .slice fak fkl fkc] 26)).alloc (.cells #[.int .i64 tk, .int .i64 tn, .float .f64 tf, .string ts, .slice tal tll tlc, .slice tak tkl tkc] 26)) _ _ _ _ _ _ _ _ _ _ _ _) := Two.of (Keep.refl _)
  have X0 : Hid (Ext w ((w.alloc (.cells #[.int .i64 fk, .int .i64 fn, .float .f64 ff, .string fs, .slice fal fll flc, .slice fak fkl fkc] 26)).alloc (.cells #[.int .i64 tk, .int .i64 tn, .float .f64 tf, .string ts, .slice tal tll tlc, .slice tak tkl tkc] 26))) := ((Ext.refl _).alloc _).alloc _
  go_wp2_with (go_at_call 37; refine (HRF.out _ K0.out).mono ?_; rintro e w1 ⟨rfl, hb1⟩; have K1 : Hid (Keep w w1) := K0.out.trans hb1.keep; have X1 : Hid (Ext w w1) := X0.out.trans hb1; have T1 : Hid (Two w w1 _ _ _ _ _ _ _ _ _ _ _ _) := T0.out.keep hb1.keep; obtain ⟨a0, a1, a2, a3, a4, a5, e0, e1, e2, e3, e4, e5⟩ := T1.out; clear hb1 HRF K0 T0 X0)
  go_wp2_with (go_at_call 37; refine (HRT.out _ K1.out).mono ?_; rintro e w2 ⟨rfl, hb1⟩; have K2 : Hid (Keep w w2) := K1.out.trans hb1.keep; have X2 : Hid (Ext w w2) := X1.out.trans hb1; have T2 : Hid (Two w w2 _ _ _ _ _ _ _ _ _ _ _ _) := T1.out.keep hb1.keep; clear a0 a1 a2 a3 a4 a5 e0 e1 e2 e3 e4 e5; obtain ⟨a0, a1, a2, a3, a4, a5, e0, e1, e2, e3, e4, e5⟩ := T2.out; clear hb1 HRT K1 T1 X1)
  go_wp2_with (go_at_call 38; refine (HBF.out _ K2.out).mono ?_; rintro e w3 ⟨rfl, hb1⟩; have K3 : Hid (Keep w w3) := K2.out.trans hb1.keep; have X3 : Hid (Ext w w3) := X2.out.trans hb1; have T3 : Hid (Two w w3 _ _ _ _ _ _ _ _ _ _ _ _) := T2.out.keep hb1.keep; clear a0 a1 a2 a3 a4 a5 e0 e1 e2 e3 e4 e5; obtain ⟨a0, a1, a2, a3, a4, a5, e0, e1, e2, e3, e4, e5⟩ := T3.out; clear hb1 HBF K2 T2 X2)
  go_wp2_with (go_at_call 38; refine (HBT.out _ K3.out).mono ?_; rintro e wA ⟨rfl, hb1⟩; have KA : Hid (Keep w wA) := K3.out.trans hb1.keep; have XA : Hid (Ext w wA) := X3.out.trans hb1; have TA : Hid (Two w wA _ _ _ _ _ _ _ _ _ _ _ _) := T3.out.keep hb1.keep; clear a0 a1 a2 a3 a4 a5 e0 e1 e2 e3 e4 e5; clear hb1 HBT K3 T3 X3)
  have hI4 := KA.out _ _ HI.out
  refine wp_loop_rounds 2 ?_
  rw [rounds_succ]
  go_wp2_with (first
    | (go_at_call 62; refine (HTR.out _ KA.out).mono ?_; rintro e wB ⟨bt, ct, rfl, hct, hcells, hxB⟩; have HCT := Lib.hid hct; have HCE := Lib.hid hcells; have HXB := Lib.hid hxB; clear hct hcells hxB hI4)
    | (at_builtin; refine wpList_append_lies _ rfl (.tmp 47) (.tmp 49) 84 rfl wB.heap.size 86 i0 (.slice none 0 0) 1 24 Try.underlying84 hii hz0 hz1 hz2 rfl (by decide) (.slice none 0 0) 0 [] rfl (World.ownsRow_nil _ _ _ _) ⟨wB.heap.size, 0, none⟩ 1 1 [.slice (some ⟨bt, 0, none⟩) q.length ct] rfl rfl (cell_one_new _ _ _) (by intro u hu; simp at hu; subst hu; rfl) (by decide) (by unfold maxLen; omega) (by omega) (by simp) (wB.heap.size + 1) (by simp) ?_
       intro g9 c9 w4 hown hgrow hat hlt
       have hx4 : Ext wB w4 := ((Ext.refl wB).alloc (.cells #[.slice (some ⟨bt, 0, none⟩) q.length ct] 86)).grown hgrow (by simp) (fun k hk => by cases hk)
       have hc4 := hown.cells (g := g9) rfl 0 _ rfl
       rw [Addr.add_lit, Nat.zero_add] at hc4
       have HG : Hid (IgAt w4 (.slice (some ⟨g9, 0, none⟩) (0 + 1) c9) (some q)) := ⟨g9, 0, c9, bt, 0, ct, rfl, hc4, HCT.out, HQ0.out.1, HQ0.out.2, fun i hi => by rw [Nat.zero_add]; exact hx4.keep _ _ (HCE.out i hi)⟩
       have K4 : Hid (Keep w w4) := KA.out.trans (HXB.out.trans hx4).keep
       have X4 : Hid (Ext w w4) := XA.out.trans (HXB.out.trans hx4)
       have T4 : Hid (Two w w4 _ _ _ _ _ _ _ _ _ _ _ _) := TA.out.keep (HXB.out.trans hx4).keep
       obtain ⟨a0, a1, a2, a3, a4, a5, e0, e1, e2, e3, e4, e5⟩ := T4.out
       clear hown hgrow hat hlt hx4 hc4 HCT HCE HXB KA XA TA))
  rw [rounds_succ]
  go_wp2_with fail
  go_region_held3 (fun w' => w'.cell? ⟨w.heap.size, 0, none⟩ = some (.int .i64 fk) ∧ w'.cell? ⟨w.heap.size, 1, none⟩ = some (.int .i64 fn) ∧ w'.cell? ⟨w.heap.size, 2, none⟩ = some (.float .f64 ff) ∧ w'.cell? ⟨w.heap.size, 3, none⟩ = some (.string fs) ∧ w'.cell? ⟨w.heap.size, 4, none⟩ = some (.slice fal fll flc) ∧ w'.cell? ⟨w.heap.size, 5, none⟩ = some (.slice fak fkl fkc) ∧ w'.cell? ⟨w.heap.size + 1, 0, none⟩ = some (.int .i64 tk) ∧ w'.cell? ⟨w.heap.size + 1, 1, none⟩ = some (.int .i64 tn) ∧ w'.cell? ⟨w.heap.size + 1, 2, none⟩ = some (.float .f64 tf) ∧ w'.cell? ⟨w.heap.size + 1, 3, none⟩ = some (.string ts) ∧ w'.cell? ⟨w.heap.size + 1, 4, none⟩ = some (.slice tal tll tlc) ∧ w'.cell? ⟨w.heap.size + 1, 5, none⟩ = some (.slice tak tkl tkc))
    (first
      | (go_split_ands
         with_reducible exact ⟨hk7.get a0, hk7.get a1, hk7.get a2, hk7.get a3, hk7.get a4, hk7.get a5, hk7.get e0, hk7.get e1, hk7.get e2, hk7.get e3, hk7.get e4, hk7.get e5⟩)
      | (go_split_ands
         with_reducible exact ⟨hk6.get a0, hk6.get a1, hk6.get a2, hk6.get a3, hk6.get a4, hk6.get a5, hk6.get e0, hk6.get e1, hk6.get e2, hk6.get e3, hk6.get e4, hk6.get e5⟩)
      | (go_split_ands
         with_reducible exact ⟨hk5.get a0, hk5.get a1, hk5.get a2, hk5.get a3, hk5.get a4, hk5.get a5, hk5.get e0, hk5.get e1, hk5.get e2, hk5.get e3, hk5.get e4, hk5.get e5⟩)
      | (go_split_ands
         exact ⟨a0, a1, a2, a3, a4, a5, e0, e1, e2, e3, e4, e5⟩))
    (first
      | (go_at_call 40; refine (HPF.out _ (by first | exact K4.out | exact K4.out.trans (Keep.drew _))).mono ?_; rintro e w5 ⟨x, rfl, hx, hb5⟩
         have hb5c : Ext w4 w5 := by first | exact hb5 | exact Ext.trans (Ext.drew (Ext.refl w4)) hb5
         have hk5 := hb5c.keep
         have HA := Lib.hid hx
         have B5 := Lib.hid hb5c
         clear hx hb5 hb5c HPF)
      | (go_at_call 40; refine (HPT.out _ (K4.out.trans hk5)).mono ?_; rintro e w6 ⟨y, rfl, hy, hb6⟩
         have HA6 := Lib.hid (RA.keep (hb6.keepB.from _) (Nat.zero_le _) _ HA.out)
         have HB := Lib.hid (RA.keep (KeepB.from (fun _ _ => rfl) _) (Nat.zero_le _) _ hy)
         have B6 := Lib.hid (Ext.trans B5.out hb6)
         have hk6 := B6.out.keep
         clear hy hb6 HPT HA)
      | (go_at_call 65; refine (HM.out _ _ _ _ HA6.out HB.out (HG.out.keep hk6)).mono ?_; rintro e w7 ⟨v, D, rfl, hp, hd, hb7⟩
         obtain ⟨ad, cd, rfl, hsh⟩ := hd.shape
         have HSH := Lib.hid hsh
         have HPD := Lib.hid hp
         have HDD := Lib.hid hd
         have B7 := Lib.hid (Ext.trans B6.out hb7)
         have hk7 := B7.out.keep
         clear hsh hp hd hb7 HM HA6 HB))
  have X7 : Hid (Ext w w7) := Ext.trans X4.out B7.out
  have hbd : D.length ≤ 2000 ∧ (∀ d ∈ D, d.2.2.length ≤ 100000) := by
    have h1 := HPD.out.length_eq
    rw [List.length_map] at h1
    obtain ⟨b1, b2, b3, b4⟩ := HBN.out
    have h2 := difF_len_le (a.nodes + b.nodes) a b (some q) b1 b2
    refine ⟨by omega, fun d hd => ?_⟩
    have h7 := difF_path_le (a.nodes + b.nodes) a b (some q) b1 b2 d.2.2 (HPD.out.mem_iff.1 (List.mem_map.2 ⟨d, hd, rfl⟩))
    omega
  have hDl : D.length ≤ 2000 := hbd.1
  have HPL : Hid (∀ d ∈ D, d.2.2.length ≤ 100000) := hbd.2
  clear hbd hk5 hk6 hk7 a0 a1 a2 a3 a4 a5 e0 e1 e2 e3 e4 e5 K4 T4 X4 B5 B6 B7
  go_wp2
  go_loopw [8, 74] (fun o i wr => ∃ m : Nat, m ≤ D.length ∧ i = .int .i64 m ∧ PLs GP wr w7.heap.size o ((D.take m).map (·.2.2)) ∧ Ext w7 wr) (fun _ i _ => D.length - (intOf i).toNat)
  case atStart => exact ⟨0, Nat.zero_le _, rfl, PLs.nil _ _ _, Ext.refl _⟩
  case round =>
    obtain ⟨m, hm, rfl, hpl, hx⟩ := hrel
    have HP := Lib.hid hpl
    have HX := Lib.hid hx
    clear hpl hx
    by_cases hlt : m < D.length
    · obtain ⟨d, hd⟩ : ∃ d, D[m]? = some d := ⟨D[m], List.getElem?_eq_getElem hlt⟩
      have hD0 : D ≠ [] := fun e => by rw [e] at hlt; simp at hlt
      obtain ⟨gd, cur, rfl, _, hrow⟩ := HSH.out hD0
      have hcell := HX.out.keep _ _ (hrow m d hd)
      have hap := ((HDD.out.all d (by simpa using List.mem_of_getElem? hd)).2).ext HX.out
      have HT := Lib.hid (trailOf_any d (HPL.out d (List.mem_of_getElem? hd)) wr hap)
      have HTK := Lib.hid (take_map_succ hd)
      have hl : ((D.take m).map (·.2.2)).length = m := by rw [List.length_map, List.length_take]; omega
      have HL := Lib.hid hl
      have hdv : ∃ ad2 nd2 cd2, dval d = .slice ad2 nd2 cd2 := ⟨_, _, _, rfl⟩
      clear hrow hap hd hD0 hl
      generalize dval d = dv at hcell HT hdv
      obtain ⟨ad2, nd2, cd2, rfl⟩ := hdv
      go_wp2_with (first
        | (go_at_call 64; refine (HT.out).mono ?_; rintro e w8 ⟨u, rfl, hu, hx8⟩
           obtain ⟨ua, un, uc, rfl⟩ := GP.pq.shape hu
           have HU := Lib.hid hu
           have HX8 := Lib.hid hx8
           clear hu hx8 HT)
        | (at_builtin; refine wpList_place GP.pq (.tmp 78) (.tmp 81) rfl rfl w7 w8 u8 _ ((D.take m).map (·.2.2)) d.2.2 (HP.out.ext GP.pq HX8.out) HU.out (Ext.trans HX.out HX8.out) (by rw [HL.out]; omega) w8.heap.size rfl rfl rfl ?_; intro g9 c9 w9 hp9 hx9; have HP9 := Lib.hid hp9; have HX9 := Lib.hid hx9; clear hp9 hx9))
      go_roundw
      case rel => exact ⟨m + 1, by omega, by go_num, by rw [HTK.out]; have h9 := HP9.out; rwa [HL.out] at h9, HX9.out⟩
      case measure => simp [intOf]; omega
    · have hme : m = D.length := by omega
      subst hme
      have HF : Hid (PLs GP wr w7.heap.size u8 (D.map (·.2.2))) := by have := HP.out; rwa [List.take_length] at this
      clear HP
      go_wp2
      go_ret2
      exact ⟨_, _, rfl, HPD.out, HF.out.base X7.out.size, Ext.trans X7.out HX.out⟩
end Go.Proofs.Ytikpedfggbibpaa
namespace Go.Proofs.Ytikpedfggbibpaa
open Go.RowKit Go.Lib
set_option linter.unusedVariables false
set_option linter.unusedSimpArgs false

set_option maxRecDepth 20000 in
set_option maxHeartbeats 1000000 in
/-- slices.Equal of numbers, one each, wherever they lie -/
theorem equal_at (b1 b2 o1 o2 c1 c2 : Nat) (n1 n2 : Int) (w : World) (h1 : w.cell? ⟨b1, o1, none⟩ = some (.int .i64 n1)) (h2 : w.cell? ⟨b2, o2, none⟩ = some (.int .i64 n2)) :
    Calls Try.prog 95 #[.slice (some ⟨b1, o1, none⟩) 1 c1, .slice (some ⟨b2, o2, none⟩) 1 c2] w (Gives (.bool (decide (n1 = n2))) w) := by
  by_cases hn : n1 = n2
  · subst hn
    go_enter Try.func95, Try.ntmps95
    go_wp2
    refine wp_loop_rounds 2 ?_
    rw [rounds_succ]
    go_wp2
    go_quiet (fail)
    go_wp2
    rw [rounds_succ]
    go_wp2
    go_ret
    exact .mk (by simp) ((Ext.refl _).drewN _)
  · have hne : (n1 == n2) = false := by simp [hn]
    have HN : Hid (¬ n1 = n2) := hn
    go_enter Try.func95, Try.ntmps95
    go_wp2
    refine wp_loop_rounds 2 ?_
    rw [rounds_succ]
    go_wp2
    go_quiet (fail)
    go_wp2
    go_ret
    exact .mk (by simp [HN.out]) ((Ext.refl _).drewN _)

set_option maxRecDepth 20000 in
set_option maxHeartbeats 2000000 in
theorem sameStep_q (s1 s2 : Step) (cs : List Value) (f2 : Fr) (w : World) (h1 : QFr w (some s1) cs) (h2 : FrOk w s2 f2) :
    Calls Try.prog 73 #[.agg cs.toArray,
      .agg #[.int .i64 f2.k, .string f2.s, .slice f2.a f2.l f2.c, .slice none 0 0, .int .i64 0, .int .i64 0, .int .i64 0, .float .f64 0, .string ByteArray.empty, .slice none 0 0, .slice none 0 0, .slice none 0 0, .slice none 0 0]] w (Gives (.bool (s1.eqb s2)) w) := by
  obtain ⟨k2, t2, a2, l2, c2⟩ := f2
  rcases s1 with x1 | x1 <;> rcases s2 with x2 | x2
  · obtain ⟨a, l, c, es, rfl, al, ll, lc, op, vk, vn, vf, vs, val, vll, vlc, vak, vkl, vkc, ap, pl, pc, aq, ql, qc, rfl⟩ := h1
    obtain ⟨rfl, rfl⟩ := h2
    by_cases hx : x1 = t2
    · subst hx
      go_enter Try.func73, Try.ntmps73
      go_wp2
      go_ret
      exact .mk (by simp [Step.eqb]) (((Ext.refl _).alloc _).alloc _)
    · go_enter Try.func73, Try.ntmps73
      go_wp2
      all_goals go_ret
      all_goals exact .mk (by simp_all [Step.eqb, bytes_eq, bytes_beq]) (((Ext.refl _).alloc _).alloc _)
  · obtain ⟨a, l, c, es, rfl, al, ll, lc, op, vk, vn, vf, vs, val, vll, vlc, vak, vkl, vkc, ap, pl, pc, aq, ql, qc, rfl⟩ := h1
    obtain ⟨h2, _⟩ := h2
    simp only at h2
    subst h2
    go_enter Try.func73, Try.ntmps73
    go_wp2
    go_ret
    exact .mk (by simp [Step.eqb]) (((Ext.refl _).alloc _).alloc _)
  · obtain ⟨s, b1, o1, c, es, rfl, ⟨al, ll, lc, op, vk, vn, vf, vs, val, vll, vlc, vak, vkl, vkc, ap, pl, pc, aq, ql, qc, rfl⟩, h5, h6⟩ := h1
    obtain ⟨rfl, rfl⟩ := h2
    clear h5 h6
    go_enter Try.func73, Try.ntmps73
    go_wp2
    go_ret
    exact .mk (by simp [Step.eqb]) (((Ext.refl _).alloc _).alloc _)
  · obtain ⟨s, b1, o1, c, es, rfl, ⟨al, ll, lc, op, vk, vn, vf, vs, val, vll, vlc, vak, vkl, vkc, ap, pl, pc, aq, ql, qc, rfl⟩, h5, h6⟩ := h1
    obtain ⟨h7, h8, b2, h9, h10⟩ := h2
    simp only at h7 h8 h9
    subst h7 h8 h9
    have HE : Hid (∀ w1, Ext w w1 → Calls Try.prog 95 #[.slice (some ⟨b1, o1, none⟩) 1 c, .slice (some ⟨b2, 0, none⟩) 1 c2] w1 (Gives (.bool (decide (x1 = x2))) w1)) := fun w1 hx =>
      equal_at b1 b2 o1 0 c c2 x1 x2 w1 (hx.keep _ _ h5) (hx.keep _ _ ((cell_of_row _ _ _ _ _ _ h10).trans rfl))
    clear h5 h6 h10
    generalize hr : decide (x1 = x2) = r at HE
    have HR := Lib.hid hr
    clear hr
    go_enter Try.func73, Try.ntmps73
    go_wp2_with (go_at_call 95; refine (HE.out _ (((Ext.refl _).alloc _).alloc _)).mono ?_; rintro e w1 ⟨rfl, hx1⟩; have HX := Lib.hid hx1; clear hx1 HE; cases r)
    all_goals go_ret
    all_goals exact .mk (by simp [Step.eqb, HR.out]) ((((Ext.refl _).alloc _).alloc _).trans HX.out)

theorem cov1_long : ∀ (q : List (Option Step)) (p : List Step), p.length < q.length → cov1 q p = false
  | [], _, h => by simp at h
  | _ :: _, [], _ => rfl
  | x :: r, st :: p, h => by rw [cov1, cov1_long r p (by simpa using h), Bool.and_false]
theorem cov1_drop (q : List (Option Step)) (p : List Step) (m : Nat) (h1 : m < q.length) (h2 : m < p.length) : cov1 (q.drop m) (p.drop m) = (igM q[m] p[m] && cov1 (q.drop (m + 1)) (p.drop (m + 1))) := by
  rw [List.drop_eq_getElem_cons h1, List.drop_eq_getElem_cons h2, cov1]
theorem cov1_end (q : List (Option Step)) (p : List Step) (m : Nat) (h : q.length ≤ m) : cov1 (q.drop m) (p.drop m) = true := by
  rw [List.drop_eq_nil_of_le h, cov1]
/- coversPlace -/
set_option maxRecDepth 100000 in
set_option maxHeartbeats 8000000 in
/-- coversPlace: the steps of an ignored path, or wildcards, are those of a place -/
theorem coversPlace_any (q : List (Option Step)) (hq0 : 0 < q.length) (hq4 : q.length ≤ 4) (p : List Step) (hp : p.length ≤ 1000000) (bq oq cq : Nat) (vp : Value) (w : World) (hQ : QAt w bq oq q) (hP : PathN w vp p) :
    Calls Try.prog 31 #[.slice (some ⟨bq, oq, none⟩) q.length cq, vp] w (Gives (.bool (cov1 q p)) w) := by
  obtain ⟨pa, pn, pc', rfl⟩ := PathN.pq.shape hP
  have hpn : pn = p.length := by
    obtain ⟨a9, c9, e9, _⟩ := hP.1.sh
    simp only [Value.slice.injEq] at e9
    exact e9.2.1
  subst hpn
  have HQ := Lib.hid hQ
  have HP := Lib.hid hP.1
  clear hQ hP
  have hz : ((q.length : Int) == 0) = false := beq_eq_false_iff_ne.2 (by omega)
  by_cases hlong : p.length < q.length
  · have hl : (p.length : Int) < (q.length : Int) := by omega
    rw [cov1_long q p hlong]
    go_enter Try.func31, Try.ntmps31
    go_wp2
    go_ret
    exact .mk rfl (Ext.refl _)
  · have hl : ¬ (p.length : Int) < (q.length : Int) := by omega
    go_enter Try.func31, Try.ntmps31
    go_wp2
    go_loopw [5] (fun i wr => ∃ m : Nat, m ≤ q.length ∧ i = .int .i64 m ∧ cov1 q p = cov1 (q.drop m) (p.drop m) ∧ Ext w wr) (fun i _ => q.length - (intOf i).toNat)
    case atStart => exact ⟨0, Nat.zero_le _, rfl, rfl, Ext.refl _⟩
    case round =>
      obtain ⟨m, hm, rfl, heq, hx⟩ := hrel
      have HX := Lib.hid hx
      have HEQ := Lib.hid heq
      clear heq hx
      by_cases hlt : m < q.length
      · have hlt2 : m < p.length := by omega
        have hm1 : (m : Int) < (q.length : Int) := by omega
        have hm2 : (m : Int) < (p.length : Int) := by omega
        obtain ⟨b1, cap, f2, e1, F, O, _⟩ := HP.out.frag m hlt2
        simp only [Value.slice.injEq, true_and] at e1
        obtain ⟨rfl, rfl⟩ := e1
        obtain ⟨cs, hcs0, hqf0⟩ := HQ.out m hlt
        have HD := Lib.hid (HEQ.out.trans (cov1_drop q p m hlt hlt2))
        have HS0 : Hid (∀ st, q[m] = some st → ∀ w1, Ext w w1 → Calls Try.prog 73 #[.agg cs.toArray, f2.agg] w1 (Gives (.bool (st.eqb p[m])) w1)) := fun st e w1 hx1 => sameStep_q st p[m] cs f2 w1 (by have := hqf0.keep hx1.keep; rw [e] at this; exact this) (O.ext hx1)
        clear O
        generalize q[m] = x at hqf0 HD HS0
        generalize p[m] = y at HD HS0
        rcases x with _ | st
        · obtain ⟨s, ca, cl, cc, es, rfl, al, ll, lc, op, vk, vn, vf, vs, val, vll, vlc, vak, vkl, vkc, ap, pl, pc, aq, ql, qc, rfl⟩ := hqf0
          have s0 := hcs0.keep HX.out.keep 0 (by simp)
          simp only [List.getElem_cons_zero, Nat.add_zero] at s0
          have lq := lt_of_cell s0
          simp only at lq
          have HC : Hid (cov1 q p = cov1 (q.drop (m + 1)) (p.drop (m + 1))) := by rw [HD.out]; rfl
          clear hcs0 F HS0
          go_wp2
          go_quiet (fail)
          go_wp2
          go_roundw
          case rel => exact ⟨m + 1, by omega, by go_num, HC.out, by first | exact HX.out.drewN _ | exact HX.out⟩
          case measure => simp [intOf]; omega
        have HS := Lib.hid (HS0.out st rfl)
        have HR0 : Hid (igM (some st) y = st.eqb y) := rfl
        obtain ⟨fk, ft, fa, fl, fc⟩ := f2
        simp only [Fr.agg] at HS
        generalize hr : st.eqb y = r at HS HR0
        have HR := HR0
        clear HS0 HR0 hr
        rcases st with t0 | n0
        · obtain ⟨ca, cl, cc, es, rfl, al, ll, lc, op, vk, vn, vf, vs, val, vll, vlc, vak, vkl, vkc, ap, pl, pc, aq, ql, qc, rfl⟩ := hqf0
          have s0 := hcs0 0 (by simp)
          have s1 := hcs0 1 (by simp)
          have s2 := hcs0 2 (by simp)
          have s3 := hcs0 3 (by simp)
          have s4 := hcs0 4 (by simp)
          have s5 := hcs0 5 (by simp)
          have s6 := hcs0 6 (by simp)
          have s7 := hcs0 7 (by simp)
          have s8 := hcs0 8 (by simp)
          have s9 := hcs0 9 (by simp)
          have s10 := hcs0 10 (by simp)
          have s11 := hcs0 11 (by simp)
          have s12 := hcs0 12 (by simp)
          simp only [List.getElem_cons_zero, List.getElem_cons_succ, Nat.add_zero] at s0 s1 s2 s3 s4 s5 s6 s7 s8 s9 s10 s11 s12
          have s13 := F.h0
          have s14 := F.h1
          have s15 := F.h2
          have s16 := F.h3
          have s17 := F.h4
          have s18 := F.h5
          have s19 := F.h6
          have s20 := F.h7
          have s21 := F.h8
          have s22 := F.h9
          have s23 := F.h10
          have s24 := F.h11
          have s25 := F.h12
          simp only at s13 s14 s15
          have r0 := HX.out.get s0
          have r1 := HX.out.get s1
          have r2 := HX.out.get s2
          have r3 := HX.out.get s3
          have r4 := HX.out.get s4
          have r5 := HX.out.get s5
          have r6 := HX.out.get s6
          have r7 := HX.out.get s7
          have r8 := HX.out.get s8
          have r9 := HX.out.get s9
          have r10 := HX.out.get s10
          have r11 := HX.out.get s11
          have r12 := HX.out.get s12
          have r13 := HX.out.get s13
          have r14 := HX.out.get s14
          have r15 := HX.out.get s15
          have r16 := HX.out.get s16
          have r17 := HX.out.get s17
          have r18 := HX.out.get s18
          have r19 := HX.out.get s19
          have r20 := HX.out.get s20
          have r21 := HX.out.get s21
          have r22 := HX.out.get s22
          have r23 := HX.out.get s23
          have r24 := HX.out.get s24
          have r25 := HX.out.get s25
          have d0 : wr.drew.cell? ⟨bq, oq + m * 13, none⟩ = some (.int .i64 3) := r0
          have d1 : wr.drew.cell? ⟨bq, oq + m * 13 + 1, none⟩ = some (.string t0) := r1
          have d2 : wr.drew.cell? ⟨bq, oq + m * 13 + 2, none⟩ = some (.slice ca cl cc) := r2
          have d3 : wr.drew.cell? ⟨bq, oq + m * 13 + 3, none⟩ = some (.slice al ll lc) := r3
          have d4 : wr.drew.cell? ⟨bq, oq + m * 13 + 4, none⟩ = some (.int .i64 op) := r4
          have d5 : wr.drew.cell? ⟨bq, oq + m * 13 + 5, none⟩ = some (.int .i64 vk) := r5
          have d6 : wr.drew.cell? ⟨bq, oq + m * 13 + 6, none⟩ = some (.int .i64 vn) := r6
          have d7 : wr.drew.cell? ⟨bq, oq + m * 13 + 7, none⟩ = some (.float .f64 vf) := r7
          have d8 : wr.drew.cell? ⟨bq, oq + m * 13 + 8, none⟩ = some (.string vs) := r8
          have d9 : wr.drew.cell? ⟨bq, oq + m * 13 + 9, none⟩ = some (.slice val vll vlc) := r9
          have d10 : wr.drew.cell? ⟨bq, oq + m * 13 + 10, none⟩ = some (.slice vak vkl vkc) := r10
          have d11 : wr.drew.cell? ⟨bq, oq + m * 13 + 11, none⟩ = some (.slice ap pl pc) := r11
          have d12 : wr.drew.cell? ⟨bq, oq + m * 13 + 12, none⟩ = some (.slice aq ql qc) := r12
          have d13 : wr.drew.cell? ⟨b1, m * 13, none⟩ = some (.int .i64 fk) := r13
          have d14 : wr.drew.cell? ⟨b1, m * 13 + 1, none⟩ = some (.string ft) := r14
          have d15 : wr.drew.cell? ⟨b1, m * 13 + 2, none⟩ = some (.slice fa fl fc) := r15
          have d16 : wr.drew.cell? ⟨b1, m * 13 + 3, none⟩ = some (.slice none 0 0) := r16
          have d17 : wr.drew.cell? ⟨b1, m * 13 + 4, none⟩ = some (.int .i64 0) := r17
          have d18 : wr.drew.cell? ⟨b1, m * 13 + 5, none⟩ = some (.int .i64 0) := r18
          have d19 : wr.drew.cell? ⟨b1, m * 13 + 6, none⟩ = some (.int .i64 0) := r19
          have d20 : wr.drew.cell? ⟨b1, m * 13 + 7, none⟩ = some (.float .f64 0) := r20
          have d21 : wr.drew.cell? ⟨b1, m * 13 + 8, none⟩ = some (.string ByteArray.empty) := r21
          have d22 : wr.drew.cell? ⟨b1, m * 13 + 9, none⟩ = some (.slice none 0 0) := r22
          have d23 : wr.drew.cell? ⟨b1, m * 13 + 10, none⟩ = some (.slice none 0 0) := r23
          have d24 : wr.drew.cell? ⟨b1, m * 13 + 11, none⟩ = some (.slice none 0 0) := r24
          have d25 : wr.drew.cell? ⟨b1, m * 13 + 12, none⟩ = some (.slice none 0 0) := r25
          have lq := lt_of_cell r0
          have lp := lt_of_cell r13
          simp only at lq lp
          clear hcs0 F
          go_wp2_with fail
          go_region_held3 (fun w' => w'.cell? ⟨bq, oq + m * 13, none⟩ = some (.int .i64 3) ∧ w'.cell? ⟨bq, oq + m * 13 + 1, none⟩ = some (.string t0) ∧ w'.cell? ⟨bq, oq + m * 13 + 2, none⟩ = some (.slice ca cl cc) ∧ w'.cell? ⟨bq, oq + m * 13 + 3, none⟩ = some (.slice al ll lc) ∧ w'.cell? ⟨bq, oq + m * 13 + 4, none⟩ = some (.int .i64 op) ∧ w'.cell? ⟨bq, oq + m * 13 + 5, none⟩ = some (.int .i64 vk) ∧ w'.cell? ⟨bq, oq + m * 13 + 6, none⟩ = some (.int .i64 vn) ∧ w'.cell? ⟨bq, oq + m * 13 + 7, none⟩ = some (.float .f64 vf) ∧ w'.cell? ⟨bq, oq + m * 13 + 8, none⟩ = some (.string vs) ∧ w'.cell? ⟨bq, oq + m * 13 + 9, none⟩ = some (.slice val vll vlc) ∧ w'.cell? ⟨bq, oq + m * 13 + 10, none⟩ = some (.slice vak vkl vkc) ∧ w'.cell? ⟨bq, oq + m * 13 + 11, none⟩ = some (.slice ap pl pc) ∧ w'.cell? ⟨bq, oq + m * 13 + 12, none⟩ = some (.slice aq ql qc) ∧ w'.cell? ⟨b1, m * 13, none⟩ = some (.int .i64 fk) ∧ w'.cell? ⟨b1, m * 13 + 1, none⟩ = some (.string ft) ∧ w'.cell? ⟨b1, m * 13 + 2, none⟩ = some (.slice fa fl fc) ∧ w'.cell? ⟨b1, m * 13 + 3, none⟩ = some (.slice none 0 0) ∧ w'.cell? ⟨b1, m * 13 + 4, none⟩ = some (.int .i64 0) ∧ w'.cell? ⟨b1, m * 13 + 5, none⟩ = some (.int .i64 0) ∧ w'.cell? ⟨b1, m * 13 + 6, none⟩ = some (.int .i64 0) ∧ w'.cell? ⟨b1, m * 13 + 7, none⟩ = some (.float .f64 0) ∧ w'.cell? ⟨b1, m * 13 + 8, none⟩ = some (.string ByteArray.empty) ∧ w'.cell? ⟨b1, m * 13 + 9, none⟩ = some (.slice none 0 0) ∧ w'.cell? ⟨b1, m * 13 + 10, none⟩ = some (.slice none 0 0) ∧ w'.cell? ⟨b1, m * 13 + 11, none⟩ = some (.slice none 0 0) ∧ w'.cell? ⟨b1, m * 13 + 12, none⟩ = some (.slice none 0 0))
            (first
              | (go_split_ands
                 with_reducible exact ⟨k5.get s0, k5.get s1, k5.get s2, k5.get s3, k5.get s4, k5.get s5, k5.get s6, k5.get s7, k5.get s8, k5.get s9, k5.get s10, k5.get s11, k5.get s12, k5.get s13, k5.get s14, k5.get s15, k5.get s16, k5.get s17, k5.get s18, k5.get s19, k5.get s20, k5.get s21, k5.get s22, k5.get s23, k5.get s24, k5.get s25⟩)
              | (go_split_ands
                 with_reducible exact ⟨d0, d1, d2, d3, d4, d5, d6, d7, d8, d9, d10, d11, d12, d13, d14, d15, d16, d17, d18, d19, d20, d21, d22, d23, d24, d25⟩)
              | (go_split_ands
                 with_reducible exact ⟨r0, r1, r2, r3, r4, r5, r6, r7, r8, r9, r10, r11, r12, r13, r14, r15, r16, r17, r18, r19, r20, r21, r22, r23, r24, r25⟩)
              | go_keep)
            (first | (go_at_call 73; refine (HS.out _ (by first | exact Ext.drew HX.out | exact HX.out)).mono ?_; rintro e w5 ⟨rfl, hx5⟩; have X5 : Hid (Ext w w5) := (by first | exact Ext.trans (Ext.drew HX.out) hx5 | exact Ext.trans HX.out hx5); have k5 := X5.out.keep; clear hx5))
          cases r
          all_goals go_wp2_with fail
          · go_ret
            exact .mk (congrArg Value.bool (by rw [HD.out, HR.out]; rfl)) X5.out
          · go_roundw
            case rel => exact ⟨m + 1, by omega, by go_num, by rw [HD.out, HR.out, Bool.true_and], X5.out⟩
            case measure => simp [intOf]; omega
        · obtain ⟨t0, cb, co, cc, es, rfl, ⟨al, ll, lc, op, vk, vn, vf, vs, val, vll, vlc, vak, vkl, vkc, ap, pl, pc, aq, ql, qc, rfl⟩, hn, hc1⟩ := hqf0
          have s0 := hcs0 0 (by simp)
          have s1 := hcs0 1 (by simp)
          have s2 := hcs0 2 (by simp)
          have s3 := hcs0 3 (by simp)
          have s4 := hcs0 4 (by simp)
          have s5 := hcs0 5 (by simp)
          have s6 := hcs0 6 (by simp)
          have s7 := hcs0 7 (by simp)
          have s8 := hcs0 8 (by simp)
          have s9 := hcs0 9 (by simp)
          have s10 := hcs0 10 (by simp)
          have s11 := hcs0 11 (by simp)
          have s12 := hcs0 12 (by simp)
          simp only [List.getElem_cons_zero, List.getElem_cons_succ, Nat.add_zero] at s0 s1 s2 s3 s4 s5 s6 s7 s8 s9 s10 s11 s12
          have s13 := F.h0
          have s14 := F.h1
          have s15 := F.h2
          have s16 := F.h3
          have s17 := F.h4
          have s18 := F.h5
          have s19 := F.h6
          have s20 := F.h7
          have s21 := F.h8
          have s22 := F.h9
          have s23 := F.h10
          have s24 := F.h11
          have s25 := F.h12
          simp only at s13 s14 s15
          have r0 := HX.out.get s0
          have r1 := HX.out.get s1
          have r2 := HX.out.get s2
          have r3 := HX.out.get s3
          have r4 := HX.out.get s4
          have r5 := HX.out.get s5
          have r6 := HX.out.get s6
          have r7 := HX.out.get s7
          have r8 := HX.out.get s8
          have r9 := HX.out.get s9
          have r10 := HX.out.get s10
          have r11 := HX.out.get s11
          have r12 := HX.out.get s12
          have r13 := HX.out.get s13
          have r14 := HX.out.get s14
          have r15 := HX.out.get s15
          have r16 := HX.out.get s16
          have r17 := HX.out.get s17
          have r18 := HX.out.get s18
          have r19 := HX.out.get s19
          have r20 := HX.out.get s20
          have r21 := HX.out.get s21
          have r22 := HX.out.get s22
          have r23 := HX.out.get s23
          have r24 := HX.out.get s24
          have r25 := HX.out.get s25
          have d0 : wr.drew.cell? ⟨bq, oq + m * 13, none⟩ = some (.int .i64 4) := r0
          have d1 : wr.drew.cell? ⟨bq, oq + m * 13 + 1, none⟩ = some (.string t0) := r1
          have d2 : wr.drew.cell? ⟨bq, oq + m * 13 + 2, none⟩ = some (.slice (some ⟨cb, co, none⟩) 1 cc) := r2
          have d3 : wr.drew.cell? ⟨bq, oq + m * 13 + 3, none⟩ = some (.slice al ll lc) := r3
          have d4 : wr.drew.cell? ⟨bq, oq + m * 13 + 4, none⟩ = some (.int .i64 op) := r4
          have d5 : wr.drew.cell? ⟨bq, oq + m * 13 + 5, none⟩ = some (.int .i64 vk) := r5
          have d6 : wr.drew.cell? ⟨bq, oq + m * 13 + 6, none⟩ = some (.int .i64 vn) := r6
          have d7 : wr.drew.cell? ⟨bq, oq + m * 13 + 7, none⟩ = some (.float .f64 vf) := r7
          have d8 : wr.drew.cell? ⟨bq, oq + m * 13 + 8, none⟩ = some (.string vs) := r8
          have d9 : wr.drew.cell? ⟨bq, oq + m * 13 + 9, none⟩ = some (.slice val vll vlc) := r9
          have d10 : wr.drew.cell? ⟨bq, oq + m * 13 + 10, none⟩ = some (.slice vak vkl vkc) := r10
          have d11 : wr.drew.cell? ⟨bq, oq + m * 13 + 11, none⟩ = some (.slice ap pl pc) := r11
          have d12 : wr.drew.cell? ⟨bq, oq + m * 13 + 12, none⟩ = some (.slice aq ql qc) := r12
          have d13 : wr.drew.cell? ⟨b1, m * 13, none⟩ = some (.int .i64 fk) := r13
          have d14 : wr.drew.cell? ⟨b1, m * 13 + 1, none⟩ = some (.string ft) := r14
          have d15 : wr.drew.cell? ⟨b1, m * 13 + 2, none⟩ = some (.slice fa fl fc) := r15
          have d16 : wr.drew.cell? ⟨b1, m * 13 + 3, none⟩ = some (.slice none 0 0) := r16
          have d17 : wr.drew.cell? ⟨b1, m * 13 + 4, none⟩ = some (.int .i64 0) := r17
          have d18 : wr.drew.cell? ⟨b1, m * 13 + 5, none⟩ = some (.int .i64 0) := r18
          have d19 : wr.drew.cell? ⟨b1, m * 13 + 6, none⟩ = some (.int .i64 0) := r19
          have d20 : wr.drew.cell? ⟨b1, m * 13 + 7, none⟩ = some (.float .f64 0) := r20
          have d21 : wr.drew.cell? ⟨b1, m * 13 + 8, none⟩ = some (.string ByteArray.empty) := r21
          have d22 : wr.drew.cell? ⟨b1, m * 13 + 9, none⟩ = some (.slice none 0 0) := r22
          have d23 : wr.drew.cell? ⟨b1, m * 13 + 10, none⟩ = some (.slice none 0 0) := r23
          have d24 : wr.drew.cell? ⟨b1, m * 13 + 11, none⟩ = some (.slice none 0 0) := r24
          have d25 : wr.drew.cell? ⟨b1, m * 13 + 12, none⟩ = some (.slice none 0 0) := r25
          have lq := lt_of_cell r0
          have lp := lt_of_cell r13
          simp only at lq lp
          clear hn hc1
          clear hcs0 F
          go_wp2_with fail
          go_region_held3 (fun w' => w'.cell? ⟨bq, oq + m * 13, none⟩ = some (.int .i64 4) ∧ w'.cell? ⟨bq, oq + m * 13 + 1, none⟩ = some (.string t0) ∧ w'.cell? ⟨bq, oq + m * 13 + 2, none⟩ = some (.slice (some ⟨cb, co, none⟩) 1 cc) ∧ w'.cell? ⟨bq, oq + m * 13 + 3, none⟩ = some (.slice al ll lc) ∧ w'.cell? ⟨bq, oq + m * 13 + 4, none⟩ = some (.int .i64 op) ∧ w'.cell? ⟨bq, oq + m * 13 + 5, none⟩ = some (.int .i64 vk) ∧ w'.cell? ⟨bq, oq + m * 13 + 6, none⟩ = some (.int .i64 vn) ∧ w'.cell? ⟨bq, oq + m * 13 + 7, none⟩ = some (.float .f64 vf) ∧ w'.cell? ⟨bq, oq + m * 13 + 8, none⟩ = some (.string vs) ∧ w'.cell? ⟨bq, oq + m * 13 + 9, none⟩ = some (.slice val vll vlc) ∧ w'.cell? ⟨bq, oq + m * 13 + 10, none⟩ = some (.slice vak vkl vkc) ∧ w'.cell? ⟨bq, oq + m * 13 + 11, none⟩ = some (.slice ap pl pc) ∧ w'.cell? ⟨bq, oq + m * 13 + 12, none⟩ = some (.slice aq ql qc) ∧ w'.cell? ⟨b1, m * 13, none⟩ = some (.int .i64 fk) ∧ w'.cell? ⟨b1, m * 13 + 1, none⟩ = some (.string ft) ∧ w'.cell? ⟨b1, m * 13 + 2, none⟩ = some (.slice fa fl fc) ∧ w'.cell? ⟨b1, m * 13 + 3, none⟩ = some (.slice none 0 0) ∧ w'.cell? ⟨b1, m * 13 + 4, none⟩ = some (.int .i64 0) ∧ w'.cell? ⟨b1, m * 13 + 5, none⟩ = some (.int .i64 0) ∧ w'.cell? ⟨b1, m * 13 + 6, none⟩ = some (.int .i64 0) ∧ w'.cell? ⟨b1, m * 13 + 7, none⟩ = some (.float .f64 0) ∧ w'.cell? ⟨b1, m * 13 + 8, none⟩ = some (.string ByteArray.empty) ∧ w'.cell? ⟨b1, m * 13 + 9, none⟩ = some (.slice none 0 0) ∧ w'.cell? ⟨b1, m * 13 + 10, none⟩ = some (.slice none 0 0) ∧ w'.cell? ⟨b1, m * 13 + 11, none⟩ = some (.slice none 0 0) ∧ w'.cell? ⟨b1, m * 13 + 12, none⟩ = some (.slice none 0 0))
            (first
              | (go_split_ands
                 with_reducible exact ⟨k5.get s0, k5.get s1, k5.get s2, k5.get s3, k5.get s4, k5.get s5, k5.get s6, k5.get s7, k5.get s8, k5.get s9, k5.get s10, k5.get s11, k5.get s12, k5.get s13, k5.get s14, k5.get s15, k5.get s16, k5.get s17, k5.get s18, k5.get s19, k5.get s20, k5.get s21, k5.get s22, k5.get s23, k5.get s24, k5.get s25⟩)
              | (go_split_ands
                 with_reducible exact ⟨d0, d1, d2, d3, d4, d5, d6, d7, d8, d9, d10, d11, d12, d13, d14, d15, d16, d17, d18, d19, d20, d21, d22, d23, d24, d25⟩)
              | (go_split_ands
                 with_reducible exact ⟨r0, r1, r2, r3, r4, r5, r6, r7, r8, r9, r10, r11, r12, r13, r14, r15, r16, r17, r18, r19, r20, r21, r22, r23, r24, r25⟩)
              | go_keep)
            (first | (go_at_call 73; refine (HS.out _ (by first | exact Ext.drew HX.out | exact HX.out)).mono ?_; rintro e w5 ⟨rfl, hx5⟩; have X5 : Hid (Ext w w5) := (by first | exact Ext.trans (Ext.drew HX.out) hx5 | exact Ext.trans HX.out hx5); have k5 := X5.out.keep; clear hx5))
          cases r
          all_goals go_wp2_with fail
          · go_ret
            exact .mk (congrArg Value.bool (by rw [HD.out, HR.out]; rfl)) X5.out
          · go_roundw
            case rel => exact ⟨m + 1, by omega, by go_num, by rw [HD.out, HR.out, Bool.true_and], X5.out⟩
            case measure => simp [intOf]; omega
      · have hme : m = q.length := by omega
        subst hme
        have HC : Hid (cov1 q p = true) := by rw [HEQ.out]; exact cov1_end q p _ (Nat.le_refl _)
        go_wp2
        go_ret
        exact .mk (congrArg Value.bool HC.out.symm) HX.out
end Go.Proofs.Ytikpedfggbibpaa
namespace Go.Proofs.Ytikpedfggbibpaa
open Go.RowKit Go.Lib
set_option linter.unusedVariables false
set_option linter.unusedSimpArgs false

/-- a row of places, wherever it begins, and what a predicate says of each -/
def PRowO (F : Nat) (lb : Array Value) (a : Option Addr) (n : Nat) (pr : Nat → Bool) (w : World) : Prop :=
  ∀ i, i < n → ∃ g o u, a = some ⟨g, o, none⟩ ∧ w.cell? ⟨g, o + i, none⟩ = some u ∧ ∀ w', Ext w w' → Calls Try.prog F (#[u] ++ lb) w' (Gives (.bool (pr i)) w')

set_option maxRecDepth 20000 in
set_option maxHeartbeats 1000000 in
theorem indexPathO_any (F : Nat) (lb : Array Value) (eg : ∀ args w, (callFunc F args).run Try.prog w = .ok (.enter F args) w) (a : Option Addr) (n c : Nat) (pr : Nat → Bool) (w : World) (hn : n ≤ reachN) (hp : PRowO F lb a n pr w) :
    Calls Try.prog 72 #[.slice a n c, .func (.func F) #[] lb] w (IdxPost pr n w) := by
  unfold reachN at hn
  have HP := Lib.hid hp
  clear hp
  go_enter Try.func72, Try.ntmps72
  go_wp2
  go_loopw [8] (fun i wr => ∃ m : Nat, m ≤ n ∧ i = .int .i64 m ∧ (∀ q, q < m → pr q = false) ∧ Ext w wr) (fun i _ => n - (intOf i).toNat)
  case atStart => exact ⟨0, Nat.zero_le _, rfl, fun q h => by omega, Ext.refl _⟩
  case round =>
    obtain ⟨m, hm, rfl, hall, hb⟩ := hrel
    have HA := Lib.hid hall
    have HB := Lib.hid hb
    clear hall hb
    by_cases hltm : m < n
    · obtain ⟨g, o, u, rfl, hc, hcall⟩ := HP.out m hltm
      have hcell := HB.out.keep _ _ hc
      have HC := Lib.hid (hcall wr HB.out)
      clear hc hcall
      generalize hpm : pr m = b at HC
      have HPM := Lib.hid hpm
      clear hpm
      go_wp2_with (go_at_fn F; refine (HC.out).mono ?_; rintro e w2 ⟨rfl, hb2⟩; have HB2 := Lib.hid hb2; clear hb2 HC; cases b)
      · go_roundw
        case rel => exact ⟨m + 1, by omega, by go_num, fun q hq => by
          by_cases hqm : q = m
          · subst hqm; exact HPM.out
          · exact HA.out q (by omega), HB.out.trans HB2.out⟩
        case measure => simp [intOf]; omega
      · go_ret
        exact ⟨m, rfl, Or.inr ⟨m, hltm, rfl, HPM.out⟩, HB.out.trans HB2.out⟩
    · have HX : Hid (∀ q, q < n → pr q = false) := fun q hq => HA.out q (by omega)
      clear HP HA
      go_wp2
      go_ret
      exact ⟨-1, rfl, Or.inl ⟨rfl, HX.out⟩, HB.out⟩

theorem containsPathO_any (F : Nat) (lb : Array Value) (eg : ∀ args w, (callFunc F args).run Try.prog w = .ok (.enter F args) w) (a : Option Addr) (n c : Nat) (pr : Nat → Bool) (w : World) (hn : n ≤ reachN) (hp : PRowO F lb a n pr w) :
    Calls Try.prog 29 #[.slice a n c, .func (.func F) #[] lb] w (AnyPost pr n w) := by
  have HC := Lib.hid (indexPathO_any F lb eg a n c pr w hn hp)
  clear hp eg
  unfold reachN at hn
  go_enter Try.func29, Try.ntmps29
  go_wp2_with (go_at_call 72; refine (HC.out).mono ?_; rintro e w2 ⟨i, rfl, hi, hb2⟩; have HB2 := Lib.hid hb2; have HI := Lib.hid hi; clear hb2 HC hi)
  go_ret
  refine ⟨_, rfl, ?_, HB2.out⟩
  rcases HI.out with ⟨rfl, h⟩ | ⟨q, hq, rfl, h⟩
  · constructor
    · intro h1
      simp at h1
    · rintro ⟨q, hq, h1⟩
      rw [h q hq] at h1
      cases h1
  · constructor
    · intro _
      exact ⟨q, hq, h⟩
    · intro _
      simp

/-- whether an ignored path, if there is one, covers a place -/
def covIg : Ig → List Step → Bool
  | none, _ => false
  | some q, p => cov1 q p
/-- the ignored paths as they came in: none or one -/
def IgsAt (w : World) (v : Value) : Ig → Prop
  | none => ∃ a c, v = .slice a 0 c
  | some q => ∃ b o c bq oq cq, v = .slice (some ⟨b, o, none⟩) 1 c ∧ w.cell? ⟨b, o, none⟩ = some (.slice (some ⟨bq, oq, none⟩) q.length cq) ∧ QAt w bq oq q ∧ 0 < q.length ∧ q.length ≤ 4
theorem IgsAt.keep {w w' : World} (k : Keep w w') : ∀ {g : Ig} {v : Value}, IgsAt w v g → IgsAt w' v g
  | none, _, h => h
  | some q, _, ⟨b, o, c, bq, oq, cq, e, h1, h2, h3, h4⟩ => ⟨b, o, c, bq, oq, cq, e, k _ _ h1, h2.keep k, h3, h4⟩

theorem Try.enters_cov1 (args : Array Value) (w : World) : (callFunc 30 args).run Try.prog w = .ok (.enter 30 args) w := enters_of Try.func30 (by kernel_rfl) rfl args w
theorem Try.enters_cov (args : Array Value) (w : World) : (callFunc 28 args).run Try.prog w = .ok (.enter 28 args) w := enters_of Try.func28 (by kernel_rfl) rfl args w

theorem covers_fn (q : List (Option Step)) (hq0 : 0 < q.length) (hq4 : q.length ≤ 4) (p : List Step) (hp : p.length ≤ 1000000) (bq oq cq bp : Nat) (vp : Value) (w : World) (hQ : QAt w bq oq q) (hP : PathN w vp p) (h1 : w.cell? ⟨bp, 0, none⟩ = some vp) :
    Calls Try.prog 30 #[.slice (some ⟨bq, oq, none⟩) q.length cq, .pointer (some ⟨bp, 0, none⟩)] w (Gives (.bool (cov1 q p)) w) := by
  have HC := Lib.hid (coversPlace_any q hq0 hq4 p hp bq oq cq vp w hQ hP)
  clear hQ hP
  go_enter Try.func30, Try.ntmps30
  go_wp2_with (go_at_call 31; refine (HC.out).mono ?_; rintro e w1 ⟨rfl, hx⟩; have HX := Lib.hid hx; clear hx HC)
  go_ret
  exact .mk rfl HX.out

theorem ignored_fn (g : Ig) (p : List Step) (hp : p.length ≤ 1000000) (bi : Nat) (vp vi : Value) (w : World) (hI : IgsAt w vi g) (h1 : w.cell? ⟨bi, 0, none⟩ = some vi) (hP : PathN w vp p) :
    Calls Try.prog 28 #[vp, .pointer (some ⟨bi, 0, none⟩)] w (Gives (.bool (covIg g p)) w) := by
  have h2 := lt_of_cell h1
  simp only at h2
  obtain ⟨pa, pn, pc, rfl⟩ := PathN.pq.shape hP
  cases g with
  | none =>
    obtain ⟨a, c, rfl⟩ := hI
    have HC : Hid (∀ w1, Calls Try.prog 29 #[.slice a 0 c, .func (.func 30) #[] #[.pointer (some ⟨w.heap.size, 0, none⟩)]] w1 (AnyPost (fun _ => false) 0 w1)) := fun w1 => containsPathO_any 30 _ Try.enters_cov1 a 0 c _ w1 (Nat.zero_le _) (fun i hi => by omega)
    clear hP
    go_enter Try.func28, Try.ntmps28
    go_wp2_with (go_at_call 29; refine (HC.out _).mono ?_; rintro e w1 ⟨r, rfl, hr, hx1⟩; have hrf := never hr; subst hrf; have HX1 := Lib.hid hx1; clear hr hx1 HC)
    go_ret
    exact .mk rfl (((Ext.refl _).alloc _).trans HX1.out)
  | some q =>
    obtain ⟨b, o, c, bq, oq, cq, rfl, hc, hQ, hq0, hq4⟩ := hI
    have hbx : (w.alloc (.cells #[.slice pa pn pc] 32)).cell? ⟨w.heap.size, 0, none⟩ = some (.slice pa pn pc) := by simp
    have X0 : Ext w (w.alloc (.cells #[.slice pa pn pc] 32)) := (Ext.refl w).alloc _
    have HC : Hid (Calls Try.prog 29 #[.slice (some ⟨b, o, none⟩) 1 c, .func (.func 30) #[] #[.pointer (some ⟨w.heap.size, 0, none⟩)]] (w.alloc (.cells #[.slice pa pn pc] 32)) (AnyPost (fun _ => cov1 q p) 1 (w.alloc (.cells #[.slice pa pn pc] 32)))) :=
      containsPathO_any 30 _ Try.enters_cov1 _ 1 c _ _ (by unfold reachN; omega) (fun i hi => by
        obtain rfl : i = 0 := by omega
        refine ⟨b, o, _, rfl, X0.keep _ _ hc, fun w2 hx2 => ?_⟩
        exact covers_fn q hq0 hq4 p hp bq oq cq w.heap.size _ w2 (hQ.keep (X0.trans hx2).keep) (PathN.pq.ext (X0.trans hx2) hP) (hx2.keep _ _ hbx))
    clear hP hQ hc X0 hbx
    go_enter Try.func28, Try.ntmps28
    go_wp2_with (go_at_call 29; refine (HC.out).mono ?_; rintro e w1 ⟨r, rfl, hr, hx1⟩; have HR := Lib.hid hr; have HX1 := Lib.hid hx1; clear hr hx1 HC)
    go_ret
    refine .mk (congrArg Value.bool ?_) (((Ext.refl _).alloc _).trans HX1.out)
    rw [Bool.eq_iff_iff]
    show r = true ↔ cov1 q p = true
    rw [HR.out]
    exact ⟨fun ⟨_, _, h⟩ => h, fun h => ⟨0, by omega, h⟩⟩
end Go.Proofs.Ytikpedfggbibpaa
namespace Go.Proofs.Ytikpedfggbibpaa
open Go.RowKit Go.Lib
set_option linter.unusedVariables false
set_option linter.unusedSimpArgs false

def IdxFirst (pr : Nat → Bool) (n : Nat) (w : World) (e : Ending) (w' : World) : Prop :=
  ∃ i : Int, e = .returned (.int .i64 i) ∧ ((i = -1 ∧ ∀ q, q < n → pr q = false) ∨ (∃ q : Nat, q < n ∧ i = (q : Int) ∧ pr q = true ∧ ∀ r, r < q → pr r = false)) ∧ Ext w w'

set_option maxRecDepth 20000 in
set_option maxHeartbeats 1000000 in
theorem firstPath_any (F : Nat) (lb : Array Value) (eg : ∀ args w, (callFunc F args).run Try.prog w = .ok (.enter F args) w) (a : Option Addr) (n c : Nat) (pr : Nat → Bool) (w : World) (hn : n ≤ reachN) (hp : PRowO F lb a n pr w) :
    Calls Try.prog 72 #[.slice a n c, .func (.func F) #[] lb] w (IdxFirst pr n w) := by
  unfold reachN at hn
  have HP := Lib.hid hp
  clear hp
  go_enter Try.func72, Try.ntmps72
  go_wp2
  go_loopw [8] (fun i wr => ∃ m : Nat, m ≤ n ∧ i = .int .i64 m ∧ (∀ q, q < m → pr q = false) ∧ Ext w wr) (fun i _ => n - (intOf i).toNat)
  case atStart => exact ⟨0, Nat.zero_le _, rfl, fun q h => by omega, Ext.refl _⟩
  case round =>
    obtain ⟨m, hm, rfl, hall, hb⟩ := hrel
    have HA := Lib.hid hall
    have HB := Lib.hid hb
    clear hall hb
    by_cases hltm : m < n
    · obtain ⟨g, o, u, rfl, hc, hcall⟩ := HP.out m hltm
      have hcell := HB.out.keep _ _ hc
      have HC := Lib.hid (hcall wr HB.out)
      clear hc hcall
      generalize hpm : pr m = b at HC
      have HPM := Lib.hid hpm
      clear hpm
      go_wp2_with (go_at_fn F; refine (HC.out).mono ?_; rintro e w2 ⟨rfl, hb2⟩; have HB2 := Lib.hid hb2; clear hb2 HC; cases b)
      · go_roundw
        case rel => exact ⟨m + 1, by omega, by go_num, fun q hq => by
          by_cases hqm : q = m
          · subst hqm; exact HPM.out
          · exact HA.out q (by omega), HB.out.trans HB2.out⟩
        case measure => simp [intOf]; omega
      · go_ret
        exact ⟨m, rfl, Or.inr ⟨m, hltm, rfl, HPM.out, HA.out⟩, HB.out.trans HB2.out⟩
    · have HX : Hid (∀ q, q < n → pr q = false) := fun q hq => HA.out q (by omega)
      clear HP HA
      go_wp2
      go_ret
      exact ⟨-1, rfl, Or.inl ⟨rfl, HX.out⟩, HB.out⟩

/-- a row of places with its room -/
def RowP (w : World) (g cap : Nat) (cs : List (List Step)) : Prop := ∃ cur : Array Value, w.heap[g]? = some (.cells cur 32 (0, 0)) ∧ cur.size = cap ∧ cs.length ≤ cap ∧ ∀ i, (h : i < cs.length) → ∃ u, cur[i]? = some u ∧ PathN w u cs[i]
theorem RowP.of {w : World} {base : Nat} {v : Value} {ps : List (List Step)} (h : PLs PathN w base v ps) (hne : ps ≠ []) : ∃ g cap, v = .slice (some ⟨g, 0, none⟩) ps.length cap ∧ base ≤ g ∧ cap ≤ maxLen ∧ RowP w g cap ps := by
  obtain ⟨vs, h1, h2, h3⟩ := h
  rcases h3.2 with ⟨_, h0⟩ | ⟨g, cap, cur, rfl, hb, hh, hc, hm, hs, ht⟩
  · exact absurd (List.eq_nil_of_length_eq_zero h0) hne
  · rw [Nat.mul_one] at hs ht
    refine ⟨g, cap, rfl, hb, hm, cur, hh, hs, hc, fun i hi => ⟨vs[i]'(by omega), ?_, h2 i hi (by omega)⟩⟩
    have : (cur.toList.take ps.length)[i]? = some (vs[i]'(by omega)) := by rw [ht]; exact List.getElem?_eq_getElem (by omega)
    rw [List.getElem?_take, if_pos hi] at this
    simpa using this
theorem RowP.pls {w : World} {base g cap : Nat} {cs : List (List Step)} (h : RowP w g cap cs) (hb : base ≤ g) (hm : cap ≤ maxLen) : PLs PathN w base (.slice (some ⟨g, 0, none⟩) cs.length cap) cs := by
  obtain ⟨cur, hh, hs, hc, hp⟩ := h
  refine ⟨cur.toList.take cs.length, by simp; omega, fun i hi hi' => ?_, by simp; omega, Or.inr ⟨g, cap, cur, rfl, hb, hh, hc, hm, by omega, by rw [Nat.mul_one]⟩⟩
  obtain ⟨u, e, hu⟩ := hp i hi
  have e2 : (cur.toList.take cs.length)[i]? = some u := by rw [List.getElem?_take, if_pos hi]; simpa using e
  rw [List.getElem?_eq_getElem hi'] at e2
  rw [Option.some.inj e2]
  exact hu
theorem RowP.ext {w w' : World} {g cap : Nat} {cs : List (List Step)} (h : RowP w g cap cs) (k : Ext w w') : RowP w' g cap cs := by
  obtain ⟨cur, hh, hs, hc, hp⟩ := h
  refine ⟨cur, (k.block g (Array.getElem?_eq_some_iff.1 hh).1).trans hh, hs, hc, fun i hi => ?_⟩
  obtain ⟨u, e, hu⟩ := hp i hi
  exact ⟨u, e, PathN.pq.ext k hu⟩
theorem RowP.cell {w : World} {g cap : Nat} {cs : List (List Step)} (h : RowP w g cap cs) (i : Nat) (hi : i < cs.length) : ∃ u, w.cell? ⟨g, i, none⟩ = some u ∧ PathN w u cs[i] := by
  obtain ⟨cur, hh, hs, hc, hp⟩ := h
  obtain ⟨u, e, hu⟩ := hp i hi
  exact ⟨u, by rw [cell_of_row _ _ _ _ _ _ hh]; exact e, hu⟩
theorem RowP.free {w : World} {g cap : Nat} {cs : List (List Step)} (h : RowP w g cap cs) (i : Nat) : w.frozen? ⟨g, i, none⟩ = false := by
  obtain ⟨cur, hh, _⟩ := h
  exact frozen_of_row _ _ _ _ _ hh
theorem RowP.there {w : World} {g cap : Nat} {cs : List (List Step)} (h : RowP w g cap cs) (i : Nat) (hi : i < cap) : (w.cell? ⟨g, i, none⟩).isSome = true := by
  obtain ⟨cur, hh, hs, _⟩ := h
  rw [cell_of_row _ _ _ _ _ _ hh, Array.getElem?_eq_getElem (by omega)]
  rfl
theorem KT.setRow {w : World} {g : Nat} {cur cs : Array Value} {t : TypeId} (hh : w.heap[g]? = some (.cells cur t (0, 0))) : KT t w (w.setRow g cs) := fun k ds u hu e => by
  by_cases hk : k = g
  · subst hk
    rw [hh] at e
    simp only [Option.some.injEq, Obj.cells.injEq] at e
    exact absurd e.2.1.symm hu
  · rw [setRow_other w g k cs hk]
    exact e
theorem RowP.kt {w : World} {g cap i : Nat} {cs : List (List Step)} (h : RowP w g cap cs) (v : Value) : KT 32 w (w.setCell ⟨g, i, none⟩ v) := by
  obtain ⟨cur, hh, _⟩ := h
  rw [setCell_eq_setRow w g i cur 32 (0, 0) v hh]
  exact KT.setRow hh
theorem RowP.put {w : World} {g cap i : Nat} {cs : List (List Step)} (h : RowP w g cap cs) {v : Value} {p : List Step} (hv : PathN w v p) (hi : i < cs.length) : RowP (w.setCell ⟨g, i, none⟩ v) g cap (cs.set i p) := by
  have kt := h.kt (i := i) v
  obtain ⟨cur, hh, hs, hc, hp⟩ := h
  rw [setCell_eq_setRow w g i cur 32 (0, 0) v hh] at kt ⊢
  refine ⟨_, setRow_heap w g cur _ 32 (0, 0) hh, by simpa using hs, by simpa using hc, fun j hj => ?_⟩
  have hj' : j < cs.length := by simpa using hj
  by_cases hij : i = j
  · subst hij
    refine ⟨v, by rw [Array.getElem?_setIfInBounds_self_of_lt (by omega)], ?_⟩
    rw [List.getElem_set_self]
    exact PathN.pq.keep (by decide) (by decide) kt hv
  · obtain ⟨u, e, hu⟩ := hp j hj'
    refine ⟨u, by rw [Array.getElem?_setIfInBounds_ne hij]; exact e, ?_⟩
    rw [List.getElem_set_ne hij]
    exact PathN.pq.keep (by decide) (by decide) kt hu
theorem RowP.out {w : World} {g cap i : Nat} {cs : List (List Step)} (h : RowP w g cap cs) (v : Value) (hi : cs.length ≤ i) : RowP (w.setCell ⟨g, i, none⟩ v) g cap cs := by
  have kt := h.kt (i := i) v
  obtain ⟨cur, hh, hs, hc, hp⟩ := h
  rw [setCell_eq_setRow w g i cur 32 (0, 0) v hh] at kt ⊢
  refine ⟨_, setRow_heap w g cur _ 32 (0, 0) hh, by simpa using hs, hc, fun j hj => ?_⟩
  obtain ⟨u, e, hu⟩ := hp j hj
  exact ⟨u, by rw [Array.getElem?_setIfInBounds_ne (by omega)]; exact e, PathN.pq.keep (by decide) (by decide) kt hu⟩
theorem RowP.outs {g cap : Nat} {cs : List (List Step)} : ∀ (vs : List Value) (w : World) (o : Nat), RowP w g cap cs → cs.length ≤ o → RowP (w.setCells g o vs) g cap cs
  | [], _, _, h, _ => h
  | v :: vs, w, o, h, ho => RowP.outs vs _ (o + 1) (h.out v ho) (by omega)
theorem RowP.take {w : World} {g cap : Nat} {cs : List (List Step)} (h : RowP w g cap cs) (i : Nat) : RowP w g cap (cs.take i) := by
  obtain ⟨cur, hh, hs, hc, hp⟩ := h
  refine ⟨cur, hh, hs, by simp; omega, fun j hj => ?_⟩
  obtain ⟨u, e, hu⟩ := hp j (by simp at hj; omega)
  exact ⟨u, e, by rw [List.getElem_take]; exact hu⟩

/-- what slices.DeleteFunc leaves -/
def DelFPost (base : Nat) (ps : List (List Step)) (pr : List Step → Bool) (w : World) (e : Ending) (w' : World) : Prop :=
  ∃ v', e = .returned v' ∧ PLs PathN w' base v' (ps.filter fun p => !pr p) ∧ Below base w w'

theorem Try.zeroPath (w : World) : (zeroValue 32).run Try.prog w = .ok (.slice none 0 0) w := by kernel_rfl

theorem filter_step {pr : List Step → Bool} {ps : List (List Step)} {j : Nat} (h : j < ps.length) : (ps.take (j + 1)).filter (fun p => !pr p) = (ps.take j).filter (fun p => !pr p) ++ (if pr ps[j] then [] else [ps[j]]) := by
  rw [List.take_succ_eq_append_getElem h, List.filter_append]
  cases hp : pr ps[j] <;> simp [hp]

theorem take_set_succ {α : Type} (p : α) : ∀ (cs : List α) (i : Nat), i < cs.length → (cs.set i p).take (i + 1) = cs.take i ++ [p]
  | [], i, h => by simp at h
  | a :: cs, 0, _ => by simp
  | a :: cs, i + 1, h => by simp [take_set_succ p cs i (by simpa using h)]
theorem drop_set_lt {α : Type} (p : α) : ∀ (cs : List α) (i j : Nat), i < j → (cs.set i p).drop j = cs.drop j
  | [], i, j, _ => by simp
  | a :: cs, 0, j + 1, _ => by simp
  | a :: cs, i + 1, j + 1, h => by simp [drop_set_lt p cs i j (by omega)]
theorem drop_succ_eq {α : Type} {cs ps : List α} {j : Nat} (h : cs.drop j = ps.drop j) : cs.drop (j + 1) = ps.drop (j + 1) := by
  rw [← List.drop_drop, ← List.drop_drop, h]

set_option maxRecDepth 20000 in
set_option maxHeartbeats 4000000 in
theorem deletePaths_any (base : Nat) (ps : List (List Step)) (hps : ps.length ≤ 100000) (pr : List Step → Bool) (F : Nat) (lb : Array Value) (eg : ∀ args w, (callFunc F args).run Try.prog w = .ok (.enter F args) w) (v : Value) (w : World)
    (h : PLs PathN w base v ps) (hb : base ≤ w.heap.size) (hpr : ∀ w1, Below base w w1 → ∀ p ∈ ps, ∀ u, PathN w1 u p → Calls Try.prog F (#[u] ++ lb) w1 (Gives (.bool (pr p)) w1)) :
    Calls Try.prog 27 #[v, .func (.func F) #[] lb] w (DelFPost base ps pr w) := by
  obtain ⟨a, c, rfl, hsh⟩ := h.shape
  have HF : Hid (Calls Try.prog 72 #[.slice a ps.length c, .func (.func F) #[] lb] w (IdxFirst (fun i => pr (ps.getD i [])) ps.length w)) := firstPath_any F lb eg a ps.length c _ w (by unfold reachN; omega) (fun i hi => by
    obtain ⟨g, u, e, hc, p, hp, hq⟩ := hsh i hi
    refine ⟨g, 0, u, e, by rw [Nat.zero_add]; exact hc, fun w1 hx1 => ?_⟩
    have := hpr w1 (hx1.mono hb) p (List.mem_of_getElem? hp) u (PathN.pq.ext hx1 hq)
    rw [List.getD, hp, Option.getD_some]
    exact this)
  have HPR := Lib.hid hpr
  have HPLS := Lib.hid h
  have HB0 := Lib.hid hb
  clear h hsh hpr hb
  go_enter Try.func27, Try.ntmps27
  go_wp2_with (go_at_call 72; refine (HF.out).mono ?_; rintro e w1 ⟨i, rfl, hi, hx1⟩; have HX1 := Lib.hid hx1; clear hx1 HF; rcases hi with ⟨rfl, hall⟩ | ⟨q, hq, rfl, hpq, hbef⟩; all_goals first | (have HALL := Lib.hid hall; clear hall) | (have hqne : ((q : Int) == -1) = false := beq_eq_false_iff_ne.2 (by omega); have HPQ := Lib.hid hpq; have HBEF := Lib.hid hbef; clear hpq hbef))
  · go_ret
    refine ⟨_, rfl, ?_, HX1.out.mono HB0.out⟩
    rw [List.filter_eq_self.2 (fun p hp => by
      obtain ⟨j, hj, rfl⟩ := List.getElem_of_mem hp
      have := HALL.out j hj
      rw [List.getD, List.getElem?_eq_getElem hj, Option.getD_some] at this
      rw [this]; rfl)]
    exact HPLS.out.ext PathN.pq HX1.out
  · obtain ⟨g, cap, e0, hbg, hcap, hrow⟩ := RowP.of HPLS.out (fun e => by rw [e] at hq; simp at hq)
    simp only [Value.slice.injEq, true_and] at e0
    obtain ⟨rfl, rfl⟩ := e0
    have HROW : Hid (RowP w1 g c ps) := hrow.ext HX1.out
    have HBG : Hid (base ≤ g ∧ c ≤ maxLen) := ⟨hbg, hcap⟩
    have hlc : ps.length ≤ c := by obtain ⟨_, _, _, h, _⟩ := hrow; exact h
    clear hrow hbg hcap
    go_loopw [5, 6] (fun x y wr => ∃ (i j : Nat) (cs : List (List Step)), x = .int .i64 i ∧ y = .int .i64 j ∧ i < j ∧ j ≤ ps.length ∧ cs.length = ps.length ∧ cs.take i = (ps.take j).filter (fun p => !pr p) ∧ cs.drop j = ps.drop j ∧ RowP wr g c cs ∧ Below base w wr) (fun _ y _ => ps.length - (intOf y).toNat)
    case atStart =>
      refine ⟨q, q + 1, ps, rfl, by go_num, by omega, by omega, rfl, ?_, rfl, HROW.out, HX1.out.mono HB0.out⟩
      have hq1 : pr ps[q] = true := by
        have := HPQ.out
        rwa [List.getD, List.getElem?_eq_getElem hq, Option.getD_some] at this
      rw [filter_step hq, hq1, List.filter_eq_self.2 (fun p hp => ?_)]
      · simp
      · obtain ⟨j, hj, rfl⟩ := List.mem_take_iff_getElem.1 hp
        have := HBEF.out j (by omega)
        rw [List.getD, List.getElem?_eq_getElem (by omega), Option.getD_some] at this
        rw [this]; rfl
    case round =>
      obtain ⟨i, j, cs, rfl, rfl, hij, hj, hcl, htk, hdr, hrow, hbel⟩ := hrel
      have HTK := Lib.hid htk
      have HDR := Lib.hid hdr
      have HR := Lib.hid hrow
      have HBE := Lib.hid hbel
      have HCL := Lib.hid hcl
      clear htk hdr hrow hbel hcl
      by_cases hlt : j < ps.length
      · have hjc : j < cs.length := by have := HCL.out; omega
        have hcj : cs[j] = ps[j] := by
          have := congrArg (·[0]?) HDR.out
          simp only [List.getElem?_drop, Nat.add_zero] at this
          rw [List.getElem?_eq_getElem hjc, List.getElem?_eq_getElem hlt] at this
          exact Option.some.inj this
        obtain ⟨u, hu, hpu⟩ := HR.out.cell j hjc
        rw [hcj] at hpu
        have HC : Hid (Calls Try.prog F (#[u] ++ lb) wr (Gives (.bool (pr ps[j])) wr)) := HPR.out wr HBE.out ps[j] (List.getElem_mem hlt) u hpu
        obtain ⟨ua, un, uc, rfl⟩ := PathN.pq.shape hpu
        have HPU := Lib.hid hpu
        have HFS := Lib.hid (filter_step (pr := pr) hlt)
        have hjn : (j : Int) < (ps.length : Int) := by omega
        clear hcj hpu
        generalize pr ps[j] = b at HC HFS
        go_wp2_with (go_at_fn F; refine (HC.out).mono ?_; rintro e w2 ⟨rfl, hb2⟩; have HB2 := Lib.hid hb2; have HR2 := Lib.hid (HR.out.ext hb2); obtain ⟨z9, hth⟩ := Option.isSome_iff_exists.1 (HR2.out.there i (by omega)); have hfr := HR2.out.free i; clear hb2 HC; cases b)
        · go_roundw
          case rel => exact ⟨i + 1, j + 1, cs.set i ps[j], by go_num, by go_num, by omega, by omega, by rw [List.length_set]; exact HCL.out, by rw [take_set_succ _ _ _ (by omega), HTK.out, HFS.out]; rfl, by rw [drop_set_lt _ _ _ _ (by omega)]; exact drop_succ_eq HDR.out, HR2.out.put (PathN.pq.ext HB2.out HPU.out) (by omega), Below.setCell (HBE.out.trans (HB2.out.mono (Nat.le_trans HB0.out HBE.out.size))) HBG.out.1 _⟩
          case measure => simp [intOf]; omega
        · go_roundw
          case rel => exact ⟨i, j + 1, cs, rfl, by go_num, by omega, by omega, HCL.out, by rw [HTK.out, HFS.out]; simp, drop_succ_eq HDR.out, HR2.out, HBE.out.trans (HB2.out.mono (Nat.le_trans HB0.out HBE.out.size))⟩
          case measure => simp [intOf]; omega
      · have hjn : j = ps.length := by omega
        subst hjn
        have hcl : ∀ ty, (Builtin.clear_ #[30] ty #[.slice (some ⟨g, i, none⟩) (ps.length - i) (c - i)]).run Try.prog wr = .ok (.tuple #[]) (wr.setCells g i (List.replicate (ps.length - i) (.slice none 0 0))) := fun ty =>
          run_clear_slice wr 30 32 ty (.slice none 0 0) Try.underlying30 Try.zeroPath rfl rfl g i (ps.length - i) (c - i) (by omega) (fun k hk => HR.out.there _ (by omega)) (fun k hk => HR.out.free _)
        have hm2 : c ≤ 9223372036854775807 := by have := HBG.out.2; simp only [maxLen] at this; omega
        have q1 : (i : Int) ≤ (ps.length : Int) := by omega
        have q2 : (ps.length : Int) ≤ (c : Int) := by omega
        have q3 : ¬ c = i := by omega
        have q4 : (0 : Int) ≤ (i : Int) := Int.natCast_nonneg _
        have q5 : (i : Int) ≤ (c : Int) := by omega
        have HFIN : Hid (PLs PathN (wr.setCells g i (List.replicate (ps.length - i) (.slice none 0 0))) base (.slice (some ⟨g, 0, none⟩) i c) (ps.filter fun p => !pr p)) := by
          have h1 : (cs.take i).length = i := by rw [List.length_take]; have := HCL.out; omega
          have h2 := ((HR.out.take i).outs (List.replicate (ps.length - i) (.slice none 0 0)) wr i (by omega)).pls HBG.out.1 HBG.out.2
          rw [h1, HTK.out, List.take_length] at h2
          exact h2
        have HBF : Hid (Below base w (wr.setCells g i (List.replicate (ps.length - i) (.slice none 0 0)))) := HBE.out.grown (grownBy_setCells g _ i wr) (Nat.le_trans HB0.out HBE.out.size) (fun k hk => by cases hk; exact HBG.out.1)
        clear hlt hj
        go_wp2
        go_ret
        exact ⟨_, rfl, HFIN.out, HBF.out⟩
end Go.Proofs.Ytikpedfggbibpaa
namespace Go.Proofs.Ytikpedfggbibpaa
open Go.RowKit Go.Lib
set_option linter.unusedVariables false
set_option linter.unusedSimpArgs false

def EvPost (n : Nat) (a b : J) (w : World) (e : Ending) (w' : World) : Prop := ∃ r : Bool, e = .returned (.bool r) ∧ (r = true → evenF n a b) ∧ Ext w w'
def EvAt (n : Nat) : Prop := ∀ (a b : J), a.nodes + b.nodes ≤ n → a.ok → b.ok → n ≤ 2000 → ∀ (va vb : Value) (w : World), RV w (V.ofJ a) va → RV w (V.ofJ b) vb →
  Calls Try.prog 25 #[va, vb] w (EvPost n a b w)
theorem evenF_null : ∀ (n : Nat) (b : J), evenF n .null b
  | 0, _ => by unfold evenF; trivial
  | n + 1, b => by cases b <;> (unfold evenF; trivial)

theorem evenly_other (x y : V) (h7 : ¬ (x.kind = 7 ∧ y.kind = 7)) (h8 : ¬ (x.kind = 8 ∧ y.kind = 8)) (va vb : Value) (w : World) (ha : RV w x va) (hb : RV w y vb) : Calls Try.prog 25 #[va, vb] w (Gives (.bool true) w) := by
  obtain ⟨al, lc, ak, kc, rfl⟩ := ha.six
  obtain ⟨al', lc', ak', kc', rfl⟩ := hb.six
  clear ha hb
  generalize x.kind = k at *
  generalize y.kind = k' at *
  by_cases e7 : k = 7
  · subst e7
    have q1 : (k' == 7) = false := beq_eq_false_iff_ne.2 (fun e => h7 ⟨rfl, e⟩)
    clear h7 h8
    go_enter Try.func25, Try.ntmps25
    go_wp2
    go_ret
    exact .mk rfl (((Ext.refl _).alloc _).alloc _)
  by_cases e8 : k = 8
  · subst e8
    have q1 : (k' == 8) = false := beq_eq_false_iff_ne.2 (fun e => h8 ⟨rfl, e⟩)
    clear h7 h8
    go_enter Try.func25, Try.ntmps25
    go_wp2
    go_ret
    exact .mk rfl (((Ext.refl _).alloc _).alloc _)
  have q1 : (k == 7) = false := beq_eq_false_iff_ne.2 e7
  have q2 : (k == 8) = false := beq_eq_false_iff_ne.2 e8
  clear h7 h8 e7 e8
  go_enter Try.func25, Try.ntmps25
  go_wp2
  go_ret
  exact .mk rfl (((Ext.refl _).alloc _).alloc _)

set_option maxRecDepth 100000 in
set_option maxHeartbeats 16000000 in
theorem evenly_arr (N : Nat) (ih : EvAt N) (l l' : List J) (hn : (J.arr l).nodes + (J.arr l').nodes ≤ N + 1) (hN : N + 1 ≤ 2000) (ha : (J.arr l).ok) (hb : (J.arr l').ok)
    (va vb : Value) (w : World) (hva : RV w (V.ofJ (.arr l)) va) (hvb : RV w (V.ofJ (.arr l')) vb) :
    Calls Try.prog 25 #[va, vb] w (EvPost (N + 1) (.arr l) (.arr l') w) := by
  unfold V.ofJ RV at hva hvb
  obtain ⟨al, lc, ak, kc, rfl, z, hl, hk⟩ := hva
  obtain ⟨al', lc', ak', kc', rfl, z', hl', hk'⟩ := hvb
  rw [V.ofJs_length, V.ofJs_length]
  have hl1 : l.length ≤ 2000 := by have := J.nodesL_len l; simp only [J.nodes] at hn; omega
  have hl2 : l'.length ≤ 2000 := by have := J.nodesL_len l'; simp only [J.nodes] at hn; omega
  have HELA : Hid (∀ i, i < l.length → ∃ b o d0 d1 d2 d3 d4 d5, al = some ⟨b, o, none⟩ ∧ ElemAt w b (o + i * 6) (V.ofJ (arrGet l i)) d0 d1 d2 d3 d4 d5) := fun i h => by
    obtain ⟨b, o, d0, d1, d2, d3, d4, d5, e, E⟩ := RV.elem (k := 0) (n := 0) (f := 0) (s := ByteArray.empty) (ks := []) hl i (by rw [V.ofJs_length]; exact h)
    rw [V.ofJs_get l i h, ← arrGet_eq h] at E
    exact ⟨b, o, d0, d1, d2, d3, d4, d5, e, E⟩
  have HELB : Hid (∀ i, i < l'.length → ∃ b o d0 d1 d2 d3 d4 d5, al' = some ⟨b, o, none⟩ ∧ ElemAt w b (o + i * 6) (V.ofJ (arrGet l' i)) d0 d1 d2 d3 d4 d5) := fun i h => by
    obtain ⟨b, o, d0, d1, d2, d3, d4, d5, e, E⟩ := RV.elem (k := 0) (n := 0) (f := 0) (s := ByteArray.empty) (ks := []) hl' i (by rw [V.ofJs_length]; exact h)
    rw [V.ofJs_get l' i h, ← arrGet_eq h] at E
    exact ⟨b, o, d0, d1, d2, d3, d4, d5, e, E⟩
  have HIH0 : Hid (∀ i, i < l.length → i < l'.length → ∀ w1 va vb, RV w1 (V.ofJ (arrGet l i)) va → RV w1 (V.ofJ (arrGet l' i)) vb → Calls Try.prog 25 #[va, vb] w1 (EvPost N (arrGet l i) (arrGet l' i) w1)) := fun i h1 h2 w1 va vb r1 r2 => by
    have t1 := arrGet_lt h1
    have t2 := arrGet_lt h2
    exact ih _ _ (by omega) (arrGet_ok (by unfold J.ok at ha; exact ha) h1) (arrGet_ok (by unfold J.ok at hb; exact hb) h2) (by omega) va vb w1 r1 r2
  have hev : evenF (N + 1) (.arr l) (.arr l') ↔ (l.length = l'.length ∧ ∀ i, i < l.length → evenF N (arrGet l i) (arrGet l' i)) := by
    rw [evenF]
  have HEV := Lib.hid hev
  clear hev hl hl' hk hk' z z' ha hb ih hn hN
  generalize hL1 : l.length = L1 at *
  generalize hL2 : l'.length = L2 at *
  have HL1 := Lib.hid hL1
  have HL2 := Lib.hid hL2
  clear hL1 hL2
  by_cases hLL : L1 = L2
  · subst hLL
    go_enter Try.func25, Try.ntmps25
    go_wp2
    generalize hw2 : World.alloc (World.alloc w _) _ = w2
    have X2 : Ext w w2 := by rw [← hw2]; exact ((Ext.refl _).alloc _).alloc _
    have t0 : w2.cell? ⟨w.heap.size, 0, none⟩ = some (.int .i64 7) := by rw [← hw2]; exact (box1_cell _ _ _ _ 0).trans rfl
    have t1 : w2.cell? ⟨w.heap.size + 1, 0, none⟩ = some (.int .i64 7) := by rw [← hw2]; exact (box2_cell _ _ _ _ 0).trans rfl
    have t2 : w2.cell? ⟨w.heap.size, 4, none⟩ = some (.slice al L1 lc) := by rw [← hw2]; exact (box1_cell _ _ _ _ 4).trans rfl
    have t3 : w2.cell? ⟨w.heap.size + 1, 4, none⟩ = some (.slice al' L1 lc') := by rw [← hw2]; exact (box2_cell _ _ _ _ 4).trans rfl
    have HX2 := Lib.hid X2
    clear hw2 X2
    go_loopw [5] (fun i wr => ∃ m : Nat, m ≤ L1 ∧ i = .int .i64 m ∧ (∀ q, q < m → evenF N (arrGet l q) (arrGet l' q)) ∧ Ext w2 wr) (fun i _ => L1 - (intOf i).toNat)
    case atStart => exact ⟨0, Nat.zero_le _, rfl, fun q h => by omega, Ext.refl _⟩
    case round =>
      obtain ⟨m, hm, rfl, hall, hB⟩ := hrel
      have HB := Lib.hid hB
      have HA := Lib.hid hall
      clear hB hall
      by_cases hlt : m < L1
      · obtain ⟨b1, o1, d0, d1, d2, d3, d4, d5, rfl, E⟩ := HELA.out m (by omega)
        obtain ⟨b2, o2, g0, g1, g2, g3, g4, g5, rfl, G⟩ := HELB.out m (by omega)
        obtain ⟨ek, en, ef, es, eal, ell, elc, eak, ekl, ekc, rfl, rfl, rfl, rfl, rfl, rfl⟩ := E.rv.shape
        obtain ⟨fk, fn, ff, fs, fal, fll, flc, fak, fkl, fkc, rfl, rfl, rfl, rfl, rfl, rfl⟩ := G.rv.shape
        have HE := Lib.hid E.rv
        have HG := Lib.hid G.rv
        have hM1 : (m : Int) < (L1 : Int) := by omega
        have hM0 : (0 : Int) ≤ (m : Int) := by omega
        have HIH : Hid (∀ w1, Ext w2 w1 → Calls Try.prog 25 #[(.agg #[.int .i64 ek, .int .i64 en, .float .f64 ef, .string es, .slice eal ell elc, .slice eak ekl ekc]), (.agg #[.int .i64 fk, .int .i64 fn, .float .f64 ff, .string fs, .slice fal fll flc, .slice fak fkl fkc])] w1 (EvPost N (arrGet l m) (arrGet l' m) w1)) := fun w1 hx =>
          HIH0.out m (by omega) (by omega) w1 _ _ (RV.keep (Ext.trans HX2.out hx).keep _ HE.out) (RV.keep (Ext.trans HX2.out hx).keep _ HG.out)
        have s0 := t0
        have s1 := t1
        have s2 := t2
        have s3 := t3
        have s4 := HX2.out.get E.h0
        have s5 := HX2.out.get E.h1
        have s6 := HX2.out.get E.h2
        have s7 := HX2.out.get E.h3
        have s8 := HX2.out.get E.h4
        have s9 := HX2.out.get E.h5
        have s10 := HX2.out.get G.h0
        have s11 := HX2.out.get G.h1
        have s12 := HX2.out.get G.h2
        have s13 := HX2.out.get G.h3
        have s14 := HX2.out.get G.h4
        have s15 := HX2.out.get G.h5
        have r0 := HB.out.get s0
        have r1 := HB.out.get s1
        have r2 := HB.out.get s2
        have r3 := HB.out.get s3
        have r4 := HB.out.get s4
        have r5 := HB.out.get s5
        have r6 := HB.out.get s6
        have r7 := HB.out.get s7
        have r8 := HB.out.get s8
        have r9 := HB.out.get s9
        have r10 := HB.out.get s10
        have r11 := HB.out.get s11
        have r12 := HB.out.get s12
        have r13 := HB.out.get s13
        have r14 := HB.out.get s14
        have r15 := HB.out.get s15
        have d0 : wr.drew.cell? ⟨w.heap.size, 0, none⟩ = some (.int .i64 7) := r0
        have d1 : wr.drew.cell? ⟨w.heap.size + 1, 0, none⟩ = some (.int .i64 7) := r1
        have d2 : wr.drew.cell? ⟨w.heap.size, 4, none⟩ = some (.slice (some ⟨b1, o1, none⟩) L1 lc) := r2
        have d3 : wr.drew.cell? ⟨w.heap.size + 1, 4, none⟩ = some (.slice (some ⟨b2, o2, none⟩) L1 lc') := r3
        have d4 : wr.drew.cell? ⟨b1, o1 + m * 6, none⟩ = some (.int .i64 ek) := r4
        have d5 : wr.drew.cell? ⟨b1, o1 + m * 6 + 1, none⟩ = some (.int .i64 en) := r5
        have d6 : wr.drew.cell? ⟨b1, o1 + m * 6 + 2, none⟩ = some (.float .f64 ef) := r6
        have d7 : wr.drew.cell? ⟨b1, o1 + m * 6 + 3, none⟩ = some (.string es) := r7
        have d8 : wr.drew.cell? ⟨b1, o1 + m * 6 + 4, none⟩ = some (.slice eal ell elc) := r8
        have d9 : wr.drew.cell? ⟨b1, o1 + m * 6 + 5, none⟩ = some (.slice eak ekl ekc) := r9
        have d10 : wr.drew.cell? ⟨b2, o2 + m * 6, none⟩ = some (.int .i64 fk) := r10
        have d11 : wr.drew.cell? ⟨b2, o2 + m * 6 + 1, none⟩ = some (.int .i64 fn) := r11
        have d12 : wr.drew.cell? ⟨b2, o2 + m * 6 + 2, none⟩ = some (.float .f64 ff) := r12
        have d13 : wr.drew.cell? ⟨b2, o2 + m * 6 + 3, none⟩ = some (.string fs) := r13
        have d14 : wr.drew.cell? ⟨b2, o2 + m * 6 + 4, none⟩ = some (.slice fal fll flc) := r14
        have d15 : wr.drew.cell? ⟨b2, o2 + m * 6 + 5, none⟩ = some (.slice fak fkl fkc) := r15
        go_wp2_with fail
        go_region_held3 (fun w' => w'.cell? ⟨w.heap.size, 0, none⟩ = some (.int .i64 7) ∧ w'.cell? ⟨w.heap.size + 1, 0, none⟩ = some (.int .i64 7) ∧ w'.cell? ⟨w.heap.size, 4, none⟩ = some (.slice (some ⟨b1, o1, none⟩) L1 lc) ∧ w'.cell? ⟨w.heap.size + 1, 4, none⟩ = some (.slice (some ⟨b2, o2, none⟩) L1 lc') ∧ w'.cell? ⟨b1, o1 + m * 6, none⟩ = some (.int .i64 ek) ∧ w'.cell? ⟨b1, o1 + m * 6 + 1, none⟩ = some (.int .i64 en) ∧ w'.cell? ⟨b1, o1 + m * 6 + 2, none⟩ = some (.float .f64 ef) ∧ w'.cell? ⟨b1, o1 + m * 6 + 3, none⟩ = some (.string es) ∧ w'.cell? ⟨b1, o1 + m * 6 + 4, none⟩ = some (.slice eal ell elc) ∧ w'.cell? ⟨b1, o1 + m * 6 + 5, none⟩ = some (.slice eak ekl ekc) ∧ w'.cell? ⟨b2, o2 + m * 6, none⟩ = some (.int .i64 fk) ∧ w'.cell? ⟨b2, o2 + m * 6 + 1, none⟩ = some (.int .i64 fn) ∧ w'.cell? ⟨b2, o2 + m * 6 + 2, none⟩ = some (.float .f64 ff) ∧ w'.cell? ⟨b2, o2 + m * 6 + 3, none⟩ = some (.string fs) ∧ w'.cell? ⟨b2, o2 + m * 6 + 4, none⟩ = some (.slice fal fll flc) ∧ w'.cell? ⟨b2, o2 + m * 6 + 5, none⟩ = some (.slice fak fkl fkc))
          (first
            | (go_split_ands
               with_reducible exact ⟨k5.get s0, k5.get s1, k5.get s2, k5.get s3, k5.get s4, k5.get s5, k5.get s6, k5.get s7, k5.get s8, k5.get s9, k5.get s10, k5.get s11, k5.get s12, k5.get s13, k5.get s14, k5.get s15⟩)
            | (go_split_ands
               with_reducible exact ⟨d0, d1, d2, d3, d4, d5, d6, d7, d8, d9, d10, d11, d12, d13, d14, d15⟩)
            | (go_split_ands
               with_reducible exact ⟨r0, r1, r2, r3, r4, r5, r6, r7, r8, r9, r10, r11, r12, r13, r14, r15⟩)
            | go_keep)
          (first
            | (go_at_call 25; refine (HIH.out _ (by first | exact Ext.drew HB.out | exact HB.out)).mono ?_; rintro e w5 ⟨r, rfl, hr, hx5⟩; have HR := Lib.hid hr; have X5 : Hid (Ext w2 w5) := (by first | exact Ext.trans (Ext.drew HB.out) hx5 | exact Ext.trans HB.out hx5); have k5 := X5.out.keep; clear hr hx5))
        cases r
        all_goals go_wp2_with fail
        · go_ret
          exact ⟨false, rfl, fun h => (by cases h), Ext.trans HX2.out X5.out⟩
        · go_roundw
          case rel => exact ⟨m + 1, by omega, by go_num, fun q hq => by
            by_cases hqm : q = m
            · subst hqm; first | exact HR.out rfl | exact HR.out trivial
            · exact HA.out q (by omega), X5.out⟩
          case measure => simp [intOf]; omega
      · have HEVF : Hid (evenF (N + 1) (.arr l) (.arr l')) := HEV.out.2 ⟨by first | rfl | trivial, fun i hi => HA.out i (by omega)⟩
        have r0 := HB.out.get t0
        have r1 := HB.out.get t1
        have r2 := HB.out.get t2
        have r3 := HB.out.get t3
        clear HELA HELB HIH0 HEV HA
        go_wp2
        go_ret
        exact ⟨true, rfl, fun _ => HEVF.out, Ext.trans HX2.out HB.out⟩
  · have hne : ((L1 : Int) != (L2 : Int)) = true := by simp; omega
    clear HELA HELB HIH0 HEV
    go_enter Try.func25, Try.ntmps25
    go_wp2
    go_ret
    exact ⟨false, rfl, fun h => (by cases h), ((Ext.refl _).alloc _).alloc _⟩

set_option maxRecDepth 100000 in
set_option maxHeartbeats 16000000 in
theorem evenly_obj (N : Nat) (ih : EvAt N) (ks ks' : List ByteArray) (l l' : List J) (hn : (J.obj ks l).nodes + (J.obj ks' l').nodes ≤ N + 1) (hN : N + 1 ≤ 2000) (ha : (J.obj ks l).ok) (hb : (J.obj ks' l').ok)
    (va vb : Value) (w : World) (hva : RV w (V.ofJ (.obj ks l)) va) (hvb : RV w (V.ofJ (.obj ks' l')) vb) :
    Calls Try.prog 25 #[va, vb] w (EvPost (N + 1) (.obj ks l) (.obj ks' l') w) := by
  have hl1 : l.length ≤ 2000 := by have := J.nodesL_len l; simp only [J.nodes] at hn; omega
  have hl2 : l'.length ≤ 2000 := by have := J.nodesL_len l'; simp only [J.nodes] at hn; omega
  have hoka := ha
  have hokb := hb
  unfold J.ok at hoka hokb
  have hkl : ks.length = l.length := hoka.2.1
  have HMB : Hid (∀ w1, Ext w w1 → ∀ s, Calls Try.prog 59 #[vb, .string s] w1 (ValPost (look ks' l' s) w1)) := fun w1 hx s => memberOf_any ks' l' s hb (by omega) vb w1 (RV.keep hx.keep _ hvb)
  have HIH0 : Hid (∀ s, s ∈ ks → ∀ w1 va vb, RV w1 (V.ofJ (look ks l s)) va → RV w1 (V.ofJ (look ks' l' s)) vb → Calls Try.prog 25 #[va, vb] w1 (EvPost N (look ks l s) (look ks' l' s) w1)) := fun s hs w1 va vb r1 r2 => by
    have t1 := look_lt hoka.2.1 hokb.2.1 (mem_keysU.2 (Or.inl hs))
    exact ih _ _ (by omega) (look_ok hoka.2.2 s) (look_ok hokb.2.2 s) (by omega) va vb w1 r1 r2
  have HEV : Hid ((∀ i, (h : i < ks.length) → evenF N (look ks l ks[i]) (look ks' l' ks[i])) → evenF (N + 1) (.obj ks l) (.obj ks' l')) := fun h => by
    unfold evenF
    intro k hk
    by_cases hm : k ∈ ks
    · obtain ⟨i, hi, rfl⟩ := List.getElem_of_mem hm
      exact h i hi
    · rw [look_miss hm]
      exact evenF_null _ _
  have HLK : Hid (∀ i, (h : i < ks.length) → (h' : i < l.length) → look ks l ks[i] = l[i]) := fun i h h' => look_hit h' (List.getElem?_eq_getElem h) hoka.1
  unfold V.ofJ RV at hva hvb
  obtain ⟨al, lc, ak, kc, rfl, z, hl, hk⟩ := hva
  obtain ⟨al', lc', ak', kc', rfl, -, -, -⟩ := hvb
  have HELA : Hid (∀ i, (h : i < ks.length) → ∃ b o d0 d1 d2 d3 d4 d5, al = some ⟨b, o, none⟩ ∧ ElemAt w b (o + i * 6) (V.ofJ (look ks l ks[i])) d0 d1 d2 d3 d4 d5) := fun i h => by
    have h' : i < l.length := by omega
    obtain ⟨b, o, d0, d1, d2, d3, d4, d5, e, E⟩ := RV.elem (k := 0) (n := 0) (f := 0) (s := ByteArray.empty) (ks := []) hl i (by rw [V.ofJs_length]; exact h')
    rw [V.ofJs_get l i h', ← HLK.out i h h'] at E
    exact ⟨b, o, d0, d1, d2, d3, d4, d5, e, E⟩
  have HKS := Lib.hid hk
  rw [V.ofJs_length, V.ofJs_length] at *
  clear ha hb ih hn hN hoka hokb hl hk z HLK
  have HKL := Lib.hid hkl
  rw [← hkl]
  rw [← hkl] at hl1
  clear hkl
  generalize l'.length = L2 at *
  generalize ks'.length = M2 at *
  go_enter Try.func25, Try.ntmps25
  go_wp2
  generalize hw2 : World.alloc (World.alloc w _) _ = w2
  have X2 : Ext w w2 := by rw [← hw2]; exact ((Ext.refl _).alloc _).alloc _
  have t0 : w2.cell? ⟨w.heap.size, 4, none⟩ = some (.slice al ks.length lc) := by rw [← hw2]; exact (box1_cell _ _ _ _ 4).trans rfl
  have t1 : w2.cell? ⟨w.heap.size, 5, none⟩ = some (.slice ak ks.length kc) := by rw [← hw2]; exact (box1_cell _ _ _ _ 5).trans rfl
  have t2 : w2.cell? ⟨w.heap.size + 1, 0, none⟩ = some (.int .i64 8) := by rw [← hw2]; exact (box2_cell _ _ _ _ 0).trans rfl
  have t3 : w2.cell? ⟨w.heap.size + 1, 1, none⟩ = some (.int .i64 0) := by rw [← hw2]; exact (box2_cell _ _ _ _ 1).trans rfl
  have t4 : w2.cell? ⟨w.heap.size + 1, 2, none⟩ = some (.float .f64 0) := by rw [← hw2]; exact (box2_cell _ _ _ _ 2).trans rfl
  have t5 : w2.cell? ⟨w.heap.size + 1, 3, none⟩ = some (.string ByteArray.empty) := by rw [← hw2]; exact (box2_cell _ _ _ _ 3).trans rfl
  have t6 : w2.cell? ⟨w.heap.size + 1, 4, none⟩ = some (.slice al' L2 lc') := by rw [← hw2]; exact (box2_cell _ _ _ _ 4).trans rfl
  have t7 : w2.cell? ⟨w.heap.size + 1, 5, none⟩ = some (.slice ak' M2 kc') := by rw [← hw2]; exact (box2_cell _ _ _ _ 5).trans rfl
  have HX2 := Lib.hid X2
  clear hw2 X2
  go_loopw [6] (fun i wr => ∃ m : Nat, m ≤ ks.length ∧ i = .int .i64 m ∧ (∀ q, (h : q < ks.length) → q < m → evenF N (look ks l ks[q]) (look ks' l' ks[q])) ∧ Ext w2 wr) (fun i _ => ks.length - (intOf i).toNat)
  case atStart => exact ⟨0, Nat.zero_le _, rfl, fun q _ h => by omega, Ext.refl _⟩
  case round =>
    obtain ⟨m, hm, rfl, hall, hB⟩ := hrel
    have HB := Lib.hid hB
    have HA := Lib.hid hall
    clear hB hall
    by_cases hlt : m < ks.length
    · obtain ⟨b1, o1, d0, d1, d2, d3, d4, d5, rfl, E⟩ := HELA.out m hlt
      obtain ⟨bK, oK, rfl, hKc⟩ := HKS.out (by intro e; subst e; simp at hlt)
      obtain ⟨ek, en, ef, es, eal, ell, elc, eak, ekl, ekc, rfl, rfl, rfl, rfl, rfl, rfl⟩ := E.rv.shape
      have HE := Lib.hid E.rv
      have hK0 := hKc m hlt
      have HMEM : Hid (ks[m] ∈ ks) := List.getElem_mem hlt
      have HNX : Hid (∀ q, (h : q < ks.length) → q < m + 1 → evenF N (look ks l ks[m]) (look ks' l' ks[m]) → evenF N (look ks l ks[q]) (look ks' l' ks[q])) := fun q h hq hx => by
        by_cases hqm : q = m
        · subst hqm; exact hx
        · exact HA.out q h (by omega)
      generalize ks[m] = kx at *
      have hM1 : (m : Int) < (ks.length : Int) := by omega
      have hM0 : (0 : Int) ≤ (m : Int) := by omega
      have HIH : Hid (∀ w1 vb, Ext w2 w1 → RV w1 (V.ofJ (look ks' l' kx)) vb → Calls Try.prog 25 #[(.agg #[.int .i64 ek, .int .i64 en, .float .f64 ef, .string es, .slice eal ell elc, .slice eak ekl ekc]), vb] w1 (EvPost N (look ks l kx) (look ks' l' kx) w1)) := fun w1 vb hx rb =>
        HIH0.out kx HMEM.out w1 _ _ (RV.keep (Ext.trans HX2.out hx).keep _ HE.out) rb
      have s0 := t0
      have s1 := t1
      have s2 := t2
      have s3 := t3
      have s4 := t4
      have s5 := t5
      have s6 := t6
      have s7 := t7
      have s8 := HX2.out.get E.h0
      have s9 := HX2.out.get E.h1
      have s10 := HX2.out.get E.h2
      have s11 := HX2.out.get E.h3
      have s12 := HX2.out.get E.h4
      have s13 := HX2.out.get E.h5
      have s14 := HX2.out.get hK0
      have r0 := HB.out.get s0
      have r1 := HB.out.get s1
      have r2 := HB.out.get s2
      have r3 := HB.out.get s3
      have r4 := HB.out.get s4
      have r5 := HB.out.get s5
      have r6 := HB.out.get s6
      have r7 := HB.out.get s7
      have r8 := HB.out.get s8
      have r9 := HB.out.get s9
      have r10 := HB.out.get s10
      have r11 := HB.out.get s11
      have r12 := HB.out.get s12
      have r13 := HB.out.get s13
      have r14 := HB.out.get s14
      have d0 : wr.drew.cell? ⟨w.heap.size, 4, none⟩ = some (.slice (some ⟨b1, o1, none⟩) ks.length lc) := r0
      have d1 : wr.drew.cell? ⟨w.heap.size, 5, none⟩ = some (.slice (some ⟨bK, oK, none⟩) ks.length kc) := r1
      have d2 : wr.drew.cell? ⟨w.heap.size + 1, 0, none⟩ = some (.int .i64 8) := r2
      have d3 : wr.drew.cell? ⟨w.heap.size + 1, 1, none⟩ = some (.int .i64 0) := r3
      have d4 : wr.drew.cell? ⟨w.heap.size + 1, 2, none⟩ = some (.float .f64 0) := r4
      have d5 : wr.drew.cell? ⟨w.heap.size + 1, 3, none⟩ = some (.string ByteArray.empty) := r5
      have d6 : wr.drew.cell? ⟨w.heap.size + 1, 4, none⟩ = some (.slice al' L2 lc') := r6
      have d7 : wr.drew.cell? ⟨w.heap.size + 1, 5, none⟩ = some (.slice ak' M2 kc') := r7
      have d8 : wr.drew.cell? ⟨b1, o1 + m * 6, none⟩ = some (.int .i64 ek) := r8
      have d9 : wr.drew.cell? ⟨b1, o1 + m * 6 + 1, none⟩ = some (.int .i64 en) := r9
      have d10 : wr.drew.cell? ⟨b1, o1 + m * 6 + 2, none⟩ = some (.float .f64 ef) := r10
      have d11 : wr.drew.cell? ⟨b1, o1 + m * 6 + 3, none⟩ = some (.string es) := r11
      have d12 : wr.drew.cell? ⟨b1, o1 + m * 6 + 4, none⟩ = some (.slice eal ell elc) := r12
      have d13 : wr.drew.cell? ⟨b1, o1 + m * 6 + 5, none⟩ = some (.slice eak ekl ekc) := r13
      have d14 : wr.drew.cell? ⟨bK, oK + m, none⟩ = some (.string kx) := r14
      go_wp2_with fail
      go_region_held3 (fun w' => w'.cell? ⟨w.heap.size, 4, none⟩ = some (.slice (some ⟨b1, o1, none⟩) ks.length lc) ∧ w'.cell? ⟨w.heap.size, 5, none⟩ = some (.slice (some ⟨bK, oK, none⟩) ks.length kc) ∧ w'.cell? ⟨w.heap.size + 1, 0, none⟩ = some (.int .i64 8) ∧ w'.cell? ⟨w.heap.size + 1, 1, none⟩ = some (.int .i64 0) ∧ w'.cell? ⟨w.heap.size + 1, 2, none⟩ = some (.float .f64 0) ∧ w'.cell? ⟨w.heap.size + 1, 3, none⟩ = some (.string ByteArray.empty) ∧ w'.cell? ⟨w.heap.size + 1, 4, none⟩ = some (.slice al' L2 lc') ∧ w'.cell? ⟨w.heap.size + 1, 5, none⟩ = some (.slice ak' M2 kc') ∧ w'.cell? ⟨b1, o1 + m * 6, none⟩ = some (.int .i64 ek) ∧ w'.cell? ⟨b1, o1 + m * 6 + 1, none⟩ = some (.int .i64 en) ∧ w'.cell? ⟨b1, o1 + m * 6 + 2, none⟩ = some (.float .f64 ef) ∧ w'.cell? ⟨b1, o1 + m * 6 + 3, none⟩ = some (.string es) ∧ w'.cell? ⟨b1, o1 + m * 6 + 4, none⟩ = some (.slice eal ell elc) ∧ w'.cell? ⟨b1, o1 + m * 6 + 5, none⟩ = some (.slice eak ekl ekc) ∧ w'.cell? ⟨bK, oK + m, none⟩ = some (.string kx))
        (first
          | (go_split_ands
             with_reducible exact ⟨k5.get s0, k5.get s1, k5.get s2, k5.get s3, k5.get s4, k5.get s5, k5.get s6, k5.get s7, k5.get s8, k5.get s9, k5.get s10, k5.get s11, k5.get s12, k5.get s13, k5.get s14⟩)
          | (go_split_ands
             with_reducible exact ⟨k4.get s0, k4.get s1, k4.get s2, k4.get s3, k4.get s4, k4.get s5, k4.get s6, k4.get s7, k4.get s8, k4.get s9, k4.get s10, k4.get s11, k4.get s12, k4.get s13, k4.get s14⟩)
          | (go_split_ands
             with_reducible exact ⟨d0, d1, d2, d3, d4, d5, d6, d7, d8, d9, d10, d11, d12, d13, d14⟩)
          | (go_split_ands
             with_reducible exact ⟨r0, r1, r2, r3, r4, r5, r6, r7, r8, r9, r10, r11, r12, r13, r14⟩)
          | go_keep)
        (first
          | (go_at_call 59; refine (HMB.out _ (Ext.trans HX2.out (by first | exact Ext.drew HB.out | exact HB.out)) kx).mono ?_; rintro e w4 ⟨vb1, rfl, rvb, hx4⟩; have RB1 := Lib.hid rvb; have X4 : Hid (Ext w2 w4) := (by first | exact Ext.trans (Ext.drew HB.out) hx4 | exact Ext.trans HB.out hx4); have k4 := X4.out.keep; clear rvb hx4)
          | (go_at_call 25; refine (HIH.out _ _ X4.out RB1.out).mono ?_; rintro e w5 ⟨r, rfl, hr, hx5⟩; have HR := Lib.hid hr; have X5 : Hid (Ext w2 w5) := Ext.trans X4.out hx5; have k5 := X5.out.keep; clear hr hx5))
      cases r
      all_goals go_wp2_with fail
      · go_ret
        exact ⟨false, rfl, fun h => (by cases h), Ext.trans HX2.out X5.out⟩
      · go_roundw
        case rel => exact ⟨m + 1, by omega, by go_num, fun q h hq => HNX.out q h hq (by first | exact HR.out rfl | exact HR.out trivial), X5.out⟩
        case measure => simp [intOf]; omega
    · have HEVF : Hid (evenF (N + 1) (.obj ks l) (.obj ks' l')) := HEV.out fun i hi => HA.out i hi (by omega)
      have r0 := HB.out.get t0
      have r1 := HB.out.get t1
      clear HELA HIH0 HEV HA
      go_wp2
      go_ret
      exact ⟨true, rfl, fun _ => HEVF.out, Ext.trans HX2.out HB.out⟩

theorem evenly_any : ∀ n, EvAt n
  | 0 => fun a b h => by have := J.nodes_pos a; omega
  | N + 1 => fun a b h ha hb hN va vb w hva hvb => by
    have other : ¬ ((V.ofJ a).kind = 7 ∧ (V.ofJ b).kind = 7) → ¬ ((V.ofJ a).kind = 8 ∧ (V.ofJ b).kind = 8) → evenF (N + 1) a b → Calls Try.prog 25 #[va, vb] w (EvPost (N + 1) a b w) := fun h7 h8 he =>
      (evenly_other _ _ h7 h8 va vb w hva hvb).mono fun e w' ⟨h1, h2⟩ => ⟨true, h1, fun _ => he, h2⟩
    cases a <;> cases b
    case arr.arr l l' => exact evenly_arr N (evenly_any N) l l' h hN ha hb va vb w hva hvb
    case obj.obj ks l ks' l' => exact evenly_obj N (evenly_any N) ks ks' l l' h hN ha hb va vb w hva hvb
    all_goals exact other (by simp [V.ofJ, V.kind]) (by simp [V.ofJ, V.kind]) (by simp [evenF])
end Go.Proofs.Ytikpedfggbibpaa
namespace Go.Proofs.Ytikpedfggbibpaa
open Go.RowKit Go.Lib
set_option linter.unusedVariables false
set_option linter.unusedSimpArgs false

/-- an ignored path is none, or has steps -/
def IgNe : Ig → Prop
  | none => True
  | some q => 0 < q.length
theorem difF_cov (n : Nat) (a b : J) : ∀ (g : Ig), IgNe g → difF n g a b = (difF n none a b).filter fun p => !covIg g p
  | none, _ => (List.filter_eq_self.2 (fun p _ => rfl)).symm
  | some [], h => by simp [IgNe] at h
  | some (x :: r), _ => difF_ig n x r a b

/-- what Diff tells beside ignored paths, and what the definition leaves of all places -/
theorem told_left {n : Nat} {a b : J} {g : Ig} (hg : IgNe g) {ps qs : List (List Step)} (hps : ps.Perm (difF n g a b)) (hqs : qs.Perm ((difF n none a b).map ([] ++ ·))) (hnd : (difF n none a b).Nodup) :
    ps.Nodup ∧ ps.Perm (qs.filter fun p => !covIg g p) := by
  rw [difF_cov n a b g hg] at hps
  have e : (difF n none a b).map ([] ++ ·) = difF n none a b := by simp
  rw [e] at hqs
  refine ⟨hps.nodup_iff.2 ((List.filter_sublist).nodup hnd), hps.trans (hqs.symm.filter _)⟩

/-- a fragment of an ignored path is one that the statement takes -/
def GoodAt (w : World) (b o : Nat) (i : Nat) : Prop := ∃ (x : Option Step) (cs : List Value), (∀ n : Int, x = some (.nth n) → 0 ≤ n) ∧ CellsAt w b (o + i * 13) cs ∧ QFr w x cs
theorem GoodAt.all {w : World} {b o : Nat} : ∀ {l : Nat}, (∀ i, i < l → GoodAt w b o i) → ∃ q : List (Option Step), q.length = l ∧ QAt w b o q ∧ IgOk (some q)
  | 0, _ => ⟨[], rfl, fun i h => by simp at h, fun n h => by simp at h⟩
  | l + 1, h => by
    obtain ⟨q, h1, h2, h3⟩ := GoodAt.all (l := l) (fun i hi => h i (by omega))
    obtain ⟨x, cs, h4, h5, h6⟩ := h l (by omega)
    refine ⟨q ++ [x], by simp [h1], fun i hi => ?_, fun n hn => ?_⟩
    · by_cases hc : i < q.length
      · rw [List.getElem_append_left hc]
        exact h2 i hc
      · have hil : i = l := by simp at hi; omega
        subst hil
        rw [List.getElem_append_right (by omega)]
        simp only [h1, Nat.sub_self, List.getElem_singleton]
        exact ⟨cs, h5, h6⟩
    · rcases List.mem_append.1 hn with h7 | h7
      · exact h3 n h7
      · exact h4 n (List.mem_singleton.1 h7).symm

set_option maxRecDepth 100000 in
set_option maxHeartbeats 8000000 in
theorem implDiffE (ai : Option Addr) (ci : Nat) (a b : J) (ha : a.ok) (han : a.nofl) (hb : b.ok) (hbn : b.nofl) (hsa : a.nodes ≤ 1000) (hsb : b.nodes ≤ 1000) (va vb : Value) (w : World) (h1 : RV w (V.ofJ a) va) (h2 : RV w (V.ofJ b) vb) :
    Calls Try.prog 21 #[va, vb, .slice ai 0 ci, .bool false] w (IDPost none a b w) := by
  have HRF : Hid (∀ w1, Keep w w1 → Calls Try.prog 37 #[va] w1 (Gives (.bool true) w1)) := fun w1 hk => right_any a.nodes a (Nat.le_refl _) ha va w1 (RV.keep hk _ h1)
  have HRT : Hid (∀ w1, Keep w w1 → Calls Try.prog 37 #[vb] w1 (Gives (.bool true) w1)) := fun w1 hk => right_any b.nodes b (Nat.le_refl _) hb vb w1 (RV.keep hk _ h2)
  have HBF : Hid (∀ w1, Keep w w1 → Calls Try.prog 38 #[va] w1 (Gives (.bool false) w1)) := fun w1 hk => big_any a.nodes a (Nat.le_refl _) va w1 (RV.keep hk _ h1)
  have HBT : Hid (∀ w1, Keep w w1 → Calls Try.prog 38 #[vb] w1 (Gives (.bool false) w1)) := fun w1 hk => big_any b.nodes b (Nat.le_refl _) vb w1 (RV.keep hk _ h2)
  have HPF : Hid (∀ w1, Keep w w1 → Calls Try.prog 40 #[va] w1 (PlainPost a w1)) := fun w1 hk => plain_any a.nodes a (Nat.le_refl _) ha va w1 (RV.keep hk _ h1)
  have HPT : Hid (∀ w1, Keep w w1 → Calls Try.prog 40 #[vb] w1 (PlainPost b w1)) := fun w1 hk => plain_any b.nodes b (Nat.le_refl _) hb vb w1 (RV.keep hk _ h2)
  have HM : Hid (∀ x y w1, RA w1 0 a x → RA w1 0 b y → Calls Try.prog 65 #[x, y, .slice none 0 0] w1 (DiffPost (a.nodes + b.nodes) none a b w1)) := fun x y w1 hx hy => altDiff_any a b ha han hb hbn hsa hsb none trivial (Or.inl rfl) x y _ w1 hx hy ⟨none, 0, rfl⟩
  have HBN : Hid (a.ok ∧ b.ok ∧ a.nodes ≤ 1000 ∧ b.nodes ≤ 1000) := ⟨ha, hb, hsa, hsb⟩
  obtain ⟨fk, fn, ff, fs, fal, fll, flc, fak, fkl, fkc, rfl⟩ := h1.sh
  obtain ⟨tk, tn, tf, ts, tal, tll, tlc, tak, tkl, tkc, rfl⟩ := h2.sh
  clear h1 h2 ha han hb hbn hsa hsb
  go_enter Try.func21, Try.ntmps21
  have K0 : Hid (Keep w ((w.alloc (.cells #[.int .i64 fk, .int .i64 fn, .float .f64 ff, .string fs, .slice fal fll flc, .slice fak fkl fkc] 26)).alloc (.cells #[.int .i64 tk, .int .i64 tn, .float .f64 tf, .string ts, .slice tal tll tlc, .slice tak tkl tkc] 26))) := (Keep.alloc _ _).trans (Keep.alloc _ _)
  have T0 : Hid (Two w ((w.alloc (.cells #[.int .i64 fk, .int .i64 fn, .float .f64 ff, .string fs, .slice fal fll flc, .slice fak fkl fkc] 26)).alloc (.cells #[.int .i64 tk, .int .i64 tn, .float .f64 tf, .string ts, .slice tal tll tlc, .slice tak tkl tkc] 26)) _ _ _ _ _ _ _ _ _ _ _ _) := Two.of (Keep.refl _)
  have X0 : Hid (Ext w ((w.alloc (.cells #[.int .i64 fk, .int .i64 fn, .float .f64 ff, .string fs, .slice fal fll flc, .slice fak fkl fkc] 26)).alloc (.cells #[.int .i64 tk, .int .i64 tn, .float .f64 tf, .string ts, .slice tal tll tlc, .slice tak tkl tkc] 26))) := ((Ext.refl _).alloc _).alloc _
  go_wp2_with (go_at_call 37; refine (HRF.out _ K0.out).mono ?_; rintro e w1 ⟨rfl, hb1⟩; have K1 : Hid (Keep w w1) := K0.out.trans hb1.keep; have X1 : Hid (Ext w w1) := X0.out.trans hb1; have T1 : Hid (Two w w1 _ _ _ _ _ _ _ _ _ _ _ _) := T0.out.keep hb1.keep; obtain ⟨a0, a1, a2, a3, a4, a5, e0, e1, e2, e3, e4, e5⟩ := T1.out; clear hb1 HRF K0 T0 X0)
  go_wp2_with (go_at_call 37; refine (HRT.out _ K1.out).mono ?_; rintro e w2 ⟨rfl, hb1⟩; have K2 : Hid (Keep w w2) := K1.out.trans hb1.keep; have X2 : Hid (Ext w w2) := X1.out.trans hb1; have T2 : Hid (Two w w2 _ _ _ _ _ _ _ _ _ _ _ _) := T1.out.keep hb1.keep; clear a0 a1 a2 a3 a4 a5 e0 e1 e2 e3 e4 e5; obtain ⟨a0, a1, a2, a3, a4, a5, e0, e1, e2, e3, e4, e5⟩ := T2.out; clear hb1 HRT K1 T1 X1)
  go_wp2_with (go_at_call 38; refine (HBF.out _ K2.out).mono ?_; rintro e w3 ⟨rfl, hb1⟩; have K3 : Hid (Keep w w3) := K2.out.trans hb1.keep; have X3 : Hid (Ext w w3) := X2.out.trans hb1; have T3 : Hid (Two w w3 _ _ _ _ _ _ _ _ _ _ _ _) := T2.out.keep hb1.keep; clear a0 a1 a2 a3 a4 a5 e0 e1 e2 e3 e4 e5; obtain ⟨a0, a1, a2, a3, a4, a5, e0, e1, e2, e3, e4, e5⟩ := T3.out; clear hb1 HBF K2 T2 X2)
  go_wp2_with (go_at_call 38; refine (HBT.out _ K3.out).mono ?_; rintro e w4 ⟨rfl, hb1⟩; have K4 : Hid (Keep w w4) := K3.out.trans hb1.keep; have X4 : Hid (Ext w w4) := X3.out.trans hb1; have T4 : Hid (Two w w4 _ _ _ _ _ _ _ _ _ _ _ _) := T3.out.keep hb1.keep; clear a0 a1 a2 a3 a4 a5 e0 e1 e2 e3 e4 e5; obtain ⟨a0, a1, a2, a3, a4, a5, e0, e1, e2, e3, e4, e5⟩ := T4.out; clear hb1 HBT K3 T3 X3)
  refine wp_loop_rounds 1 ?_
  rw [rounds_succ]
  go_wp2_with fail
  go_region_held3 (fun w' => w'.cell? ⟨w.heap.size, 0, none⟩ = some (.int .i64 fk) ∧ w'.cell? ⟨w.heap.size, 1, none⟩ = some (.int .i64 fn) ∧ w'.cell? ⟨w.heap.size, 2, none⟩ = some (.float .f64 ff) ∧ w'.cell? ⟨w.heap.size, 3, none⟩ = some (.string fs) ∧ w'.cell? ⟨w.heap.size, 4, none⟩ = some (.slice fal fll flc) ∧ w'.cell? ⟨w.heap.size, 5, none⟩ = some (.slice fak fkl fkc) ∧ w'.cell? ⟨w.heap.size + 1, 0, none⟩ = some (.int .i64 tk) ∧ w'.cell? ⟨w.heap.size + 1, 1, none⟩ = some (.int .i64 tn) ∧ w'.cell? ⟨w.heap.size + 1, 2, none⟩ = some (.float .f64 tf) ∧ w'.cell? ⟨w.heap.size + 1, 3, none⟩ = some (.string ts) ∧ w'.cell? ⟨w.heap.size + 1, 4, none⟩ = some (.slice tal tll tlc) ∧ w'.cell? ⟨w.heap.size + 1, 5, none⟩ = some (.slice tak tkl tkc))
    (first
      | (go_split_ands
         with_reducible exact ⟨hk7.get a0, hk7.get a1, hk7.get a2, hk7.get a3, hk7.get a4, hk7.get a5, hk7.get e0, hk7.get e1, hk7.get e2, hk7.get e3, hk7.get e4, hk7.get e5⟩)
      | (go_split_ands
         with_reducible exact ⟨hk6.get a0, hk6.get a1, hk6.get a2, hk6.get a3, hk6.get a4, hk6.get a5, hk6.get e0, hk6.get e1, hk6.get e2, hk6.get e3, hk6.get e4, hk6.get e5⟩)
      | (go_split_ands
         with_reducible exact ⟨hk5.get a0, hk5.get a1, hk5.get a2, hk5.get a3, hk5.get a4, hk5.get a5, hk5.get e0, hk5.get e1, hk5.get e2, hk5.get e3, hk5.get e4, hk5.get e5⟩)
      | (go_split_ands
         exact ⟨a0, a1, a2, a3, a4, a5, e0, e1, e2, e3, e4, e5⟩))
    (first
      | (go_at_call 40; refine (HPF.out _ (by first | exact K4.out | exact K4.out.trans (Keep.drew _))).mono ?_; rintro e w5 ⟨x, rfl, hx, hb5⟩
         have hb5c : Ext w4 w5 := by first | exact hb5 | exact Ext.trans (Ext.drew (Ext.refl w4)) hb5
         have hk5 := hb5c.keep
         have HA := Lib.hid hx
         have B5 := Lib.hid hb5c
         clear hx hb5 hb5c HPF)
      | (go_at_call 40; refine (HPT.out _ (K4.out.trans hk5)).mono ?_; rintro e w6 ⟨y, rfl, hy, hb6⟩
         have HA6 := Lib.hid (RA.keep (hb6.keepB.from _) (Nat.zero_le _) _ HA.out)
         have HB := Lib.hid (RA.keep (KeepB.from (fun _ _ => rfl) _) (Nat.zero_le _) _ hy)
         have B6 := Lib.hid (Ext.trans B5.out hb6)
         have hk6 := B6.out.keep
         clear hy hb6 HPT HA)
      | (go_at_call 65; refine (HM.out _ _ _ HA6.out HB.out).mono ?_; rintro e w7 ⟨v, D, rfl, hp, hd, hb7⟩
         obtain ⟨ad, cd, rfl, hsh⟩ := hd.shape
         have HSH := Lib.hid hsh
         have HPD := Lib.hid hp
         have HDD := Lib.hid hd
         have B7 := Lib.hid (Ext.trans B6.out hb7)
         have hk7 := B7.out.keep
         clear hsh hp hd hb7 HM HA6 HB))
  have X7 : Hid (Ext w w7) := Ext.trans X4.out B7.out
  have hbd : D.length ≤ 2000 ∧ (∀ d ∈ D, d.2.2.length ≤ 100000) := by
    have h1 := HPD.out.length_eq
    rw [List.length_map] at h1
    obtain ⟨b1, b2, b3, b4⟩ := HBN.out
    have h2 := difF_len_le (a.nodes + b.nodes) a b none b1 b2
    refine ⟨by omega, fun d hd => ?_⟩
    have h7 := difF_path_le (a.nodes + b.nodes) a b none b1 b2 d.2.2 (HPD.out.mem_iff.1 (List.mem_map.2 ⟨d, hd, rfl⟩))
    omega
  have hDl : D.length ≤ 2000 := hbd.1
  have HPL : Hid (∀ d ∈ D, d.2.2.length ≤ 100000) := hbd.2
  clear hbd hk5 hk6 hk7 a0 a1 a2 a3 a4 a5 e0 e1 e2 e3 e4 e5 K4 T4 X4 B5 B6 B7
  go_wp2
  go_loopw [8, 74] (fun o i wr => ∃ m : Nat, m ≤ D.length ∧ i = .int .i64 m ∧ PLs GP wr w7.heap.size o ((D.take m).map (·.2.2)) ∧ Ext w7 wr) (fun _ i _ => D.length - (intOf i).toNat)
  case atStart => exact ⟨0, Nat.zero_le _, rfl, PLs.nil _ _ _, Ext.refl _⟩
  case round =>
    obtain ⟨m, hm, rfl, hpl, hx⟩ := hrel
    have HP := Lib.hid hpl
    have HX := Lib.hid hx
    clear hpl hx
    by_cases hlt : m < D.length
    · obtain ⟨d, hd⟩ : ∃ d, D[m]? = some d := ⟨D[m], List.getElem?_eq_getElem hlt⟩
      have hD0 : D ≠ [] := fun e => by rw [e] at hlt; simp at hlt
      obtain ⟨gd, cur, rfl, _, hrow⟩ := HSH.out hD0
      have hcell := HX.out.keep _ _ (hrow m d hd)
      have hap := ((HDD.out.all d (by simpa using List.mem_of_getElem? hd)).2).ext HX.out
      have HT := Lib.hid (trailOf_any d (HPL.out d (List.mem_of_getElem? hd)) wr hap)
      have HTK := Lib.hid (take_map_succ hd)
      have hl : ((D.take m).map (·.2.2)).length = m := by rw [List.length_map, List.length_take]; omega
      have HL := Lib.hid hl
      have hdv : ∃ ad2 nd2 cd2, dval d = .slice ad2 nd2 cd2 := ⟨_, _, _, rfl⟩
      clear hrow hap hd hD0 hl
      generalize dval d = dv at hcell HT hdv
      obtain ⟨ad2, nd2, cd2, rfl⟩ := hdv
      go_wp2_with (first
        | (go_at_call 64; refine (HT.out).mono ?_; rintro e w8 ⟨u, rfl, hu, hx8⟩
           obtain ⟨ua, un, uc, rfl⟩ := GP.pq.shape hu
           have HU := Lib.hid hu
           have HX8 := Lib.hid hx8
           clear hu hx8 HT)
        | (at_builtin; refine wpList_place GP.pq (.tmp 78) (.tmp 81) rfl rfl w7 w8 u8 _ ((D.take m).map (·.2.2)) d.2.2 (HP.out.ext GP.pq HX8.out) HU.out (Ext.trans HX.out HX8.out) (by rw [HL.out]; omega) w8.heap.size rfl rfl rfl ?_; intro g9 c9 w9 hp9 hx9; have HP9 := Lib.hid hp9; have HX9 := Lib.hid hx9; clear hp9 hx9))
      go_roundw
      case rel => exact ⟨m + 1, by omega, by go_num, by rw [HTK.out]; have h9 := HP9.out; rwa [HL.out] at h9, HX9.out⟩
      case measure => simp [intOf]; omega
    · have hme : m = D.length := by omega
      subst hme
      have HF : Hid (PLs GP wr w7.heap.size u8 (D.map (·.2.2))) := by have := HP.out; rwa [List.take_length] at this
      clear HP
      go_wp2
      go_ret2
      exact ⟨_, _, rfl, HPD.out, HF.out.base X7.out.size, Ext.trans X7.out HX.out⟩
end Go.Proofs.Ytikpedfggbibpaa
