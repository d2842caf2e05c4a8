/- With a path that is ignored Diff tells the places that it does not cover: laws.FnDiffIgnores returns true. Conditions: none. -/
import Derived.Test.YtikpedfggbibpaaE1

namespace Go.Proofs.Ytikpedfggbibpaa
open Go.RowKit Go.Lib
set_option linter.unusedVariables false
set_option linter.unusedSimpArgs false

theorem take_succ_get' {α : Type} {D : List α} {m : Nat} {d : α} (h : D[m]? = some d) : D.take (m + 1) = D.take m ++ [d] := by
  obtain ⟨h1, h2⟩ := List.getElem?_eq_some_iff.1 h
  rw [List.take_succ_eq_append_getElem h1, h2]
theorem box3c_cell (w : World) (A B : Obj) (cs : Array Value) (t : TypeId) (i : Nat) : (((w.alloc A).alloc B).alloc (.cells cs t)).cell? ⟨w.heap.size + 2, i, none⟩ = cs[i]? :=
  cell_of_row _ (w.heap.size + 2) i cs t (0, 0) (by
    have := heap_alloc_new ((w.alloc A).alloc B) (.cells cs t)
    rw [World.size_alloc, World.size_alloc] at this
    exact this)

theorem FE.ten {w : World} : ∀ {n : Nat} {cs : List Value}, FE w n true cs → ∃ k s an nl nc es, cs = .int .i64 k :: .string s :: .slice an nl nc :: es ∧ Ten es ∧ nl ≤ nc ∧ RowOf w 1 (fun c => ∃ i, c = [.int .i64 i]) an nl
  | 0, _, h => by unfold FE at h; exact h.elim
  | n + 1, _, ⟨k, s, an, nl, nc, al, ll, lc, es, e, hl, he, h1, h1', h2, h3, h4⟩ => by
    cases n with
    | zero => unfold FE at he; exact he.elim
    | succ n =>
      obtain ⟨op, d0, d1, d2, d3, d4, d5, ap, pl, pc, aq, ql, qc, rfl, ⟨x, hx⟩, _⟩ := he
      obtain ⟨vk, vn, vf, vs, val, vll, vlc, vak, vkl, vkc, rfl, rfl, rfl, rfl, rfl, rfl⟩ := hx.shape
      exact ⟨k, s, an, nl, nc, _, e, ⟨al, ll, lc, op, vk, vn, vf, vs, val, vll, vlc, vak, vkl, vkc, ap, pl, pc, aq, ql, qc, rfl⟩, h1', h2⟩

set_option maxRecDepth 100000 in
set_option maxHeartbeats 16000000 in
theorem law_ign_big (f t : V) (vf vt : Value) (nn : Nat) (ai : Option Addr) (ln ci : Nat) (w : World) (h1 : RV w f vf) (h2 : RV w t vt) (hI : PathsIn w nn ai ln) (hlc : ln ≤ ci) (hlr : ln ≤ reachN) (hl : 2147483647 < ln) :
    Calls Try.prog 6 #[vf, vt, .slice ai ln ci] w (Gives (.bool true) w) := by
  have HZ : Hid (∀ w1, Keep w w1 → ∀ v, v = vf ∨ v = vt → Calls Try.prog 7 #[v] w1 (SomeBool w1)) := fun w1 hk v hv => by
    rcases hv with rfl | rfl
    · exact zzFits1_any f _ w1 (RV.keep hk _ h1)
    · exact zzFits1_any t _ w1 (RV.keep hk _ h2)
  have HPF : Hid (∀ w1, Keep w w1 → Calls Try.prog 8 #[vf] w1 (DataPost f w1)) := fun w1 hk => plainData_any f vf w1 (RV.keep hk _ h1)
  have HPT : Hid (∀ w1, Keep w w1 → Calls Try.prog 8 #[vt] w1 (DataPost t w1)) := fun w1 hk => plainData_any t vt w1 (RV.keep hk _ h2)
  have HCP : Hid (∀ w1, Keep w w1 → Calls Try.prog 26 #[.slice ai ln ci] w1 (SomeBool w1)) := fun w1 hk => cleanPaths_any nn ai ln ci w1 hlr (hI.imp hk fun cs ⟨a', l', c', e, q1, q2, q3⟩ => ⟨a', l', c', e, q1, q2, q3.imp hk fun cs => FE.keep hk nn true cs⟩)
  have H1 := Lib.hid h1
  have H2 := Lib.hid h2
  have HI := Lib.hid hI
  unfold reachN at hlr
  have hl0 : (2147483647 : Int) < (ln : Int) := by omega
  obtain ⟨fk, fn, ff, fs, fal, fll, flc, fak, fkl, fkc, rfl⟩ := h1.sh
  obtain ⟨tk, tn, tf, ts, tal, tll, tlc, tak, tkl, tkc, rfl⟩ := h2.sh
  clear h1 h2 hI
  go_enter Try.func6, Try.ntmps6
  have K0 : Hid (Keep w (((w.alloc (.cells #[.int .i64 fk, .int .i64 fn, .float .f64 ff, .string fs, .slice fal fll flc, .slice fak fkl fkc] 26)).alloc (.cells #[.int .i64 tk, .int .i64 tn, .float .f64 tf, .string ts, .slice tal tll tlc, .slice tak tkl tkc] 26)).alloc (.cells #[.slice ai ln ci] 30))) := ((Keep.alloc _ _).trans (Keep.alloc _ _)).trans (Keep.alloc _ _)
  have T0 : Hid (Two w (((w.alloc (.cells #[.int .i64 fk, .int .i64 fn, .float .f64 ff, .string fs, .slice fal fll flc, .slice fak fkl fkc] 26)).alloc (.cells #[.int .i64 tk, .int .i64 tn, .float .f64 tf, .string ts, .slice tal tll tlc, .slice tak tkl tkc] 26)).alloc (.cells #[.slice ai ln ci] 30)) _ _ _ _ _ _ _ _ _ _ _ _) := Two.of (Keep.alloc _ _)
  have X0 : Hid (Ext w (((w.alloc (.cells #[.int .i64 fk, .int .i64 fn, .float .f64 ff, .string fs, .slice fal fll flc, .slice fak fkl fkc] 26)).alloc (.cells #[.int .i64 tk, .int .i64 tn, .float .f64 tf, .string ts, .slice tal tll tlc, .slice tak tkl tkc] 26)).alloc (.cells #[.slice ai ln ci] 30))) := (((Ext.refl _).alloc _).alloc _).alloc _
  have B0 : Hid ((((w.alloc (.cells #[.int .i64 fk, .int .i64 fn, .float .f64 ff, .string fs, .slice fal fll flc, .slice fak fkl fkc] 26)).alloc (.cells #[.int .i64 tk, .int .i64 tn, .float .f64 tf, .string ts, .slice tal tll tlc, .slice tak tkl tkc] 26)).alloc (.cells #[.slice ai ln ci] 30)).cell? ⟨w.heap.size + 2, 0, none⟩ = some (.slice ai ln ci)) := (box3c_cell _ _ _ _ _ 0).trans rfl
  go_wp2_with (go_at_call 7; refine (HZ.out _ K0.out _ (Or.inl rfl)).mono ?_; rintro e w1 ⟨⟨z1, rfl⟩, hb1⟩; have Kw1 : Hid (Keep w w1) := K0.out.trans hb1.keep; have Xw1 : Hid (Ext w w1) := X0.out.trans hb1; have Tw1 : Hid (Two w w1 _ _ _ _ _ _ _ _ _ _ _ _) := T0.out.keep hb1.keep; have Bw1 : Hid (w1.cell? ⟨w.heap.size + 2, 0, none⟩ = some (.slice ai ln ci)) := hb1.keep _ _ B0.out; obtain ⟨a0, a1, a2, a3, a4, a5, e0, e1, e2, e3, e4, e5⟩ := Tw1.out; have bi := Bw1.out; clear hb1; clear K0 T0 X0 B0; cases z1)
  · go_wp2
    go_ret
    exact .mk rfl Xw1.out
  go_wp2_with (go_at_call 7; refine (HZ.out _ Kw1.out _ (Or.inr rfl)).mono ?_; rintro e w2 ⟨⟨z1, rfl⟩, hb1⟩; have Kw2 : Hid (Keep w w2) := Kw1.out.trans hb1.keep; have Xw2 : Hid (Ext w w2) := Xw1.out.trans hb1; have Tw2 : Hid (Two w w2 _ _ _ _ _ _ _ _ _ _ _ _) := Tw1.out.keep hb1.keep; have Bw2 : Hid (w2.cell? ⟨w.heap.size + 2, 0, none⟩ = some (.slice ai ln ci)) := hb1.keep _ _ Bw1.out; clear a0 a1 a2 a3 a4 a5 e0 e1 e2 e3 e4 e5 bi; obtain ⟨a0, a1, a2, a3, a4, a5, e0, e1, e2, e3, e4, e5⟩ := Tw2.out; have bi := Bw2.out; clear hb1 HZ; clear Kw1 Tw1 Xw1 Bw1; cases z1)
  · go_wp2
    go_ret
    exact .mk rfl Xw2.out
  go_wp2
  go_ret
  exact .mk rfl Xw2.out

set_option maxRecDepth 100000 in
set_option maxHeartbeats 16000000 in
theorem law_ign_two (f t : V) (vf vt : Value) (nn : Nat) (ai : Option Addr) (ln ci : Nat) (w : World) (h1 : RV w f vf) (h2 : RV w t vt) (hI : PathsIn w nn ai ln) (hlc : ln ≤ ci) (hlr : ln ≤ reachN) (hl : 1 < ln) (hl2 : ln ≤ 2147483647) :
    Calls Try.prog 6 #[vf, vt, .slice ai ln ci] w (Gives (.bool true) w) := by
  have HZ : Hid (∀ w1, Keep w w1 → ∀ v, v = vf ∨ v = vt → Calls Try.prog 7 #[v] w1 (SomeBool w1)) := fun w1 hk v hv => by
    rcases hv with rfl | rfl
    · exact zzFits1_any f _ w1 (RV.keep hk _ h1)
    · exact zzFits1_any t _ w1 (RV.keep hk _ h2)
  have HPF : Hid (∀ w1, Keep w w1 → Calls Try.prog 8 #[vf] w1 (DataPost f w1)) := fun w1 hk => plainData_any f vf w1 (RV.keep hk _ h1)
  have HPT : Hid (∀ w1, Keep w w1 → Calls Try.prog 8 #[vt] w1 (DataPost t w1)) := fun w1 hk => plainData_any t vt w1 (RV.keep hk _ h2)
  have HCP : Hid (∀ w1, Keep w w1 → Calls Try.prog 26 #[.slice ai ln ci] w1 (SomeBool w1)) := fun w1 hk => cleanPaths_any nn ai ln ci w1 hlr (hI.imp hk fun cs ⟨a', l', c', e, q1, q2, q3⟩ => ⟨a', l', c', e, q1, q2, q3.imp hk fun cs => FE.keep hk nn true cs⟩)
  have H1 := Lib.hid h1
  have H2 := Lib.hid h2
  have HI := Lib.hid hI
  unfold reachN at hlr
  have hl0 : ¬ (2147483647 : Int) < (ln : Int) := by omega
  have hl1 : (1 : Int) < (ln : Int) := by omega
  obtain ⟨fk, fn, ff, fs, fal, fll, flc, fak, fkl, fkc, rfl⟩ := h1.sh
  obtain ⟨tk, tn, tf, ts, tal, tll, tlc, tak, tkl, tkc, rfl⟩ := h2.sh
  clear h1 h2 hI
  go_enter Try.func6, Try.ntmps6
  have K0 : Hid (Keep w (((w.alloc (.cells #[.int .i64 fk, .int .i64 fn, .float .f64 ff, .string fs, .slice fal fll flc, .slice fak fkl fkc] 26)).alloc (.cells #[.int .i64 tk, .int .i64 tn, .float .f64 tf, .string ts, .slice tal tll tlc, .slice tak tkl tkc] 26)).alloc (.cells #[.slice ai ln ci] 30))) := ((Keep.alloc _ _).trans (Keep.alloc _ _)).trans (Keep.alloc _ _)
  have T0 : Hid (Two w (((w.alloc (.cells #[.int .i64 fk, .int .i64 fn, .float .f64 ff, .string fs, .slice fal fll flc, .slice fak fkl fkc] 26)).alloc (.cells #[.int .i64 tk, .int .i64 tn, .float .f64 tf, .string ts, .slice tal tll tlc, .slice tak tkl tkc] 26)).alloc (.cells #[.slice ai ln ci] 30)) _ _ _ _ _ _ _ _ _ _ _ _) := Two.of (Keep.alloc _ _)
  have X0 : Hid (Ext w (((w.alloc (.cells #[.int .i64 fk, .int .i64 fn, .float .f64 ff, .string fs, .slice fal fll flc, .slice fak fkl fkc] 26)).alloc (.cells #[.int .i64 tk, .int .i64 tn, .float .f64 tf, .string ts, .slice tal tll tlc, .slice tak tkl tkc] 26)).alloc (.cells #[.slice ai ln ci] 30))) := (((Ext.refl _).alloc _).alloc _).alloc _
  have B0 : Hid ((((w.alloc (.cells #[.int .i64 fk, .int .i64 fn, .float .f64 ff, .string fs, .slice fal fll flc, .slice fak fkl fkc] 26)).alloc (.cells #[.int .i64 tk, .int .i64 tn, .float .f64 tf, .string ts, .slice tal tll tlc, .slice tak tkl tkc] 26)).alloc (.cells #[.slice ai ln ci] 30)).cell? ⟨w.heap.size + 2, 0, none⟩ = some (.slice ai ln ci)) := (box3c_cell _ _ _ _ _ 0).trans rfl
  go_wp2_with (go_at_call 7; refine (HZ.out _ K0.out _ (Or.inl rfl)).mono ?_; rintro e w1 ⟨⟨z1, rfl⟩, hb1⟩; have Kw1 : Hid (Keep w w1) := K0.out.trans hb1.keep; have Xw1 : Hid (Ext w w1) := X0.out.trans hb1; have Tw1 : Hid (Two w w1 _ _ _ _ _ _ _ _ _ _ _ _) := T0.out.keep hb1.keep; have Bw1 : Hid (w1.cell? ⟨w.heap.size + 2, 0, none⟩ = some (.slice ai ln ci)) := hb1.keep _ _ B0.out; obtain ⟨a0, a1, a2, a3, a4, a5, e0, e1, e2, e3, e4, e5⟩ := Tw1.out; have bi := Bw1.out; clear hb1; clear K0 T0 X0 B0; cases z1)
  · go_wp2
    go_ret
    exact .mk rfl Xw1.out
  go_wp2_with (go_at_call 7; refine (HZ.out _ Kw1.out _ (Or.inr rfl)).mono ?_; rintro e w2 ⟨⟨z1, rfl⟩, hb1⟩; have Kw2 : Hid (Keep w w2) := Kw1.out.trans hb1.keep; have Xw2 : Hid (Ext w w2) := Xw1.out.trans hb1; have Tw2 : Hid (Two w w2 _ _ _ _ _ _ _ _ _ _ _ _) := Tw1.out.keep hb1.keep; have Bw2 : Hid (w2.cell? ⟨w.heap.size + 2, 0, none⟩ = some (.slice ai ln ci)) := hb1.keep _ _ Bw1.out; clear a0 a1 a2 a3 a4 a5 e0 e1 e2 e3 e4 e5 bi; obtain ⟨a0, a1, a2, a3, a4, a5, e0, e1, e2, e3, e4, e5⟩ := Tw2.out; have bi := Bw2.out; clear hb1 HZ; clear Kw1 Tw1 Xw1 Bw1; cases z1)
  · go_wp2
    go_ret
    exact .mk rfl Xw2.out
  go_wp2_with (go_at_call 8; refine (HPF.out _ Kw2.out).mono ?_; rintro e w3 ⟨z1, rfl, hd1, hb1⟩; have HDF := Lib.hid hd1; have Kw3 : Hid (Keep w w3) := Kw2.out.trans hb1.keep; have Xw3 : Hid (Ext w w3) := Xw2.out.trans hb1; have Tw3 : Hid (Two w w3 _ _ _ _ _ _ _ _ _ _ _ _) := Tw2.out.keep hb1.keep; have Bw3 : Hid (w3.cell? ⟨w.heap.size + 2, 0, none⟩ = some (.slice ai ln ci)) := hb1.keep _ _ Bw2.out; clear a0 a1 a2 a3 a4 a5 e0 e1 e2 e3 e4 e5 bi; obtain ⟨a0, a1, a2, a3, a4, a5, e0, e1, e2, e3, e4, e5⟩ := Tw3.out; have bi := Bw3.out; clear hb1 hd1 HPF; clear Kw2 Tw2 Xw2 Bw2; cases z1)
  · go_wp2_with (go_at_call 20; refine (differs_any _).mono ?_; rintro e w9 ⟨rfl, hb9⟩; have X9 := Lib.hid (Ext.trans Xw3.out hb9); clear hb9)
    go_ret
    exact .mk rfl X9.out
  go_wp2_with (go_at_call 8; refine (HPT.out _ Kw3.out).mono ?_; rintro e w4 ⟨z1, rfl, hd1, hb1⟩; have HDT := Lib.hid hd1; have Kw4 : Hid (Keep w w4) := Kw3.out.trans hb1.keep; have Xw4 : Hid (Ext w w4) := Xw3.out.trans hb1; have Tw4 : Hid (Two w w4 _ _ _ _ _ _ _ _ _ _ _ _) := Tw3.out.keep hb1.keep; have Bw4 : Hid (w4.cell? ⟨w.heap.size + 2, 0, none⟩ = some (.slice ai ln ci)) := hb1.keep _ _ Bw3.out; clear a0 a1 a2 a3 a4 a5 e0 e1 e2 e3 e4 e5 bi; obtain ⟨a0, a1, a2, a3, a4, a5, e0, e1, e2, e3, e4, e5⟩ := Tw4.out; have bi := Bw4.out; clear hb1 hd1 HPT; clear Kw3 Tw3 Xw3 Bw3; cases z1)
  · go_wp2_with (go_at_call 20; refine (differs_any _).mono ?_; rintro e w9 ⟨rfl, hb9⟩; have X9 := Lib.hid (Ext.trans Xw4.out hb9); clear hb9)
    go_ret
    exact .mk rfl X9.out
  go_wp2_with (go_at_call 20; refine (differs_any _).mono ?_; rintro e w9 ⟨rfl, hb9⟩; have X9 := Lib.hid (Ext.trans Xw4.out hb9); clear hb9)
  go_ret
  exact .mk rfl X9.out

set_option maxRecDepth 100000 in
set_option maxHeartbeats 16000000 in
theorem law_ign_none (f t : V) (vf vt : Value) (nn : Nat) (ai : Option Addr) (ln ci : Nat) (w : World) (h1 : RV w f vf) (h2 : RV w t vt) (hI : PathsIn w nn ai ln) (hlc : ln ≤ ci) (hlr : ln ≤ reachN) (hl : ln = 0) :
    Calls Try.prog 6 #[vf, vt, .slice ai ln ci] w (Gives (.bool true) w) := by
  subst hl
  have HZ : Hid (∀ w1, Keep w w1 → ∀ v, v = vf ∨ v = vt → Calls Try.prog 7 #[v] w1 (SomeBool w1)) := fun w1 hk v hv => by
    rcases hv with rfl | rfl
    · exact zzFits1_any f _ w1 (RV.keep hk _ h1)
    · exact zzFits1_any t _ w1 (RV.keep hk _ h2)
  have HPF : Hid (∀ w1, Keep w w1 → Calls Try.prog 8 #[vf] w1 (DataPost f w1)) := fun w1 hk => plainData_any f vf w1 (RV.keep hk _ h1)
  have HPT : Hid (∀ w1, Keep w w1 → Calls Try.prog 8 #[vt] w1 (DataPost t w1)) := fun w1 hk => plainData_any t vt w1 (RV.keep hk _ h2)
  have HCP : Hid (∀ w1, Keep w w1 → Calls Try.prog 26 #[.slice ai 0 ci] w1 (SomeBool w1)) := fun w1 hk => cleanPaths_any nn ai 0 ci w1 hlr (hI.imp hk fun cs ⟨a', l', c', e, q1, q2, q3⟩ => ⟨a', l', c', e, q1, q2, q3.imp hk fun cs => FE.keep hk nn true cs⟩)
  have H1 := Lib.hid h1
  have H2 := Lib.hid h2
  have HI := Lib.hid hI
  obtain ⟨fk, fn, ff, fs, fal, fll, flc, fak, fkl, fkc, rfl⟩ := h1.sh
  obtain ⟨tk, tn, tf, ts, tal, tll, tlc, tak, tkl, tkc, rfl⟩ := h2.sh
  clear h1 h2 hI
  go_enter Try.func6, Try.ntmps6
  have K0 : Hid (Keep w (((w.alloc (.cells #[.int .i64 fk, .int .i64 fn, .float .f64 ff, .string fs, .slice fal fll flc, .slice fak fkl fkc] 26)).alloc (.cells #[.int .i64 tk, .int .i64 tn, .float .f64 tf, .string ts, .slice tal tll tlc, .slice tak tkl tkc] 26)).alloc (.cells #[.slice ai 0 ci] 30))) := ((Keep.alloc _ _).trans (Keep.alloc _ _)).trans (Keep.alloc _ _)
  have T0 : Hid (Two w (((w.alloc (.cells #[.int .i64 fk, .int .i64 fn, .float .f64 ff, .string fs, .slice fal fll flc, .slice fak fkl fkc] 26)).alloc (.cells #[.int .i64 tk, .int .i64 tn, .float .f64 tf, .string ts, .slice tal tll tlc, .slice tak tkl tkc] 26)).alloc (.cells #[.slice ai 0 ci] 30)) _ _ _ _ _ _ _ _ _ _ _ _) := Two.of (Keep.alloc _ _)
  have X0 : Hid (Ext w (((w.alloc (.cells #[.int .i64 fk, .int .i64 fn, .float .f64 ff, .string fs, .slice fal fll flc, .slice fak fkl fkc] 26)).alloc (.cells #[.int .i64 tk, .int .i64 tn, .float .f64 tf, .string ts, .slice tal tll tlc, .slice tak tkl tkc] 26)).alloc (.cells #[.slice ai 0 ci] 30))) := (((Ext.refl _).alloc _).alloc _).alloc _
  have B0 : Hid ((((w.alloc (.cells #[.int .i64 fk, .int .i64 fn, .float .f64 ff, .string fs, .slice fal fll flc, .slice fak fkl fkc] 26)).alloc (.cells #[.int .i64 tk, .int .i64 tn, .float .f64 tf, .string ts, .slice tal tll tlc, .slice tak tkl tkc] 26)).alloc (.cells #[.slice ai 0 ci] 30)).cell? ⟨w.heap.size + 2, 0, none⟩ = some (.slice ai 0 ci)) := (box3c_cell _ _ _ _ _ 0).trans rfl
  go_wp2_with (go_at_call 7; refine (HZ.out _ K0.out _ (Or.inl rfl)).mono ?_; rintro e w1 ⟨⟨z1, rfl⟩, hb1⟩; have Kw1 : Hid (Keep w w1) := K0.out.trans hb1.keep; have Xw1 : Hid (Ext w w1) := X0.out.trans hb1; have Tw1 : Hid (Two w w1 _ _ _ _ _ _ _ _ _ _ _ _) := T0.out.keep hb1.keep; have Bw1 : Hid (w1.cell? ⟨w.heap.size + 2, 0, none⟩ = some (.slice ai 0 ci)) := hb1.keep _ _ B0.out; obtain ⟨a0, a1, a2, a3, a4, a5, e0, e1, e2, e3, e4, e5⟩ := Tw1.out; have bi := Bw1.out; clear hb1; clear K0 T0 X0 B0; cases z1)
  · go_wp2
    go_ret
    exact .mk rfl Xw1.out
  go_wp2_with (go_at_call 7; refine (HZ.out _ Kw1.out _ (Or.inr rfl)).mono ?_; rintro e w2 ⟨⟨z1, rfl⟩, hb1⟩; have Kw2 : Hid (Keep w w2) := Kw1.out.trans hb1.keep; have Xw2 : Hid (Ext w w2) := Xw1.out.trans hb1; have Tw2 : Hid (Two w w2 _ _ _ _ _ _ _ _ _ _ _ _) := Tw1.out.keep hb1.keep; have Bw2 : Hid (w2.cell? ⟨w.heap.size + 2, 0, none⟩ = some (.slice ai 0 ci)) := hb1.keep _ _ Bw1.out; clear a0 a1 a2 a3 a4 a5 e0 e1 e2 e3 e4 e5 bi; obtain ⟨a0, a1, a2, a3, a4, a5, e0, e1, e2, e3, e4, e5⟩ := Tw2.out; have bi := Bw2.out; clear hb1 HZ; clear Kw1 Tw1 Xw1 Bw1; cases z1)
  · go_wp2
    go_ret
    exact .mk rfl Xw2.out
  go_wp2_with (go_at_call 8; refine (HPF.out _ Kw2.out).mono ?_; rintro e w3 ⟨z1, rfl, hd1, hb1⟩; have HDF := Lib.hid hd1; have Kw3 : Hid (Keep w w3) := Kw2.out.trans hb1.keep; have Xw3 : Hid (Ext w w3) := Xw2.out.trans hb1; have Tw3 : Hid (Two w w3 _ _ _ _ _ _ _ _ _ _ _ _) := Tw2.out.keep hb1.keep; have Bw3 : Hid (w3.cell? ⟨w.heap.size + 2, 0, none⟩ = some (.slice ai 0 ci)) := hb1.keep _ _ Bw2.out; clear a0 a1 a2 a3 a4 a5 e0 e1 e2 e3 e4 e5 bi; obtain ⟨a0, a1, a2, a3, a4, a5, e0, e1, e2, e3, e4, e5⟩ := Tw3.out; have bi := Bw3.out; clear hb1 hd1 HPF; clear Kw2 Tw2 Xw2 Bw2; cases z1)
  · go_wp2_with (go_at_call 20; refine (differs_any _).mono ?_; rintro e w9 ⟨rfl, hb9⟩; have X9 := Lib.hid (Ext.trans Xw3.out hb9); clear hb9)
    go_ret
    exact .mk rfl X9.out
  go_wp2_with (go_at_call 8; refine (HPT.out _ Kw3.out).mono ?_; rintro e w4 ⟨z1, rfl, hd1, hb1⟩; have HDT := Lib.hid hd1; have Kw4 : Hid (Keep w w4) := Kw3.out.trans hb1.keep; have Xw4 : Hid (Ext w w4) := Xw3.out.trans hb1; have Tw4 : Hid (Two w w4 _ _ _ _ _ _ _ _ _ _ _ _) := Tw3.out.keep hb1.keep; have Bw4 : Hid (w4.cell? ⟨w.heap.size + 2, 0, none⟩ = some (.slice ai 0 ci)) := hb1.keep _ _ Bw3.out; clear a0 a1 a2 a3 a4 a5 e0 e1 e2 e3 e4 e5 bi; obtain ⟨a0, a1, a2, a3, a4, a5, e0, e1, e2, e3, e4, e5⟩ := Tw4.out; have bi := Bw4.out; clear hb1 hd1 HPT; clear Kw3 Tw3 Xw3 Bw3; cases z1)
  · go_wp2_with (go_at_call 20; refine (differs_any _).mono ?_; rintro e w9 ⟨rfl, hb9⟩; have X9 := Lib.hid (Ext.trans Xw4.out hb9); clear hb9)
    go_ret
    exact .mk rfl X9.out
  obtain ⟨jf, rfl, fok, fnf, fwt⟩ := HDF.out (by first | rfl | trivial)
  obtain ⟨jt, rfl, tok, tnf, twt⟩ := HDT.out (by first | rfl | trivial)
  have hfn : jf.nodes ≤ 1000 := by have := nodes_wt jf; omega
  have htn : jt.nodes ≤ 1000 := by have := nodes_wt jt; omega
  have HJ : Hid (jf.ok ∧ jf.nofl ∧ jt.ok ∧ jt.nofl ∧ jf.nodes ≤ 1000 ∧ jt.nodes ≤ 1000) := ⟨fok, fnf, tok, tnf, hfn, htn⟩
  have HND : Hid ((difF (jf.nodes + jt.nodes) none jf jt).Nodup) := nodup_difF _ jf jt fok tok
  have HLE : Hid ((difF (jf.nodes + jt.nodes) none jf jt).length ≤ 2000 ∧ ∀ p ∈ difF (jf.nodes + jt.nodes) none jf jt, p.length ≤ 2000) := ⟨by have := difF_len_le (jf.nodes + jt.nodes) jf jt none fok tok; omega, fun p hp => by have := difF_path_le _ jf jt none fok tok p hp; omega⟩
  have HEVN : Hid (Calls Try.prog 25 #[(.agg #[.int .i64 fk, .int .i64 fn, .float .f64 ff, .string fs, .slice fal fll flc, .slice fak fkl fkc]), (.agg #[.int .i64 tk, .int .i64 tn, .float .f64 tf, .string ts, .slice tal tll tlc, .slice tak tkl tkc])] w4 (EvPost (jf.nodes + jt.nodes) jf jt w4)) := evenly_any _ jf jt (Nat.le_refl _) fok tok (by omega) _ _ w4 (RV.keep Kw4.out _ H1.out) (RV.keep Kw4.out _ H2.out)
  have HDF2 : Hid (∀ w1, Keep w w1 → Calls Try.prog 24 #[(.agg #[.int .i64 fk, .int .i64 fn, .float .f64 ff, .string fs, .slice fal fll flc, .slice fak fkl fkc]), (.agg #[.int .i64 tk, .int .i64 tn, .float .f64 tf, .string ts, .slice tal tll tlc, .slice tak tkl tkc]), .slice none 0 0] w1 (DfPost (jf.nodes + jt.nodes) jf jt [] w1)) := fun w1 hx =>
    differing_any _ jf jt (Nat.le_refl _) fok tok fnf tnf (by omega) [] (by simp; omega) _ _ _ w1 (RV.keep hx _ H1.out) (RV.keep hx _ H2.out) ⟨(gath_nil _ 0).path, fun _ => rfl⟩
  clear HDF HDT fwt twt fok fnf tok tnf hfn htn
  go_wp2_with (go_at_call 25; refine (HEVN.out).mono ?_; rintro e w5 ⟨r5, rfl, hev, hb1⟩; have HEV := Lib.hid hev; have Kw5 : Hid (Keep w w5) := Kw4.out.trans hb1.keep; have Xw5 : Hid (Ext w w5) := Xw4.out.trans hb1; have Tw5 : Hid (Two w w5 _ _ _ _ _ _ _ _ _ _ _ _) := Tw4.out.keep hb1.keep; have Bw5 : Hid (w5.cell? ⟨w.heap.size + 2, 0, none⟩ = some (.slice ai 0 ci)) := hb1.keep _ _ Bw4.out; clear a0 a1 a2 a3 a4 a5 e0 e1 e2 e3 e4 e5 bi; obtain ⟨a0, a1, a2, a3, a4, a5, e0, e1, e2, e3, e4, e5⟩ := Tw5.out; have bi := Bw5.out; clear hb1 hev HEVN; clear Kw4 Tw4 Xw4 Bw4; cases r5)
  · go_wp2_with (go_at_call 20; refine (differs_any _).mono ?_; rintro e w9 ⟨rfl, hb9⟩; have X9 := Lib.hid (Ext.trans Xw5.out hb9); clear hb9)
    go_ret
    exact .mk rfl X9.out
  go_wp2_with (go_at_call 26; refine (HCP.out _ Kw5.out).mono ?_; rintro e w6 ⟨⟨z6, rfl⟩, hb1⟩; have Kw6 : Hid (Keep w w6) := Kw5.out.trans hb1.keep; have Xw6 : Hid (Ext w w6) := Xw5.out.trans hb1; have Tw6 : Hid (Two w w6 _ _ _ _ _ _ _ _ _ _ _ _) := Tw5.out.keep hb1.keep; have Bw6 : Hid (w6.cell? ⟨w.heap.size + 2, 0, none⟩ = some (.slice ai 0 ci)) := hb1.keep _ _ Bw5.out; clear a0 a1 a2 a3 a4 a5 e0 e1 e2 e3 e4 e5 bi; obtain ⟨a0, a1, a2, a3, a4, a5, e0, e1, e2, e3, e4, e5⟩ := Tw6.out; have bi := Bw6.out; clear hb1 HCP; clear Kw5 Tw5 Xw5 Bw5; cases z6)
  · go_wp2_with (go_at_call 20; refine (differs_any _).mono ?_; rintro e w9 ⟨rfl, hb9⟩; have X9 := Lib.hid (Ext.trans Xw6.out hb9); clear hb9)
    go_ret
    exact .mk rfl X9.out
  have HEVF : Hid (evenF (jf.nodes + jt.nodes) jf jt) := HEV.out (by first | rfl | trivial)
  clear HEV
  have HIG : Hid (IgsAt w6 (.slice ai 0 ci) none) := ⟨ai, ci, rfl⟩
  have HID : Hid (∀ w1, Ext w6 w1 → Calls Try.prog 21 #[(.agg #[.int .i64 fk, .int .i64 fn, .float .f64 ff, .string fs, .slice fal fll flc, .slice fak fkl fkc]), (.agg #[.int .i64 tk, .int .i64 tn, .float .f64 tf, .string ts, .slice tal tll tlc, .slice tak tkl tkc]), .slice ai 0 ci, .bool false] w1 (IDPost none jf jt w1)) := fun w1 hx => by
    obtain ⟨j1, j2, j3, j4, j5, j6⟩ := HJ.out
    exact implDiffE ai ci jf jt j1 j2 j3 j4 j5 j6 _ _ w1 (RV.keep (Kw6.out.trans hx.keep) _ H1.out) (RV.keep (Kw6.out.trans hx.keep) _ H2.out)
  refine wp_loop_rounds 1 ?_
  rw [rounds_succ]
  have HIGK := HIG.out
  go_wp2_with (first
    | (go_at_call 24; refine (HDF2.out _ Kw6.out).mono ?_; rintro e w5 ⟨qs, hqs, v5, rfl, hpq, hx5⟩; have HQS := Lib.hid hqs; have HPQ := Lib.hid hpq; have HX5 := Lib.hid hx5; have Kw5 : Hid (Keep w w5) := Kw6.out.trans hx5.keep; have Xw5 : Hid (Ext w w5) := Xw6.out.trans hx5; have Tw5 : Hid (Two w w5 _ _ _ _ _ _ _ _ _ _ _ _) := Tw6.out.keep hx5.keep; have Bw5 : Hid (w5.cell? ⟨w.heap.size + 2, 0, none⟩ = some (.slice ai 0 ci)) := hx5.keep _ _ Bw6.out; clear a0 a1 a2 a3 a4 a5 e0 e1 e2 e3 e4 e5 bi; obtain ⟨a0, a1, a2, a3, a4, a5, e0, e1, e2, e3, e4, e5⟩ := Tw5.out; have bi := Bw5.out; obtain ⟨a5', c5', e5', -⟩ := hpq.shape; subst e5'; clear hqs hpq hx5)
    | (go_at_call 27; refine (deletePaths_any w6.heap.size qs (by have h1 := HQS.out.length_eq; rw [List.length_map] at h1; have h2 := HLE.out.1; omega) (covIg none) 28 #[.pointer (some ⟨w.heap.size + 2, 0, none⟩)] Try.enters_cov _ w5 HPQ.out HX5.out.size (fun w1 hw1 p hp u hu => ignored_fn none p (by obtain ⟨p', hp', rfl⟩ := List.mem_map.1 (HQS.out.mem_iff.1 hp); have := HLE.out.2 p' hp'; simpa using (by omega : p'.length ≤ 1000000)) (w.heap.size + 2) u (.slice ai 0 ci) w1 (HIG.out.keep (Keep.of_below (Below.trans HX5.out hw1) (Nat.le_refl _))) ((Keep.of_below (Below.trans HX5.out hw1) (Nat.le_refl _)) _ _ Bw6.out) hu)).mono ?_
       rintro e w7 ⟨v7, rfl, hp7, hb7⟩
       have hx57 : Ext w6 w7 := Below.trans HX5.out hb7
       have HP7 := Lib.hid hp7
       have HX7 := Lib.hid hx57
       have Kw7 : Hid (Keep w w7) := Kw6.out.trans hx57.keep; have Xw7 : Hid (Ext w w7) := Xw6.out.trans hx57; have Tw7 : Hid (Two w w7 _ _ _ _ _ _ _ _ _ _ _ _) := Tw6.out.keep hx57.keep; have Bw7 : Hid (w7.cell? ⟨w.heap.size + 2, 0, none⟩ = some (.slice ai 0 ci)) := hx57.keep _ _ Bw6.out; clear a0 a1 a2 a3 a4 a5 e0 e1 e2 e3 e4 e5 bi; obtain ⟨a0, a1, a2, a3, a4, a5, e0, e1, e2, e3, e4, e5⟩ := Tw7.out; have bi := Bw7.out; obtain ⟨a7', c7', e7', -⟩ := hp7.shape
       generalize hqf : qs.filter (fun p => !covIg none p) = qf at *
       have HQF := Lib.hid hqf
       subst e7'
       clear hp7 hb7 hx57 hqf)
    | (go_at_call 21; refine (HID.out w7 HX7.out).mono ?_
       rintro e w8 ⟨v8, ps, rfl, hper, hpl, hx8⟩
       obtain ⟨a8', c8', rfl, hsh⟩ := hpl.shape
       have HPER := Lib.hid hper
       have HSH := Lib.hid hsh
       have HX8 := Lib.hid hx8
       clear hper hpl hsh hx8))
  have HTL : Hid (ps.Nodup ∧ ps.Perm qf) := by
    have := told_left (g := none) trivial HPER.out HQS.out HND.out
    rw [HQF.out] at this
    exact this
  have HQB : Hid (∀ p ∈ qf, p.length ≤ 2000) := fun p hp => by
    rw [← HQF.out] at hp
    obtain ⟨p', hp', rfl⟩ := List.mem_map.1 (HQS.out.mem_iff.1 (List.mem_filter.1 hp).1)
    simpa using HLE.out.2 p' hp'
  have HPS : Hid (ps.length ≤ 2000 ∧ ∀ p ∈ ps, p.length ≤ 2000) := ⟨by
    have h1 := HTL.out.2.length_eq
    have h2 := HQS.out.length_eq
    have h3 := List.length_filter_le (fun p => !covIg none p) qs
    rw [HQF.out] at h3
    rw [List.length_map] at h2
    have h4 := HLE.out.1
    omega, fun p hp => HQB.out p (HTL.out.2.mem_iff.1 hp)⟩
  have hps : ps.length ≤ 2000 := HPS.out.1
  clear a0 a1 a2 a3 a4 a5 e0 e1 e2 e3 e4 e5 bi HQS HPQ HPER HND HLE HQF HDF2 HIG HIGK HJ HEVF
  go_loopw [13, 14] (fun o i wr => ∃ m : Nat, m ≤ ps.length ∧ i = .int .i64 m ∧ PLs PathN wr w8.heap.size o (ps.take m) ∧ Ext w8 wr) (fun _ i _ => ps.length - (intOf i).toNat)
  case atStart => exact ⟨0, Nat.zero_le _, rfl, PLs.nil _ _ _, Ext.refl _⟩
  case round =>
    obtain ⟨m, hm, rfl, hP, hB⟩ := hrel
    have HP := Lib.hid hP
    have HB := Lib.hid hB
    clear hP hB
    by_cases hlt : m < ps.length
    · obtain ⟨g9, u, e9, hc, q9, hq, hgp⟩ := HSH.out m hlt
      obtain ⟨ua, un, uc, rfl⟩ := GP.pq.shape hgp
      have hc := HB.out.get hc
      have HW := Lib.hid (whereTold_any q9 _ wr (GP.pq.ext HB.out hgp) (by have := HPS.out.2 q9 (List.mem_of_getElem? hq); omega))
      have HQ := Lib.hid hq
      subst e9
      have hm1 : (m : Int) < (ps.length : Int) := by omega
      have hm0 : (0 : Int) ≤ (m : Int) := by omega
      clear hq hgp
      go_wp2_with (first
        | (go_at_call 22; refine (HW.out).mono ?_; rintro e w11 ⟨u7', rfl, hu, hx7⟩; obtain ⟨ta, tn', tc, rfl⟩ := PathN.pq.shape hu; have HU := Lib.hid hu; have HX11 := Lib.hid hx7; clear hu hx7)
        | (at_builtin; refine wpList_place PathN.pq (.tmp 135) (.tmp 141) rfl rfl w8 w11 u13 _ (ps.take m) q9 (HP.out.ext PathN.pq HX11.out) HU.out (Ext.trans HB.out HX11.out) (by rw [List.length_take]; omega) w11.heap.size rfl rfl rfl ?_; intro g12 c12 w12 hp12 hx12; have HP12 := Lib.hid hp12; have HX12 := Lib.hid hx12; clear hp12 hx12))
      go_roundw
      case rel => exact ⟨m + 1, by omega, by go_num, by rw [take_succ_get' HQ.out]; have hl9 : (ps.take m).length = m := (by rw [List.length_take]; omega); have := HP12.out; first | exact this | (rw [hl9] at this; exact this), HX12.out⟩
      case measure => simp [intOf]; omega
    · have hmM : m = ps.length := by omega
      subst hmM
      rw [List.take_length] at HP
      have hl0 : ¬ ps.length < ps.length := by omega
      have HX78 : Hid (Ext w7 wr) := Ext.trans HX8.out HB.out
      clear hlt hm
      go_wp2_with (first
        | (go_at_call 23; refine (samePlaces_any ps qf HTL.out.1 HTL.out.2.length_eq (fun p hp => HTL.out.2.mem_iff.1 hp) (by have := HPS.out.1; omega) (fun p hp => by have := HPS.out.2 p hp; omega) (fun p hp => by have := HQB.out p hp; omega) _ _ _ _ _ HP.out (HP7.out.ext PathN.pq HX78.out)).mono ?_; rintro e w13 ⟨rfl, hx13⟩; have HX13 := Lib.hid hx13; clear hx13)
        | (go_at_call 20; refine (differs_any _).mono ?_; rintro e w14 ⟨rfl, hx14⟩; have HX14 := Lib.hid hx14; clear hx14))
      go_ret
      exact .mk rfl (Ext.trans Xw7.out (Ext.trans HX78.out (Ext.trans HX13.out HX14.out)))

set_option maxRecDepth 100000 in
set_option maxHeartbeats 16000000 in
theorem law_ign_one (f t : V) (vf vt : Value) (nn : Nat) (ai : Option Addr) (ln ci : Nat) (w : World) (h1 : RV w f vf) (h2 : RV w t vt) (hI : PathsIn w nn ai ln) (hlc : ln ≤ ci) (hlr : ln ≤ reachN) (hl : ln = 1) :
    Calls Try.prog 6 #[vf, vt, .slice ai ln ci] w (Gives (.bool true) w) := by
  subst hl
  have HZ : Hid (∀ w1, Keep w w1 → ∀ v, v = vf ∨ v = vt → Calls Try.prog 7 #[v] w1 (SomeBool w1)) := fun w1 hk v hv => by
    rcases hv with rfl | rfl
    · exact zzFits1_any f _ w1 (RV.keep hk _ h1)
    · exact zzFits1_any t _ w1 (RV.keep hk _ h2)
  have HPF : Hid (∀ w1, Keep w w1 → Calls Try.prog 8 #[vf] w1 (DataPost f w1)) := fun w1 hk => plainData_any f vf w1 (RV.keep hk _ h1)
  have HPT : Hid (∀ w1, Keep w w1 → Calls Try.prog 8 #[vt] w1 (DataPost t w1)) := fun w1 hk => plainData_any t vt w1 (RV.keep hk _ h2)
  have HCP : Hid (∀ w1, Keep w w1 → Calls Try.prog 26 #[.slice ai 1 ci] w1 (SomeBool w1)) := fun w1 hk => cleanPaths_any nn ai 1 ci w1 hlr (hI.imp hk fun cs ⟨a', l', c', e, q1, q2, q3⟩ => ⟨a', l', c', e, q1, q2, q3.imp hk fun cs => FE.keep hk nn true cs⟩)
  have H1 := Lib.hid h1
  have H2 := Lib.hid h2
  obtain ⟨fk, fn, ff, fs, fal, fll, flc, fak, fkl, fkc, rfl⟩ := h1.sh
  obtain ⟨tk, tn, tf, ts, tal, tll, tlc, tak, tkl, tkc, rfl⟩ := h2.sh
  obtain ⟨bi0, oi0, cs0, rfl, -, hcs0, a1', l1', c1', rfl, hl1', hlc1', hrow⟩ := hI 0 (by omega)
  have hin0 := hcs0 0 (by simp)
  simp only [List.getElem_cons_zero, Nat.zero_mul, Nat.add_zero] at hin0
  have HIN := Lib.hid hin0
  have HROW := Lib.hid hrow
  unfold reachN at hl1'
  clear h1 h2 hI hcs0 hin0 hrow
  go_enter Try.func6, Try.ntmps6
  have K0 : Hid (Keep w (((w.alloc (.cells #[.int .i64 fk, .int .i64 fn, .float .f64 ff, .string fs, .slice fal fll flc, .slice fak fkl fkc] 26)).alloc (.cells #[.int .i64 tk, .int .i64 tn, .float .f64 tf, .string ts, .slice tal tll tlc, .slice tak tkl tkc] 26)).alloc (.cells #[.slice (some ⟨bi0, oi0, none⟩) 1 ci] 30))) := ((Keep.alloc _ _).trans (Keep.alloc _ _)).trans (Keep.alloc _ _)
  have T0 : Hid (Two w (((w.alloc (.cells #[.int .i64 fk, .int .i64 fn, .float .f64 ff, .string fs, .slice fal fll flc, .slice fak fkl fkc] 26)).alloc (.cells #[.int .i64 tk, .int .i64 tn, .float .f64 tf, .string ts, .slice tal tll tlc, .slice tak tkl tkc] 26)).alloc (.cells #[.slice (some ⟨bi0, oi0, none⟩) 1 ci] 30)) _ _ _ _ _ _ _ _ _ _ _ _) := Two.of (Keep.alloc _ _)
  have X0 : Hid (Ext w (((w.alloc (.cells #[.int .i64 fk, .int .i64 fn, .float .f64 ff, .string fs, .slice fal fll flc, .slice fak fkl fkc] 26)).alloc (.cells #[.int .i64 tk, .int .i64 tn, .float .f64 tf, .string ts, .slice tal tll tlc, .slice tak tkl tkc] 26)).alloc (.cells #[.slice (some ⟨bi0, oi0, none⟩) 1 ci] 30))) := (((Ext.refl _).alloc _).alloc _).alloc _
  have B0 : Hid ((((w.alloc (.cells #[.int .i64 fk, .int .i64 fn, .float .f64 ff, .string fs, .slice fal fll flc, .slice fak fkl fkc] 26)).alloc (.cells #[.int .i64 tk, .int .i64 tn, .float .f64 tf, .string ts, .slice tal tll tlc, .slice tak tkl tkc] 26)).alloc (.cells #[.slice (some ⟨bi0, oi0, none⟩) 1 ci] 30)).cell? ⟨w.heap.size + 2, 0, none⟩ = some (.slice (some ⟨bi0, oi0, none⟩) 1 ci)) := (box3c_cell _ _ _ _ _ 0).trans rfl
  go_wp2_with (go_at_call 7; refine (HZ.out _ K0.out _ (Or.inl rfl)).mono ?_; rintro e w1 ⟨⟨z1, rfl⟩, hb1⟩; have Kw1 : Hid (Keep w w1) := K0.out.trans hb1.keep; have Xw1 : Hid (Ext w w1) := X0.out.trans hb1; have Tw1 : Hid (Two w w1 _ _ _ _ _ _ _ _ _ _ _ _) := T0.out.keep hb1.keep; have Bw1 : Hid (w1.cell? ⟨w.heap.size + 2, 0, none⟩ = some (.slice (some ⟨bi0, oi0, none⟩) 1 ci)) := hb1.keep _ _ B0.out; obtain ⟨a0, a1, a2, a3, a4, a5, e0, e1, e2, e3, e4, e5⟩ := Tw1.out; have bi := Bw1.out; clear hb1; clear K0 T0 X0 B0; cases z1)
  · go_wp2
    go_ret
    exact .mk rfl Xw1.out
  go_wp2_with (go_at_call 7; refine (HZ.out _ Kw1.out _ (Or.inr rfl)).mono ?_; rintro e w2 ⟨⟨z1, rfl⟩, hb1⟩; have Kw2 : Hid (Keep w w2) := Kw1.out.trans hb1.keep; have Xw2 : Hid (Ext w w2) := Xw1.out.trans hb1; have Tw2 : Hid (Two w w2 _ _ _ _ _ _ _ _ _ _ _ _) := Tw1.out.keep hb1.keep; have Bw2 : Hid (w2.cell? ⟨w.heap.size + 2, 0, none⟩ = some (.slice (some ⟨bi0, oi0, none⟩) 1 ci)) := hb1.keep _ _ Bw1.out; clear a0 a1 a2 a3 a4 a5 e0 e1 e2 e3 e4 e5 bi; obtain ⟨a0, a1, a2, a3, a4, a5, e0, e1, e2, e3, e4, e5⟩ := Tw2.out; have bi := Bw2.out; clear hb1 HZ; clear Kw1 Tw1 Xw1 Bw1; cases z1)
  · go_wp2
    go_ret
    exact .mk rfl Xw2.out
  go_wp2_with (go_at_call 8; refine (HPF.out _ Kw2.out).mono ?_; rintro e w3 ⟨z1, rfl, hd1, hb1⟩; have HDF := Lib.hid hd1; have Kw3 : Hid (Keep w w3) := Kw2.out.trans hb1.keep; have Xw3 : Hid (Ext w w3) := Xw2.out.trans hb1; have Tw3 : Hid (Two w w3 _ _ _ _ _ _ _ _ _ _ _ _) := Tw2.out.keep hb1.keep; have Bw3 : Hid (w3.cell? ⟨w.heap.size + 2, 0, none⟩ = some (.slice (some ⟨bi0, oi0, none⟩) 1 ci)) := hb1.keep _ _ Bw2.out; clear a0 a1 a2 a3 a4 a5 e0 e1 e2 e3 e4 e5 bi; obtain ⟨a0, a1, a2, a3, a4, a5, e0, e1, e2, e3, e4, e5⟩ := Tw3.out; have bi := Bw3.out; clear hb1 hd1 HPF; clear Kw2 Tw2 Xw2 Bw2; cases z1)
  · go_wp2_with (go_at_call 20; refine (differs_any _).mono ?_; rintro e w9 ⟨rfl, hb9⟩; have X9 := Lib.hid (Ext.trans Xw3.out hb9); clear hb9)
    go_ret
    exact .mk rfl X9.out
  go_wp2_with (go_at_call 8; refine (HPT.out _ Kw3.out).mono ?_; rintro e w4 ⟨z1, rfl, hd1, hb1⟩; have HDT := Lib.hid hd1; have Kw4 : Hid (Keep w w4) := Kw3.out.trans hb1.keep; have Xw4 : Hid (Ext w w4) := Xw3.out.trans hb1; have Tw4 : Hid (Two w w4 _ _ _ _ _ _ _ _ _ _ _ _) := Tw3.out.keep hb1.keep; have Bw4 : Hid (w4.cell? ⟨w.heap.size + 2, 0, none⟩ = some (.slice (some ⟨bi0, oi0, none⟩) 1 ci)) := hb1.keep _ _ Bw3.out; clear a0 a1 a2 a3 a4 a5 e0 e1 e2 e3 e4 e5 bi; obtain ⟨a0, a1, a2, a3, a4, a5, e0, e1, e2, e3, e4, e5⟩ := Tw4.out; have bi := Bw4.out; clear hb1 hd1 HPT; clear Kw3 Tw3 Xw3 Bw3; cases z1)
  · go_wp2_with (go_at_call 20; refine (differs_any _).mono ?_; rintro e w9 ⟨rfl, hb9⟩; have X9 := Lib.hid (Ext.trans Xw4.out hb9); clear hb9)
    go_ret
    exact .mk rfl X9.out
  obtain ⟨jf, rfl, fok, fnf, fwt⟩ := HDF.out (by first | rfl | trivial)
  obtain ⟨jt, rfl, tok, tnf, twt⟩ := HDT.out (by first | rfl | trivial)
  have hfn : jf.nodes ≤ 1000 := by have := nodes_wt jf; omega
  have htn : jt.nodes ≤ 1000 := by have := nodes_wt jt; omega
  have HJ : Hid (jf.ok ∧ jf.nofl ∧ jt.ok ∧ jt.nofl ∧ jf.nodes ≤ 1000 ∧ jt.nodes ≤ 1000) := ⟨fok, fnf, tok, tnf, hfn, htn⟩
  have HND : Hid ((difF (jf.nodes + jt.nodes) none jf jt).Nodup) := nodup_difF _ jf jt fok tok
  have HLE : Hid ((difF (jf.nodes + jt.nodes) none jf jt).length ≤ 2000 ∧ ∀ p ∈ difF (jf.nodes + jt.nodes) none jf jt, p.length ≤ 2000) := ⟨by have := difF_len_le (jf.nodes + jt.nodes) jf jt none fok tok; omega, fun p hp => by have := difF_path_le _ jf jt none fok tok p hp; omega⟩
  have HEVN : Hid (Calls Try.prog 25 #[(.agg #[.int .i64 fk, .int .i64 fn, .float .f64 ff, .string fs, .slice fal fll flc, .slice fak fkl fkc]), (.agg #[.int .i64 tk, .int .i64 tn, .float .f64 tf, .string ts, .slice tal tll tlc, .slice tak tkl tkc])] w4 (EvPost (jf.nodes + jt.nodes) jf jt w4)) := evenly_any _ jf jt (Nat.le_refl _) fok tok (by omega) _ _ w4 (RV.keep Kw4.out _ H1.out) (RV.keep Kw4.out _ H2.out)
  have HDF2 : Hid (∀ w1, Keep w w1 → Calls Try.prog 24 #[(.agg #[.int .i64 fk, .int .i64 fn, .float .f64 ff, .string fs, .slice fal fll flc, .slice fak fkl fkc]), (.agg #[.int .i64 tk, .int .i64 tn, .float .f64 tf, .string ts, .slice tal tll tlc, .slice tak tkl tkc]), .slice none 0 0] w1 (DfPost (jf.nodes + jt.nodes) jf jt [] w1)) := fun w1 hx =>
    differing_any _ jf jt (Nat.le_refl _) fok tok fnf tnf (by omega) [] (by simp; omega) _ _ _ w1 (RV.keep hx _ H1.out) (RV.keep hx _ H2.out) ⟨(gath_nil _ 0).path, fun _ => rfl⟩
  clear HDF HDT fwt twt fok fnf tok tnf hfn htn
  go_wp2_with (go_at_call 25; refine (HEVN.out).mono ?_; rintro e w5 ⟨r5, rfl, hev, hb1⟩; have HEV := Lib.hid hev; have Kw5 : Hid (Keep w w5) := Kw4.out.trans hb1.keep; have Xw5 : Hid (Ext w w5) := Xw4.out.trans hb1; have Tw5 : Hid (Two w w5 _ _ _ _ _ _ _ _ _ _ _ _) := Tw4.out.keep hb1.keep; have Bw5 : Hid (w5.cell? ⟨w.heap.size + 2, 0, none⟩ = some (.slice (some ⟨bi0, oi0, none⟩) 1 ci)) := hb1.keep _ _ Bw4.out; clear a0 a1 a2 a3 a4 a5 e0 e1 e2 e3 e4 e5 bi; obtain ⟨a0, a1, a2, a3, a4, a5, e0, e1, e2, e3, e4, e5⟩ := Tw5.out; have bi := Bw5.out; clear hb1 hev HEVN; clear Kw4 Tw4 Xw4 Bw4; cases r5)
  · go_wp2_with (go_at_call 20; refine (differs_any _).mono ?_; rintro e w9 ⟨rfl, hb9⟩; have X9 := Lib.hid (Ext.trans Xw5.out hb9); clear hb9)
    go_ret
    exact .mk rfl X9.out
  go_wp2_with (go_at_call 26; refine (HCP.out _ Kw5.out).mono ?_; rintro e w6 ⟨⟨z6, rfl⟩, hb1⟩; have Kw6 : Hid (Keep w w6) := Kw5.out.trans hb1.keep; have Xw6 : Hid (Ext w w6) := Xw5.out.trans hb1; have Tw6 : Hid (Two w w6 _ _ _ _ _ _ _ _ _ _ _ _) := Tw5.out.keep hb1.keep; have Bw6 : Hid (w6.cell? ⟨w.heap.size + 2, 0, none⟩ = some (.slice (some ⟨bi0, oi0, none⟩) 1 ci)) := hb1.keep _ _ Bw5.out; clear a0 a1 a2 a3 a4 a5 e0 e1 e2 e3 e4 e5 bi; obtain ⟨a0, a1, a2, a3, a4, a5, e0, e1, e2, e3, e4, e5⟩ := Tw6.out; have bi := Bw6.out; clear hb1 HCP; clear Kw5 Tw5 Xw5 Bw5; cases z6)
  · go_wp2_with (go_at_call 20; refine (differs_any _).mono ?_; rintro e w9 ⟨rfl, hb9⟩; have X9 := Lib.hid (Ext.trans Xw6.out hb9); clear hb9)
    go_ret
    exact .mk rfl X9.out
  have HEVF : Hid (evenF (jf.nodes + jt.nodes) jf jt) := HEV.out (by first | rfl | trivial)
  clear HEV
  go_loopw [7] (fun i wr => ∃ k : Nat, i = .int .i64 k ∧ Ext w6 wr ∧ (k = 0 ∨ (k = 1 ∧ 0 < l1' ∧ l1' ≤ 4 ∧ ∃ b1' o1' q, a1' = some ⟨b1', o1', none⟩ ∧ q.length = l1' ∧ QAt w b1' o1' q ∧ IgOk (some q)))) (fun i _ => 1 - (intOf i).toNat)
  case atStart => exact ⟨0, rfl, Ext.refl _, Or.inl rfl⟩
  case round =>
    obtain ⟨k, rfl, hx6, hk⟩ := hrel
    have Kwr : Hid (Keep w wr) := Kw6.out.trans hx6.keep
    have Xwr : Hid (Ext w wr) := Xw6.out.trans hx6
    have Twr : Hid (Two w wr _ _ _ _ _ _ _ _ _ _ _ _) := Tw6.out.keep hx6.keep
    have Bwr : Hid (wr.cell? ⟨w.heap.size + 2, 0, none⟩ = some (.slice (some ⟨bi0, oi0, none⟩) 1 ci)) := hx6.keep _ _ Bw6.out
    have hin := Kwr.out _ _ HIN.out
    have hinl := lt_of_cell hin
    simp only at hinl
    have HX6 := Lib.hid hx6
    clear a0 a1 a2 a3 a4 a5 e0 e1 e2 e3 e4 e5 bi hx6 Kw6 Xw6 Tw6 Bw6
    obtain ⟨a0, a1, a2, a3, a4, a5, e0, e1, e2, e3, e4, e5⟩ := Twr.out
    have bi := Bwr.out
    rcases hk with rfl | ⟨rfl, hq0, hq4, b1', o1', q, rfl, rfl, hQ, hgn⟩
    · by_cases hz : l1' = 0
      · subst hz
        go_wp2_with (go_at_call 20; refine (differs_any _).mono ?_; rintro e w9 ⟨rfl, hb9⟩; have X9 := Lib.hid (Ext.trans Xwr.out hb9); clear hb9)
        go_ret
        exact .mk rfl X9.out
      by_cases h4 : 4 < l1'
      · have h4' : (4 : Int) < (l1' : Int) := by omega
        have hz' : ((l1' : Int) == 0) = false := beq_eq_false_iff_ne.2 (by omega)
        go_wp2_with (go_at_call 20; refine (differs_any _).mono ?_; rintro e w9 ⟨rfl, hb9⟩; have X9 := Lib.hid (Ext.trans Xwr.out hb9); clear hb9)
        go_ret
        exact .mk rfl X9.out
      have h4' : ¬ (4 : Int) < (l1' : Int) := by omega
      have hz' : ((l1' : Int) == 0) = false := beq_eq_false_iff_ne.2 (by omega)
      obtain ⟨b1', o1', -, rfl, -⟩ := HROW.out 0 (by omega)
      go_wp2_with fail
      have HINO := Lib.hid hin
      clear a0 a1 a2 a3 a4 a5 e0 e1 e2 e3 e4 e5 bi hin
      go_loopw [8] (fun i wr => ∃ m : Nat, m ≤ l1' ∧ i = .int .i64 m ∧ (∀ k, k < m → GoodAt w b1' o1' k) ∧ Ext _ wr) (fun i _ => l1' - (intOf i).toNat)
      case atStart => exact ⟨0, Nat.zero_le _, rfl, fun k h => by omega, Ext.refl _⟩
      case round =>
        obtain ⟨m, hm, rfl, hall, hb⟩ := hrel
        have HA := Lib.hid hall
        have HB := Lib.hid hb
        have XB : Hid (Ext w wr) := Ext.trans Xwr.out hb
        have bi := hb.keep _ _ Bwr.out
        have hin := hb.keep _ _ HINO.out
        have hinl2 := lt_of_cell hin
        simp only at hinl2
        clear hall hb
        by_cases hlt : m < l1'
        · obtain ⟨b2, o2, cs, e2, hcl, hcs, hQ⟩ := HROW.out m hlt
          simp only [Option.some.injEq, Addr.mk.injEq, and_true] at e2
          obtain ⟨rfl, rfl⟩ := e2
          obtain ⟨k, s, an, nl, nc, es, rfl, hten, hnc, hns⟩ := hQ.ten
          have HTEN := Lib.hid hten
          obtain ⟨al, ll, lc, op, vk, vn, vff, vs, val, vll, vlc, vak, vkl, vkc, ap, pl, pc, aq, ql, qc, rfl⟩ := hten
          have HCS := Lib.hid hcs
          have hm1 : (m : Int) < (l1' : Int) := by omega
          have r0 := XB.out.keep _ _ (hcs 0 (by simp))
          have r1 := XB.out.keep _ _ (hcs 1 (by simp))
          have r2 := XB.out.keep _ _ (hcs 2 (by simp))
          have r3 := XB.out.keep _ _ (hcs 3 (by simp))
          have r4 := XB.out.keep _ _ (hcs 4 (by simp))
          have r5 := XB.out.keep _ _ (hcs 5 (by simp))
          have r6 := XB.out.keep _ _ (hcs 6 (by simp))
          have r7 := XB.out.keep _ _ (hcs 7 (by simp))
          have r8 := XB.out.keep _ _ (hcs 8 (by simp))
          have r9 := XB.out.keep _ _ (hcs 9 (by simp))
          have r10 := XB.out.keep _ _ (hcs 10 (by simp))
          have r11 := XB.out.keep _ _ (hcs 11 (by simp))
          have r12 := XB.out.keep _ _ (hcs 12 (by simp))
          simp only [List.getElem_cons_zero, List.getElem_cons_succ, Nat.add_zero] at r0 r1 r2 r3 r4 r5 r6 r7 r8 r9 r10 r11 r12
          have lq := lt_of_cell r0
          simp only at lq
          clear hcs hcl hQ
          by_cases k3 : k = 3
          · subst k3
            have HGD : Hid (GoodAt w b1' o1' m) := ⟨some (.child s), _, fun n h => (by cases h), HCS.out, an, nl, nc, _, rfl, HTEN.out⟩
            go_wp2
            go_roundw
            case rel => exact ⟨m + 1, by omega, by go_num, fun k hk => by
              by_cases hkm : k = m
              · subst hkm; exact HGD.out
              · exact HA.out k (by omega), HB.out.alloc _⟩
            case measure => simp [intOf]; omega
          by_cases k5 : k = 5
          · subst k5
            have HGD : Hid (GoodAt w b1' o1' m) := ⟨none, _, fun n h => (by cases h), HCS.out, s, an, nl, nc, _, rfl, HTEN.out⟩
            go_wp2
            go_roundw
            case rel => exact ⟨m + 1, by omega, by go_num, fun k hk => by
              by_cases hkm : k = m
              · subst hkm; exact HGD.out
              · exact HA.out k (by omega), HB.out.alloc _⟩
            case measure => simp [intOf]; omega
          by_cases k4 : k = 4
          · subst k4
            by_cases n1 : nl = 1
            · subst n1
              obtain ⟨b3, o3, cs3, rfl, -, hc3, i3, rfl⟩ := hns 0 (by omega)
              have hc30 := hc3 0 (by simp)
              simp only [List.getElem_cons_zero, Nat.add_zero, Nat.zero_mul] at hc30
              have r13 := XB.out.keep _ _ hc30
              have lq3 := lt_of_cell r13
              simp only at lq3
              by_cases hneg : i3 < 0
              · go_wp2_with (go_at_call 20; refine (differs_any _).mono ?_; rintro e w9 ⟨rfl, hb9⟩; have X9 := Lib.hid (Ext.trans (Ext.alloc XB.out _) hb9); clear hb9)
                go_ret
                exact .mk rfl X9.out
              · have HGD : Hid (GoodAt w b1' o1' m) := ⟨some (.nth i3), _, fun n h => (by cases h; omega), HCS.out, s, b3, o3, nc, _, rfl, HTEN.out, hc30, hnc⟩
                clear hc3 hc30 hns
                go_wp2
                go_roundw
                case rel => exact ⟨m + 1, by omega, by go_num, fun k hk => by
                  by_cases hkm : k = m
                  · subst hkm; exact HGD.out
                  · exact HA.out k (by omega), HB.out.alloc _⟩
                case measure => simp [intOf]; omega
            · have hn1 : ((nl : Int) != 1) = true := by simp; omega
              have hn2 : ((nl : Int) == 1) = false := beq_eq_false_iff_ne.2 (by omega)
              go_wp2_with (go_at_call 20; refine (differs_any _).mono ?_; rintro e w9 ⟨rfl, hb9⟩; have X9 := Lib.hid (Ext.trans (Ext.alloc XB.out _) hb9); clear hb9)
              go_ret
              exact .mk rfl X9.out
          · have q3 : (k == 3) = false := beq_eq_false_iff_ne.2 k3
            have q4 : (k == 4) = false := beq_eq_false_iff_ne.2 k4
            have q5 : (k == 5) = false := beq_eq_false_iff_ne.2 k5
            have p3 : (k != 3) = true := by simp [k3]
            have p4 : (k != 4) = true := by simp [k4]
            have p5 : (k != 5) = true := by simp [k5]
            go_wp2_with (go_at_call 20; refine (differs_any _).mono ?_; rintro e w9 ⟨rfl, hb9⟩; have X9 := Lib.hid (Ext.trans (Ext.alloc XB.out _) hb9); clear hb9)
            go_ret
            exact .mk rfl X9.out
        · obtain ⟨q, hql, hQ, hgn⟩ := GoodAt.all (w := w) (b := b1') (o := o1') (l := l1') (fun i hi => HA.out i (by omega))
          have HQQ : Hid (q.length = l1' ∧ QAt w b1' o1' q ∧ IgOk (some q)) := ⟨hql, hQ, hgn⟩
          have hme : m = l1' := by omega
          have hlt' : ¬ (m : Int) < (l1' : Int) := by omega
          clear hql hQ hgn
          go_wp2
          go_roundw
          case rel => exact ⟨1, by go_num, Ext.trans HX6.out HB.out, Or.inr ⟨rfl, by omega, by omega, b1', o1', q, rfl, HQQ.out⟩⟩
          case measure => simp [intOf]
    · have HIG : Hid (IgsAt wr (.slice (some ⟨bi0, oi0, none⟩) 1 ci) (some q)) := ⟨bi0, oi0, ci, b1', o1', c1', rfl, hin, hQ.keep Kwr.out, hq0, hq4⟩
      have HID : Hid (∀ w1, Ext wr w1 → Calls Try.prog 21 #[(.agg #[.int .i64 fk, .int .i64 fn, .float .f64 ff, .string fs, .slice fal fll flc, .slice fak fkl fkc]), (.agg #[.int .i64 tk, .int .i64 tn, .float .f64 tf, .string ts, .slice tal tll tlc, .slice tak tkl tkc]), .slice (some ⟨bi0, oi0, none⟩) 1 ci, .bool false] w1 (IDPost (some q) jf jt w1)) := fun w1 hx => by
        obtain ⟨j1, j2, j3, j4, j5, j6⟩ := HJ.out
        exact implDiff1 q hq0 hq4 jf jt j1 j2 j3 j4 j5 j6 hgn HEVF.out bi0 oi0 ci b1' o1' c1' _ _ w1 (hx.keep _ _ hin) (hQ.keep (Kwr.out.trans hx.keep)) (RV.keep (Kwr.out.trans hx.keep) _ H1.out) (RV.keep (Kwr.out.trans hx.keep) _ H2.out)
      have HQ0 : Hid (IgNe (some q)) := hq0
      clear hQ hin
      have HIGK := HIG.out
      go_wp2_with (first
        | (go_at_call 24; refine (HDF2.out _ Kwr.out).mono ?_; rintro e w5 ⟨qs, hqs, v5, rfl, hpq, hx5⟩; have HQS := Lib.hid hqs; have HPQ := Lib.hid hpq; have HX5 := Lib.hid hx5; have Kw5 : Hid (Keep w w5) := Kwr.out.trans hx5.keep; have Xw5 : Hid (Ext w w5) := Xwr.out.trans hx5; have Tw5 : Hid (Two w w5 _ _ _ _ _ _ _ _ _ _ _ _) := Twr.out.keep hx5.keep; have Bw5 : Hid (w5.cell? ⟨w.heap.size + 2, 0, none⟩ = some (.slice (some ⟨bi0, oi0, none⟩) 1 ci)) := hx5.keep _ _ Bwr.out; clear a0 a1 a2 a3 a4 a5 e0 e1 e2 e3 e4 e5 bi; obtain ⟨a0, a1, a2, a3, a4, a5, e0, e1, e2, e3, e4, e5⟩ := Tw5.out; have bi := Bw5.out; obtain ⟨a5', c5', e5', -⟩ := hpq.shape; subst e5'; clear hqs hpq hx5)
        | (go_at_call 27; refine (deletePaths_any wr.heap.size qs (by have h1 := HQS.out.length_eq; rw [List.length_map] at h1; have h2 := HLE.out.1; omega) (covIg (some q)) 28 #[.pointer (some ⟨w.heap.size + 2, 0, none⟩)] Try.enters_cov _ w5 HPQ.out HX5.out.size (fun w1 hw1 p hp u hu => ignored_fn (some q) p (by obtain ⟨p', hp', rfl⟩ := List.mem_map.1 (HQS.out.mem_iff.1 hp); have := HLE.out.2 p' hp'; simpa using (by omega : p'.length ≤ 1000000)) (w.heap.size + 2) u (.slice (some ⟨bi0, oi0, none⟩) 1 ci) w1 (HIG.out.keep (Keep.of_below (Below.trans HX5.out hw1) (Nat.le_refl _))) ((Keep.of_below (Below.trans HX5.out hw1) (Nat.le_refl _)) _ _ Bwr.out) hu)).mono ?_
           rintro e w7 ⟨v7, rfl, hp7, hb7⟩
           have hx57 : Ext wr w7 := Below.trans HX5.out hb7
           have HP7 := Lib.hid hp7
           have HX7 := Lib.hid hx57
           have Kw7 : Hid (Keep w w7) := Kwr.out.trans hx57.keep; have Xw7 : Hid (Ext w w7) := Xwr.out.trans hx57; have Tw7 : Hid (Two w w7 _ _ _ _ _ _ _ _ _ _ _ _) := Twr.out.keep hx57.keep; have Bw7 : Hid (w7.cell? ⟨w.heap.size + 2, 0, none⟩ = some (.slice (some ⟨bi0, oi0, none⟩) 1 ci)) := hx57.keep _ _ Bwr.out; clear a0 a1 a2 a3 a4 a5 e0 e1 e2 e3 e4 e5 bi; obtain ⟨a0, a1, a2, a3, a4, a5, e0, e1, e2, e3, e4, e5⟩ := Tw7.out; have bi := Bw7.out; obtain ⟨a7', c7', e7', -⟩ := hp7.shape
           generalize hqf : qs.filter (fun p => !covIg (some q) p) = qf at *
           have HQF := Lib.hid hqf
           subst e7'
           clear hp7 hb7 hx57 hqf)
        | (go_at_call 21; refine (HID.out w7 HX7.out).mono ?_
           rintro e w8 ⟨v8, ps, rfl, hper, hpl, hx8⟩
           obtain ⟨a8', c8', rfl, hsh⟩ := hpl.shape
           have HPER := Lib.hid hper
           have HSH := Lib.hid hsh
           have HX8 := Lib.hid hx8
           clear hper hpl hsh hx8))
      have HTL : Hid (ps.Nodup ∧ ps.Perm qf) := by
        have := told_left (g := (some q)) HQ0.out HPER.out HQS.out HND.out
        rw [HQF.out] at this
        exact this
      have HQB : Hid (∀ p ∈ qf, p.length ≤ 2000) := fun p hp => by
        rw [← HQF.out] at hp
        obtain ⟨p', hp', rfl⟩ := List.mem_map.1 (HQS.out.mem_iff.1 (List.mem_filter.1 hp).1)
        simpa using HLE.out.2 p' hp'
      have HPS : Hid (ps.length ≤ 2000 ∧ ∀ p ∈ ps, p.length ≤ 2000) := ⟨by
        have h1 := HTL.out.2.length_eq
        have h2 := HQS.out.length_eq
        have h3 := List.length_filter_le (fun p => !covIg (some q) p) qs
        rw [HQF.out] at h3
        rw [List.length_map] at h2
        have h4 := HLE.out.1
        omega, fun p hp => HQB.out p (HTL.out.2.mem_iff.1 hp)⟩
      have hps : ps.length ≤ 2000 := HPS.out.1
      clear a0 a1 a2 a3 a4 a5 e0 e1 e2 e3 e4 e5 bi HQS HPQ HPER HND HLE HQF HDF2 HIG HIGK HJ HEVF
      go_loopw [13, 14] (fun o i wr => ∃ m : Nat, m ≤ ps.length ∧ i = .int .i64 m ∧ PLs PathN wr w8.heap.size o (ps.take m) ∧ Ext w8 wr) (fun _ i _ => ps.length - (intOf i).toNat)
      case atStart => exact ⟨0, Nat.zero_le _, rfl, PLs.nil _ _ _, Ext.refl _⟩
      case round =>
        obtain ⟨m, hm, rfl, hP, hB⟩ := hrel
        have HP := Lib.hid hP
        have HB := Lib.hid hB
        clear hP hB
        by_cases hlt : m < ps.length
        · obtain ⟨g9, u, e9, hc, q9, hq, hgp⟩ := HSH.out m hlt
          obtain ⟨ua, un, uc, rfl⟩ := GP.pq.shape hgp
          have hc := HB.out.get hc
          have HW := Lib.hid (whereTold_any q9 _ wr (GP.pq.ext HB.out hgp) (by have := HPS.out.2 q9 (List.mem_of_getElem? hq); omega))
          have HQ := Lib.hid hq
          subst e9
          have hm1 : (m : Int) < (ps.length : Int) := by omega
          have hm0 : (0 : Int) ≤ (m : Int) := by omega
          clear hq hgp
          go_wp2_with (first
            | (go_at_call 22; refine (HW.out).mono ?_; rintro e w11 ⟨u7', rfl, hu, hx7⟩; obtain ⟨ta, tn', tc, rfl⟩ := PathN.pq.shape hu; have HU := Lib.hid hu; have HX11 := Lib.hid hx7; clear hu hx7)
            | (at_builtin; refine wpList_place PathN.pq (.tmp 135) (.tmp 141) rfl rfl w8 w11 u13 _ (ps.take m) q9 (HP.out.ext PathN.pq HX11.out) HU.out (Ext.trans HB.out HX11.out) (by rw [List.length_take]; omega) w11.heap.size rfl rfl rfl ?_; intro g12 c12 w12 hp12 hx12; have HP12 := Lib.hid hp12; have HX12 := Lib.hid hx12; clear hp12 hx12))
          go_roundw
          case rel => exact ⟨m + 1, by omega, by go_num, by rw [take_succ_get' HQ.out]; have hl9 : (ps.take m).length = m := (by rw [List.length_take]; omega); have := HP12.out; first | exact this | (rw [hl9] at this; exact this), HX12.out⟩
          case measure => simp [intOf]; omega
        · have hmM : m = ps.length := by omega
          subst hmM
          rw [List.take_length] at HP
          have hl0 : ¬ ps.length < ps.length := by omega
          have HX78 : Hid (Ext w7 wr) := Ext.trans HX8.out HB.out
          clear hlt hm
          go_wp2_with (first
            | (go_at_call 23; refine (samePlaces_any ps qf HTL.out.1 HTL.out.2.length_eq (fun p hp => HTL.out.2.mem_iff.1 hp) (by have := HPS.out.1; omega) (fun p hp => by have := HPS.out.2 p hp; omega) (fun p hp => by have := HQB.out p hp; omega) _ _ _ _ _ HP.out (HP7.out.ext PathN.pq HX78.out)).mono ?_; rintro e w13 ⟨rfl, hx13⟩; have HX13 := Lib.hid hx13; clear hx13)
            | (go_at_call 20; refine (differs_any _).mono ?_; rintro e w14 ⟨rfl, hx14⟩; have HX14 := Lib.hid hx14; clear hx14))
          go_ret
          exact .mk rfl (Ext.trans Xw7.out (Ext.trans HX78.out (Ext.trans HX13.out HX14.out)))

theorem law_fnDiffIgnores (f t : V) (vf vt : Value) (nn : Nat) (ai : Option Addr) (ln ci : Nat) (w : World) (h1 : RV w f vf) (h2 : RV w t vt) (hI : PathsIn w nn ai ln) (hlc : ln ≤ ci) (hlr : ln ≤ reachN) :
    Calls Try.prog 6 #[vf, vt, .slice ai ln ci] w (Gives (.bool true) w) := by
  by_cases h0 : ln = 0
  · exact law_ign_none f t vf vt nn ai ln ci w h1 h2 hI hlc hlr h0
  by_cases h3 : ln = 1
  · exact law_ign_one f t vf vt nn ai ln ci w h1 h2 hI hlc hlr h3
  by_cases h4 : ln ≤ 2147483647
  · exact law_ign_two f t vf vt nn ai ln ci w h1 h2 hI hlc hlr (by omega) h4
  · exact law_ign_big f t vf vt nn ai ln ci w h1 h2 hI hlc hlr (by omega)
end Go.Proofs.Ytikpedfggbibpaa
namespace Go.Proofs.Ytikpedfggbibpaa
open Go.ChangeShapes Go.WideShapes Go.ChangeAt Go.RowKit
set_option linter.unusedVariables false

theorem own3 : ownKnob Try.prog.godebug = none := by kernel_rfl
theorem laidOut3 : laidOutB Try.prog = true := by kernel_rfl

set_option maxRecDepth 100000 in
theorem lifted3 (os : Os) (started : os.Started) (H : Type) (enc : TypeId × Value → H) :
    ReturnsInHanded {} Try.checked os 6 .any (Rows.fnDiffIgnoresSpec.pre6 enc Try.prog Try.f6 Rows.fnDiffIgnoresRow.domain false) (Rows.fnDiffIgnoresSpec.post enc Try.prog Try.f6 false true false false) := by
  refine returnsInHanded_of_change_sized (C := Try.checked) own3 started (by kernel_rfl) Try.func6
    (ChangeSpec.witness6 (enc := enc) (C := Try.checked) false ⟨#[], #[.agg #[.int .i64 0, .int .i64 0, .float .f64 0, .string ByteArray.empty, .slice none 0 0, .slice none 0 0], .agg #[.int .i64 0, .int .i64 0, .float .f64 0, .string ByteArray.empty, .slice none 0 0, .slice none 0 0], .slice none 0 0], []⟩ 8 (by kernel_rfl) (by kernel_rfl) (by kernel_rfl) (by kernel_rfl)) ?_
  intro W base args ds gs before hval0 hW hcnd hsz0 _
  have hval : ∀ (j : Nat) t v, Try.f6.params[j]? = some t → args[j]? = some v → Value.okWide Try.prog W .any base t v := hval0
  have hsz1 : (DataW.weightsEach Try.prog (Try.f6.params.toList ++ Rows.fnDiffIgnoresSpec.plain.varTypes Try.prog) (ds ++ gs)).all (· ≤ reachBytes) = true := hsz0
  have hW' := hW
  obtain ⟨p, q, hA0, hV, rfl, hfz, hnd⟩ := hW
  have hA : DataW.TrodAll enc Try.prog W 0 (fun _ => true) true Try.f6.params.toList args.toList ds p := hA0
  rw [Try.params6] at hA hval hsz1
  obtain ⟨v0, vs0, d0, ds0, p0, q0, hargs, rfl, rfl, h0, r0⟩ := trodAll_cons hA
  obtain ⟨v1, vs1, d1, ds1, p1, q1, rfl, rfl, rfl, h1, r1⟩ := trodAll_cons r0
  obtain ⟨v2, vs2, d2, ds2, p2, q2, rfl, rfl, rfl, h2, r2⟩ := trodAll_cons r1
  obtain ⟨rfl, rfl, rfl⟩ := trodAll_nil r2
  obtain rfl : args = #[v0, v1, v2] := by cases args; simp_all
  obtain ⟨rfl, rfl⟩ := trodVars_none hV
  have sm : ∀ (j : Nat) (t : TypeId) (d : DataW H), [26, 26, 30][j]? = some t → [d0, d1, d2][j]? = some d → Small t d := fun j t d ht hd k hk => by
    have := List.all_eq_true.1 hsz1 k (DataW.weights_mem_each (j := j) (by simpa using List.getElem?_append_left (l₂ := Rows.fnDiffIgnoresSpec.plain.varTypes Try.prog) (show j < [26, 26, 30].length from (List.getElem?_eq_some_iff.1 ht).1) |>.trans ht) (by simpa using hd) k hk)
    simpa using this
  obtain ⟨x0, hx0⟩ := open_val (hval 0 26 v0 rfl rfl) h0 (sm 0 _ _ rfl rfl)
  obtain ⟨x1, hx1⟩ := open_val (hval 1 26 v1 rfl rfl) h1 (sm 1 _ _ rfl rfl)
  obtain ⟨nn, ai, ln, ci, rfl, hlc, hlr, hI⟩ := open_paths (hval 2 30 v2 rfl rfl) h2 (sm 2 _ _ rfl rfl)
  clear hA0 hval0
  have hW2 := hW'
  simp only [List.append_nil] at hW'
  refine (law_fnDiffIgnores x0 x1 v0 v1 nn ai ln ci W hx0 hx1 hI hlc hlr).mono fun e W' ⟨he, bel⟩ => ?_
  subst he
  have hl0 : ∀ x ∈ p0, x.block < W.heap.size := fun x hx => hW'.lt x (by simp [hx])
  have hl1 : ∀ x ∈ p1, x.block < W.heap.size := fun x hx => hW'.lt x (by simp [hx])
  have hl2 : ∀ x ∈ p2, x.block < W.heap.size := fun x hx => hW'.lt x (by simp [hx])
  have t0 := Below.trod laidOut3 (by kernel_rfl) (of_decide_eq_true (by kernel_rfl)) h0 bel hl0
  have t1 := Below.trod laidOut3 (by kernel_rfl) (of_decide_eq_true (by kernel_rfl)) h1 bel hl1
  have t2 := Below.trod laidOut3 (by kernel_rfl) (of_decide_eq_true (by kernel_rfl)) h2 bel hl2
  refine ⟨_, rfl, _, _, _, [], _, [], hW', trodAll_mk1 (shut_bool Try.underlying4 _), trodAll_cons_mk t0 (trodAll_cons_mk t1 (trodAll_cons_mk t2 trodAll_mk0)), rfl, bel.frame _, fun h => by cases h⟩

theorem over3 : Rows.fnDiffIgnoresRow.holds Try.pinned (OpenSpec.ofChange Rows.fnDiffIgnoresSpec) :=
  OpenClaim.holds_of_wide 6 Try.f6 rfl rfl rfl rfl rfl rfl rfl ⟨rfl, rfl, rfl, rfl, rfl⟩ rfl rfl rfl rfl rfl (by kernel_rfl) Try.func6 (by kernel_rfl)
    (of_decide_eq_true (by kernel_rfl)) (by unfold Func.isWrapper; first | (rw [if_pos (by decide +kernel)]; kernel_rfl) | (rw [if_neg (by decide +kernel)]; exact ⟨rfl, rfl⟩))
    (fun os started H enc _ => lifted3 os started H enc)

theorem FnDiffIgnores_holds : Rows.FnDiffIgnoresSaid := over3
#print axioms FnDiffIgnores_holds
end Go.Proofs.Ytikpedfggbibpaa
