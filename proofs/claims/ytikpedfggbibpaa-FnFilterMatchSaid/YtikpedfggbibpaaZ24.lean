/- Walks: FnFitsLess. -/
import Derived.Test.YtikpedfggbibpaaZ23
namespace Go.Proofs.Ytikpedfggbibpaa
open Go.RowKit Go.Lib
set_option linter.unusedVariables false
set_option linter.unusedSimpArgs false

mutual
theorem nodes_wt : ∀ (j : J), j.nodes ≤ (V.ofJ j).wt
  | .null => by simp [J.nodes, V.ofJ, V.wt]; omega
  | .bool b => by simp [J.nodes, V.ofJ, V.wt]; omega
  | .int n => by simp [J.nodes, V.ofJ, V.wt]; omega
  | .flt b => by simp [J.nodes, V.ofJ, V.wt]; omega
  | .str s => by simp [J.nodes, V.ofJ, V.wt]; omega
  | .arr l => by have := nodes_wtL l; simp only [J.nodes, V.ofJ, V.wt]; omega
  | .obj ks l => by have := nodes_wtL l; simp only [J.nodes, V.ofJ, V.wt]; omega
theorem nodes_wtL : ∀ (l : List J), J.nodesL l ≤ V.wtL (V.ofJs l)
  | [] => by simp [J.nodesL]
  | x :: xs => by
    have h1 := nodes_wt x
    have h2 := nodes_wtL xs
    simp only [J.nodesL, V.ofJs, V.wtL]
    omega
end

theorem has_lt {p : List Step} (h : lastChild p) : p ≠ [] := by
  rintro rfl
  exact h
/-- what the last step of a path is -/
theorem last_kind : ∀ (p : List Step) (m : Nat) (h : p.length = m + 1), (lastChild p ∧ ∃ s, p[m]'(by omega) = .child s) ∨ ∃ n, p[m]'(by omega) = .nth n
  | [.child s], 0, _ => Or.inl ⟨trivial, s, rfl⟩
  | [.nth n], 0, _ => Or.inr ⟨n, rfl⟩
  | st :: st' :: p, m + 1, h => by
    rcases last_kind (st' :: p) m (by simpa using h) with ⟨h1, s, h2⟩ | ⟨n, h2⟩
    · refine Or.inl ⟨?_, s, by simpa using h2⟩
      cases st <;> exact h1
    · exact Or.inr ⟨n, by simpa using h2⟩

theorem Places.cell {w : World} {base : Nat} {v : Value} {ps : List (List Step)} (h : Places w base v ps) (i : Nat) (hi : i < ps.length) :
    ∃ g cap a c, v = .slice (some ⟨g, 0, none⟩) ps.length cap ∧ w.cell? ⟨g, i, none⟩ = some (.slice a ps[i].length c) ∧ PathN w (.slice a ps[i].length c) ps[i] := by
  obtain ⟨vs, h1, h2, h3⟩ := h
  have hi' : i < vs.length := by omega
  have hp := h2 i hi hi'
  obtain ⟨a, c, e, hc⟩ := hp.1.sh
  rcases h3.2 with ⟨_, h0⟩ | ⟨g, cap, cur, rfl, hb, hh, hc', rest⟩
  · omega
  · refine ⟨g, cap, a, c, rfl, ?_, by rw [← e]; exact hp⟩
    have := h3.cells (g := g) rfl i (vs[i]) (List.getElem?_eq_getElem hi')
    rw [Addr.add_lit, Nat.zero_add] at this
    rw [this, e]

set_option maxRecDepth 20000 in
set_option maxHeartbeats 8000000 in
theorem law_fitsLess (f t : V) (vf vt : Value) (n : Nat) (hn : n < 65536) (w : World) (h1 : RV w f vf) (h2 : RV w t vt) :
    Calls Try.prog 3 #[vf, vt, .int .u16 (n : Int)] w (Gives (.bool true) w) := by
  have HZ : Hid (∀ w1, Keep w w1 → ∀ v, v = vf ∨ v = vt → Calls Try.prog 7 #[v] w1 (SomeBool w1)) := fun w1 hk v hv => by
    rcases hv with rfl | rfl
    · exact zzFits1_any f _ w1 (RV.keep hk _ h1)
    · exact zzFits1_any t _ w1 (RV.keep hk _ h2)
  have HPF : Hid (∀ w1, Keep w w1 → Calls Try.prog 8 #[vf] w1 (DataPost f w1)) := fun w1 hk => plainData_any f vf w1 (RV.keep hk _ h1)
  have HPT : Hid (∀ w1, Keep w w1 → Calls Try.prog 8 #[vt] w1 (DataPost t w1)) := fun w1 hk => plainData_any t vt w1 (RV.keep hk _ h2)
  have H1 := Lib.hid h1
  have H2 := Lib.hid h2
  obtain ⟨fk, fn, ff, fs, fal, fll, flc, fak, fkl, fkc, rfl⟩ := h1.sh
  obtain ⟨tk, tn, tf, ts, tal, tll, tlc, tak, tkl, tkc, rfl⟩ := h2.sh
  clear h1 h2
  go_enter Try.func3, Try.ntmps3
  have K0 : Hid (Keep w ((w.alloc (.cells #[.int .i64 fk, .int .i64 fn, .float .f64 ff, .string fs, .slice fal fll flc, .slice fak fkl fkc] 26)).alloc (.cells #[.int .i64 tk, .int .i64 tn, .float .f64 tf, .string ts, .slice tal tll tlc, .slice tak tkl tkc] 26))) := (Keep.alloc _ _).trans (Keep.alloc _ _)
  have T0 : Hid (Two w ((w.alloc (.cells #[.int .i64 fk, .int .i64 fn, .float .f64 ff, .string fs, .slice fal fll flc, .slice fak fkl fkc] 26)).alloc (.cells #[.int .i64 tk, .int .i64 tn, .float .f64 tf, .string ts, .slice tal tll tlc, .slice tak tkl tkc] 26)) _ _ _ _ _ _ _ _ _ _ _ _) := Two.of (Keep.refl _)
  have X0 : Hid (Ext w ((w.alloc (.cells #[.int .i64 fk, .int .i64 fn, .float .f64 ff, .string fs, .slice fal fll flc, .slice fak fkl fkc] 26)).alloc (.cells #[.int .i64 tk, .int .i64 tn, .float .f64 tf, .string ts, .slice tal tll tlc, .slice tak tkl tkc] 26))) := ((Ext.refl _).alloc _).alloc _
  go_wp2_with (go_at_call 7; refine (HZ.out _ K0.out _ (Or.inl rfl)).mono ?_; rintro e w1 ⟨⟨z1, rfl⟩, hb1⟩; have K1 : Hid (Keep w w1) := K0.out.trans hb1.keep; have X1 : Hid (Ext w w1) := X0.out.trans hb1; have T1 : Hid (Two w w1 _ _ _ _ _ _ _ _ _ _ _ _) := T0.out.keep hb1.keep; obtain ⟨a0, a1, a2, a3, a4, a5, e0, e1, e2, e3, e4, e5⟩ := T1.out; clear hb1 K0 T0 X0; cases z1)
  · go_wp2
    go_ret
    exact .mk rfl X1.out
  go_wp2_with (go_at_call 7; refine (HZ.out _ K1.out _ (Or.inr rfl)).mono ?_; rintro e w2 ⟨⟨z1, rfl⟩, hb1⟩; have K2 : Hid (Keep w w2) := K1.out.trans hb1.keep; have X2 : Hid (Ext w w2) := X1.out.trans hb1; have T2 : Hid (Two w w2 _ _ _ _ _ _ _ _ _ _ _ _) := T1.out.keep hb1.keep; clear a0 a1 a2 a3 a4 a5 e0 e1 e2 e3 e4 e5; obtain ⟨a0, a1, a2, a3, a4, a5, e0, e1, e2, e3, e4, e5⟩ := T2.out; clear hb1 HZ K1 T1 X1; cases z1)
  · go_wp2
    go_ret
    exact .mk rfl X2.out
  go_wp2_with (go_at_call 8; refine (HPF.out _ K2.out).mono ?_; rintro e w3 ⟨z1, rfl, hd1, hb1⟩; have HDF := Lib.hid hd1; have K3 : Hid (Keep w w3) := K2.out.trans hb1.keep; have X3 : Hid (Ext w w3) := X2.out.trans hb1; have T3 : Hid (Two w w3 _ _ _ _ _ _ _ _ _ _ _ _) := T2.out.keep hb1.keep; clear a0 a1 a2 a3 a4 a5 e0 e1 e2 e3 e4 e5; obtain ⟨a0, a1, a2, a3, a4, a5, e0, e1, e2, e3, e4, e5⟩ := T3.out; clear hb1 hd1 HPF K2 T2 X2; cases z1)
  · go_wp2_with (go_at_call 9; refine (fitsOne_any _).mono ?_; rintro e w4 ⟨rfl, hb4⟩; have X4 := Lib.hid (Ext.trans X3.out hb4); clear hb4)
    go_ret
    exact .mk rfl X4.out
  go_wp2_with (go_at_call 8; refine (HPT.out _ K3.out).mono ?_; rintro e w4 ⟨z1, rfl, hd1, hb1⟩; have HDT := Lib.hid hd1; have K4 : Hid (Keep w w4) := K3.out.trans hb1.keep; have X4 : Hid (Ext w w4) := X3.out.trans hb1; have T4 : Hid (Two w w4 _ _ _ _ _ _ _ _ _ _ _ _) := T3.out.keep hb1.keep; clear a0 a1 a2 a3 a4 a5 e0 e1 e2 e3 e4 e5; obtain ⟨a0, a1, a2, a3, a4, a5, e0, e1, e2, e3, e4, e5⟩ := T4.out; clear hb1 hd1 HPT K3 T3 X3; cases z1)
  · go_wp2_with (go_at_call 9; refine (fitsOne_any _).mono ?_; rintro e w5 ⟨rfl, hb5⟩; have X5 := Lib.hid (Ext.trans X4.out hb5); clear hb5)
    go_ret
    exact .mk rfl X5.out
  obtain ⟨jf, rfl, fok, fnf, fwt⟩ := HDF.out (by first | rfl | trivial)
  obtain ⟨jt, rfl, tok, tnf, twt⟩ := HDT.out (by first | rfl | trivial)
  have hfn : jf.nodes ≤ 1000 := by have := nodes_wt jf; omega
  have HFN := Lib.hid hfn
  have FOK := Lib.hid fok
  have FNF := Lib.hid fnf
  have TOK := Lib.hid tok
  have TNF := Lib.hid tnf
  clear HDF HDT fwt twt fok fnf tok tnf hfn
  go_wp2_with fail
  refine (allPlaces_any jf.nodes jf (Nat.le_refl _) HFN.out FOK.out _ _ (RV.keep K4.out _ H1.out)).mono ?_
  rintro e w5 ⟨vp, ps, rfl, hpl, hps, hpp, hb1⟩
  have K5 : Hid (Keep w w5) := K4.out.trans hb1.keep
  have X5 : Hid (Ext w w5) := X4.out.trans hb1
  have T5 : Hid (Two w w5 _ _ _ _ _ _ _ _ _ _ _ _) := T4.out.keep hb1.keep
  clear a0 a1 a2 a3 a4 a5 e0 e1 e2 e3 e4 e5
  obtain ⟨a0, a1, a2, a3, a4, a5, e0, e1, e2, e3, e4, e5⟩ := T5.out
  clear hb1 K4 T4 X4
  have hpos : 0 < ps.length := by rw [hpl]; exact jf.nodes_pos
  have hp1 : ps.length ≤ 1000 := by rw [hpl]; exact HFN.out
  have hlt : n % ps.length < ps.length := Nat.mod_lt _ hpos
  obtain ⟨g5, c5, ap, cp, rfl, hcp, hpn⟩ := hpp.cell (n % ps.length) hlt
  have hhas := hps _ (List.getElem_mem hlt)
  have hrem : (n : Int).tmod (ps.length : Int) = ((n % ps.length : Nat) : Int) := by rw [Int.tmod_eq_emod_of_nonneg (by omega)]; exact (Int.natCast_emod _ _).symm ▸ rfl
  generalize ps[n % ps.length] = p at hcp hpn hhas
  generalize n % ps.length = i at hlt hrem hcp
  have HHAS := Lib.hid hhas
  have HPN := Lib.hid hpn
  have hpl9 : p.length ≤ 1000 := Nat.le_trans (has_len p jf FOK.out HHAS.out) HFN.out
  clear hpl hps hpp hhas hpn
  rcases Nat.eq_zero_or_pos p.length with hm | hm
  · rw [hm] at hcp
    clear hpl9 HHAS HPN hm
    go_wp2_with (go_at_call 9; refine (fitsOne_any _).mono ?_; rintro e w6 ⟨rfl, hb6⟩; have X6 := Lib.hid (Ext.trans X5.out hb6); clear hb6)
    go_ret
    exact .mk rfl X6.out
  · obtain ⟨m, hm⟩ : ∃ m, p.length = m + 1 := ⟨p.length - 1, by omega⟩
    obtain ⟨b9, c9, fr, e9, hfa, hfo, hc9⟩ := HPN.out.1.frag m (by omega)
    simp only [Value.slice.injEq, true_and] at e9
    obtain ⟨rfl, rfl⟩ := e9
    have HLK := Lib.hid (last_kind p m hm)
    have hk9 : (fr.k = 3 ∧ lastChild p) ∨ fr.k = 4 := by
      rcases HLK.out with ⟨hl, s, hs⟩ | ⟨nn, hs⟩
      · rw [hs] at hfo
        exact Or.inl ⟨hfo.1, hl⟩
      · rw [hs] at hfo
        exact Or.inr hfo.1
    have f0 := hfa.h0
    rw [hm] at hcp
    have hm9 : m ≤ 1000 := by omega
    have HM := Lib.hid hm
    clear hm hpl9 HLK hfa hfo
    rcases hk9 with ⟨hk9, hlc⟩ | hk9
    · have HLC := Lib.hid hlc
      have HC9 := Lib.hid hc9
      rw [hk9] at f0
      clear hk9 hlc hc9
      have HWO : Hid (∀ w1, Ext w5 w1 → Calls Try.prog 12 #[.agg #[.int .i64 fk, .int .i64 fn, .float .f64 ff, .string fs, .slice fal fll flc, .slice fak fkl fkc], .slice (some ⟨b9, 0, none⟩) (m + 1) cp, .bool true] w1 (WoPost (J.wo p jf) w w1)) := fun w1 he => by
        have := without_any p.length p (Nat.le_refl _) HLC.out jf FOK.out HFN.out HHAS.out b9 0 cp _ w w1 (K5.out.trans he.keep) H1.out HC9.out (fun i hi => by
          obtain ⟨b8, c8, fr8, e8, hfa, hfo, _⟩ := HPN.out.1.frag i hi
          simp only [Value.slice.injEq, Option.some.injEq, Addr.mk.injEq, and_true, true_and] at e8
          obtain ⟨rfl, rfl⟩ := e8
          exact ⟨fr8, by rw [Nat.zero_add]; exact hfa.keep he.keep, hfo.ext he⟩)
        rw [HM.out] at this
        exact this
      have HWK := Lib.hid (wo_ok p jf FOK.out HHAS.out HLC.out)
      have HF1 : Hid (∀ w1, Keep w w1 → Calls Try.prog 11 #[.agg #[.int .i64 fk, .int .i64 fn, .float .f64 ff, .string fs, .slice fal fll flc, .slice fak fkl fkc], .agg #[.int .i64 tk, .int .i64 tn, .float .f64 tf, .string ts, .slice tal tll tlc, .slice tak tkl tkc]] w1 (Gives (.tuple #[.bool (jm jf jt), .bool false]) w1)) := fun w1 hk =>
        fits_any jf jt HFN.out FOK.out FNF.out TOK.out TNF.out _ _ w1 (RV.keep hk _ H1.out) (RV.keep hk _ H2.out)
      have HF2 : Hid (∀ w1 v1, RV w1 (V.ofJ (J.wo p jf)) v1 → Keep w w1 → Calls Try.prog 11 #[v1, .agg #[.int .i64 tk, .int .i64 tn, .float .f64 tf, .string ts, .slice tal tll tlc, .slice tak tkl tkc]] w1 (Gives (.tuple #[.bool (jm (J.wo p jf) jt), .bool false]) w1)) := fun w1 v1 hv hk =>
        fits_any (J.wo p jf) jt (Nat.le_trans HWK.out.nodes HFN.out) HWK.out.ok (HWK.out.nofl FNF.out) TOK.out TNF.out _ _ w1 hv (RV.keep hk _ H2.out)
      have HJ : Hid (jm jf jt = true → jm (J.wo p jf) jt = true) := HWK.out.fits jt
      generalize jm jf jt = r1 at HF1 HJ
      generalize jm (J.wo p jf) jt = r2 at HF2 HJ
      go_wp2_with fail
      refine (HF1.out _ K5.out).mono ?_
      rintro e w6 ⟨rfl, hb6⟩
      have K6 : Hid (Keep w w6) := K5.out.trans hb6.keep
      have X6 : Hid (Ext w w6) := X5.out.trans hb6
      have X56 : Hid (Ext w5 w6) := hb6
      have T6 : Hid (Two w w6 _ _ _ _ _ _ _ _ _ _ _ _) := T5.out.keep hb6.keep
      clear a0 a1 a2 a3 a4 a5 e0 e1 e2 e3 e4 e5
      obtain ⟨a0, a1, a2, a3, a4, a5, e0, e1, e2, e3, e4, e5⟩ := T6.out
      clear hb6 T5
      go_wp2_with fail
      go_region_held3 (fun w' => w'.cell? ⟨w.heap.size, 0, none⟩ = some (.int .i64 fk) ∧ w'.cell? ⟨w.heap.size, 1, none⟩ = some (.int .i64 fn) ∧ w'.cell? ⟨w.heap.size, 2, none⟩ = some (.float .f64 ff) ∧ w'.cell? ⟨w.heap.size, 3, none⟩ = some (.string fs) ∧ w'.cell? ⟨w.heap.size, 4, none⟩ = some (.slice fal fll flc) ∧ w'.cell? ⟨w.heap.size, 5, none⟩ = some (.slice fak fkl fkc) ∧ w'.cell? ⟨w.heap.size + 1, 0, none⟩ = some (.int .i64 tk) ∧ w'.cell? ⟨w.heap.size + 1, 1, none⟩ = some (.int .i64 tn) ∧ w'.cell? ⟨w.heap.size + 1, 2, none⟩ = some (.float .f64 tf) ∧ w'.cell? ⟨w.heap.size + 1, 3, none⟩ = some (.string ts) ∧ w'.cell? ⟨w.heap.size + 1, 4, none⟩ = some (.slice tal tll tlc) ∧ w'.cell? ⟨w.heap.size + 1, 5, none⟩ = some (.slice tak tkl tkc))
        (first
          | (go_split_ands
             with_reducible exact ⟨hk8.get a0, hk8.get a1, hk8.get a2, hk8.get a3, hk8.get a4, hk8.get a5, hk8.get e0, hk8.get e1, hk8.get e2, hk8.get e3, hk8.get e4, hk8.get e5⟩)
          | (go_split_ands
             with_reducible exact ⟨hk7.get a0, hk7.get a1, hk7.get a2, hk7.get a3, hk7.get a4, hk7.get a5, hk7.get e0, hk7.get e1, hk7.get e2, hk7.get e3, hk7.get e4, hk7.get e5⟩)
          | (go_split_ands
             exact ⟨a0, a1, a2, a3, a4, a5, e0, e1, e2, e3, e4, e5⟩))
        (first
          | (go_at_call 12; refine (HWO.out _ (by first | exact X56.out | exact Ext.drew X56.out)).mono ?_; rintro e w7 ⟨v9, rfl, hrv, hx7⟩
             have hx7c : Ext w6 w7 := by first | exact hx7 | exact Ext.trans (Ext.drew (Ext.refl w6)) hx7
             have hk7 := hx7c.keep
             have hrv7 := hrv w7 (K6.out.trans hk7) (fun _ _ _ => rfl)
             obtain ⟨m1, m2, m3, m4, m5, m6, m7, m8, m9, m10, rfl⟩ := hrv7.sh
             have HRV := Lib.hid hrv7
             have X7 := Lib.hid hx7c
             clear hrv hx7 hx7c hrv7)
          | (go_at_call 11; refine (HF2.out _ _ HRV.out (K6.out.trans hk7)).mono ?_; rintro e w8 ⟨rfl, hx8⟩
             have X8 := Lib.hid (Ext.trans X7.out hx8)
             have hk8 := X8.out.keep
             clear hx8))
      have X9 : Hid (Ext w w8) := X6.out.trans X8.out
      clear hk7 hk8 X8 X7 a0 a1 a2 a3 a4 a5 e0 e1 e2 e3 e4 e5
      cases r1
      · go_wp2_with (go_at_call 9; refine (fitsOne_any _).mono ?_; rintro e w9 ⟨rfl, hb9⟩; have X10 := Lib.hid (Ext.trans X9.out hb9); clear hb9)
        go_ret
        exact .mk rfl X10.out
      · have hr2 : r2 = true := HJ.out rfl
        subst hr2
        go_wp2_with (go_at_call 9; refine (fitsOne_any _).mono ?_; rintro e w9 ⟨rfl, hb9⟩; have X10 := Lib.hid (Ext.trans X9.out hb9); clear hb9)
        go_ret
        exact .mk rfl X10.out
    · rw [hk9] at f0
      clear hk9 hc9 HHAS
      go_wp2_with (go_at_call 9; refine (fitsOne_any _).mono ?_; rintro e w6 ⟨rfl, hb6⟩; have X6 := Lib.hid (Ext.trans X5.out hb6); clear hb6)
      go_ret
      exact .mk rfl X6.out
end Go.Proofs.Ytikpedfggbibpaa
