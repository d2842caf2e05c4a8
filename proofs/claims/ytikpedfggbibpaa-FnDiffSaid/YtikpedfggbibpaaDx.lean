/- Walks: FnDiff. -/
import Derived.Test.YtikpedfggbibpaaDv
namespace Go.Proofs.Ytikpedfggbibpaa
open Go.RowKit Go.Lib
set_option linter.unusedVariables false
set_option linter.unusedSimpArgs false

theorem take_succ_get {α : Type} {D : List α} {m : Nat} {d : α} (h : D[m]? = some d) : D.take (m + 1) = D.take m ++ [d] := by
  obtain ⟨h1, h2⟩ := List.getElem?_eq_some_iff.1 h
  rw [List.take_succ_eq_append_getElem h1, h2]

set_option maxRecDepth 100000 in
set_option maxHeartbeats 16000000 in
theorem law_fnDiff (f t : V) (vf vt : Value) (w : World) (h1 : RV w f vf) (h2 : RV w t vt) :
    Calls Try.prog 5 #[vf, vt] w (Gives (.bool true) w) := by
  have HZ : Hid (∀ w1, Keep w w1 → ∀ v, v = vf ∨ v = vt → Calls Try.prog 7 #[v] w1 (SomeBool w1)) := fun w1 hk v hv => by
    rcases hv with rfl | rfl
    · exact zzFits1_any f _ w1 (RV.keep hk _ h1)
    · exact zzFits1_any t _ w1 (RV.keep hk _ h2)
  have HPF : Hid (∀ w1, Keep w w1 → Calls Try.prog 8 #[vf] w1 (DataPost f w1)) := fun w1 hk => plainData_any f vf w1 (RV.keep hk _ h1)
  have HPT : Hid (∀ w1, Keep w w1 → Calls Try.prog 8 #[vt] w1 (DataPost t w1)) := fun w1 hk => plainData_any t vt w1 (RV.keep hk _ h2)
  have H1 := Lib.hid h1
  have H2 := Lib.hid h2
  obtain ⟨fk, fn, ff, fs, fal, fll, flc, fak, fkl, fkc, rfl⟩ := h1.sh
  obtain ⟨tk, tn, tf, ts, tal, tll, tlc, tak, tkl, tkc, rfl⟩ := h2.sh
  clear h1 h2
  go_enter Try.func5, Try.ntmps5
  have K0 : Hid (Keep w ((w.alloc (.cells #[.int .i64 fk, .int .i64 fn, .float .f64 ff, .string fs, .slice fal fll flc, .slice fak fkl fkc] 26)).alloc (.cells #[.int .i64 tk, .int .i64 tn, .float .f64 tf, .string ts, .slice tal tll tlc, .slice tak tkl tkc] 26))) := (Keep.alloc _ _).trans (Keep.alloc _ _)
  have T0 : Hid (Two w ((w.alloc (.cells #[.int .i64 fk, .int .i64 fn, .float .f64 ff, .string fs, .slice fal fll flc, .slice fak fkl fkc] 26)).alloc (.cells #[.int .i64 tk, .int .i64 tn, .float .f64 tf, .string ts, .slice tal tll tlc, .slice tak tkl tkc] 26)) _ _ _ _ _ _ _ _ _ _ _ _) := Two.of (Keep.refl _)
  have X0 : Hid (Ext w ((w.alloc (.cells #[.int .i64 fk, .int .i64 fn, .float .f64 ff, .string fs, .slice fal fll flc, .slice fak fkl fkc] 26)).alloc (.cells #[.int .i64 tk, .int .i64 tn, .float .f64 tf, .string ts, .slice tal tll tlc, .slice tak tkl tkc] 26))) := ((Ext.refl _).alloc _).alloc _
  go_wp2_with (go_at_call 7; refine (HZ.out _ K0.out _ (Or.inl rfl)).mono ?_; rintro e w1 ⟨⟨z1, rfl⟩, hb1⟩; have K1 : Hid (Keep w w1) := K0.out.trans hb1.keep; have X1 : Hid (Ext w w1) := X0.out.trans hb1; have T1 : Hid (Two w w1 _ _ _ _ _ _ _ _ _ _ _ _) := T0.out.keep hb1.keep; obtain ⟨a0, a1, a2, a3, a4, a5, e0, e1, e2, e3, e4, e5⟩ := T1.out; clear hb1 K0 T0 X0; cases z1)
  · go_wp2
    go_ret
    exact .mk rfl X1.out
  go_wp2_with (go_at_call 7; refine (HZ.out _ K1.out _ (Or.inr rfl)).mono ?_; rintro e w2 ⟨⟨z1, rfl⟩, hb1⟩; have K2 : Hid (Keep w w2) := K1.out.trans hb1.keep; have X2 : Hid (Ext w w2) := X1.out.trans hb1; have T2 : Hid (Two w w2 _ _ _ _ _ _ _ _ _ _ _ _) := T1.out.keep hb1.keep; clear a0 a1 a2 a3 a4 a5 e0 e1 e2 e3 e4 e5; obtain ⟨a0, a1, a2, a3, a4, a5, e0, e1, e2, e3, e4, e5⟩ := T2.out; clear hb1 HZ K1 T1 X1; cases z1)
  · go_wp2
    go_ret
    exact .mk rfl X2.out
  go_wp2_with (go_at_call 8; refine (HPF.out _ K2.out).mono ?_; rintro e w3 ⟨z1, rfl, hd1, hb1⟩; have HDF := Lib.hid hd1; have K3 : Hid (Keep w w3) := K2.out.trans hb1.keep; have X3 : Hid (Ext w w3) := X2.out.trans hb1; have T3 : Hid (Two w w3 _ _ _ _ _ _ _ _ _ _ _ _) := T2.out.keep hb1.keep; clear a0 a1 a2 a3 a4 a5 e0 e1 e2 e3 e4 e5; obtain ⟨a0, a1, a2, a3, a4, a5, e0, e1, e2, e3, e4, e5⟩ := T3.out; clear hb1 hd1 HPF K2 T2 X2; cases z1)
  · go_wp2_with (go_at_call 20; refine (differs_any _).mono ?_; rintro e w4 ⟨rfl, hb4⟩; have X4 := Lib.hid (Ext.trans X3.out hb4); clear hb4)
    go_ret
    exact .mk rfl X4.out
  go_wp2_with (go_at_call 8; refine (HPT.out _ K3.out).mono ?_; rintro e w4 ⟨z1, rfl, hd1, hb1⟩; have HDT := Lib.hid hd1; have K4 : Hid (Keep w w4) := K3.out.trans hb1.keep; have X4 : Hid (Ext w w4) := X3.out.trans hb1; have T4 : Hid (Two w w4 _ _ _ _ _ _ _ _ _ _ _ _) := T3.out.keep hb1.keep; clear a0 a1 a2 a3 a4 a5 e0 e1 e2 e3 e4 e5; obtain ⟨a0, a1, a2, a3, a4, a5, e0, e1, e2, e3, e4, e5⟩ := T4.out; clear hb1 hd1 HPT K3 T3 X3; cases z1)
  · go_wp2_with (go_at_call 20; refine (differs_any _).mono ?_; rintro e w5 ⟨rfl, hb5⟩; have X5 := Lib.hid (Ext.trans X4.out hb5); clear hb5)
    go_ret
    exact .mk rfl X5.out
  obtain ⟨jf, rfl, fok, fnf, fwt⟩ := HDF.out (by first | rfl | trivial)
  obtain ⟨jt, rfl, tok, tnf, twt⟩ := HDT.out (by first | rfl | trivial)
  have hfn : jf.nodes ≤ 1000 := by have := nodes_wt jf; omega
  have htn : jt.nodes ≤ 1000 := by have := nodes_wt jt; omega
  have VF := RV.keep K4.out _ H1.out
  have VT := RV.keep K4.out _ H2.out
  have HVF := Lib.hid VF
  have HVT := Lib.hid VT
  have HND : Hid ((difF (jf.nodes + jt.nodes) none jf jt).Nodup) := nodup_difF _ jf jt fok tok
  have HLE : Hid ((difF (jf.nodes + jt.nodes) none jf jt).length ≤ 2000 ∧ ∀ p ∈ difF (jf.nodes + jt.nodes) none jf jt, p.length ≤ 2000) := ⟨by have := difF_len_le (jf.nodes + jt.nodes) jf jt none fok tok; omega, fun p hp => by have := difF_path_le _ jf jt none fok tok p hp; omega⟩
  have HID := Lib.hid (implDiff0 jf jt fok fnf tok tnf hfn htn _ _ w4 VF VT)
  have HDF2 : Hid (∀ w1, Ext w4 w1 → Calls Try.prog 24 #[.agg #[.int .i64 fk, .int .i64 fn, .float .f64 ff, .string fs, .slice fal fll flc, .slice fak fkl fkc], .agg #[.int .i64 tk, .int .i64 tn, .float .f64 tf, .string ts, .slice tal tll tlc, .slice tak tkl tkc], .slice none 0 0] w1 (DfPost (jf.nodes + jt.nodes) jf jt [] w1)) := fun w1 hx =>
    differing_any _ jf jt (Nat.le_refl _) fok tok fnf tnf (by omega) [] (by simp; omega) _ _ _ w1 (RV.keep hx.keep _ HVF.out) (RV.keep hx.keep _ HVT.out) ⟨(gath_nil _ 0).path, fun _ => rfl⟩
  clear HDF HDT fwt twt fok fnf tok tnf hfn htn VF VT
  go_wp2_with fail
  refine (HID.out).mono ?_
  rintro e w5 ⟨v5, ps, rfl, hper, hpl, hx5⟩
  have HPER := Lib.hid hper
  obtain ⟨aR, cR, rfl, hsh⟩ := hpl.shape
  have HPL := Lib.hid hpl
  have HSH := Lib.hid hsh
  have HX5 := Lib.hid hx5
  have X5 : Hid (Ext w w5) := X4.out.trans hx5
  have T5 : Hid (Two w w5 _ _ _ _ _ _ _ _ _ _ _ _) := T4.out.keep hx5.keep
  have HPS : Hid (ps.length ≤ 2000 ∧ ∀ p ∈ ps, p.length ≤ 2000) := ⟨by have h1 := hper.length_eq; have h2 := HLE.out.1; omega, fun p hp => HLE.out.2 p (hper.mem_iff.1 hp)⟩
  have hps : ps.length ≤ 2000 := HPS.out.1
  clear a0 a1 a2 a3 a4 a5 e0 e1 e2 e3 e4 e5 hper hpl hsh hx5 T4 K4 HID
  go_wp2_with fail
  go_loopw [7, 8] (fun o i wr => ∃ m : Nat, m ≤ ps.length ∧ i = .int .i64 m ∧ PLs PathN wr w5.heap.size o (ps.take m) ∧ Ext w5 wr) (fun _ i _ => ps.length - (intOf i).toNat)
  case atStart => exact ⟨0, Nat.zero_le _, rfl, PLs.nil _ _ _, Ext.refl _⟩
  case round =>
    obtain ⟨m, hm, rfl, hP, hB⟩ := hrel
    have HP := Lib.hid hP
    have HB := Lib.hid hB
    clear hP hB
    by_cases hlt : m < ps.length
    · obtain ⟨g, u, e9, hc, q, hq, hgp⟩ := HSH.out m hlt
      obtain ⟨ua, un, uc, rfl⟩ := GP.pq.shape hgp
      have hc := HB.out.get hc
      have HW := Lib.hid (whereTold_any q _ wr (GP.pq.ext HB.out hgp) (by have := HPS.out.2 q (List.mem_of_getElem? hq); omega))
      have HQ := Lib.hid hq
      subst e9
      have hm1 : (m : Int) < (ps.length : Int) := by omega
      have hm0 : (0 : Int) ≤ (m : Int) := by omega
      clear hq hgp
      go_wp2_with (first
        | (go_at_call 22; refine (HW.out).mono ?_; rintro e w7 ⟨u7', rfl, hu, hx7⟩; obtain ⟨ta, tn', tc, rfl⟩ := PathN.pq.shape hu; have HU := Lib.hid hu; have HX7 := Lib.hid hx7; clear hu hx7)
        | (at_builtin; refine wpList_place PathN.pq (.tmp 38) (.tmp 44) rfl rfl w5 w7 u7 _ (ps.take m) q (HP.out.ext PathN.pq HX7.out) HU.out (Ext.trans HB.out HX7.out) (by rw [List.length_take]; omega) w7.heap.size rfl rfl rfl ?_; intro g9 c9 w9 hp9 hx9; have HP9 := Lib.hid hp9; have HX9 := Lib.hid hx9; clear hp9 hx9))
      go_roundw
      case rel => exact ⟨m + 1, by omega, by go_num, by rw [take_succ_get HQ.out]; have hl9 : (ps.take m).length = m := (by rw [List.length_take]; omega); have := HP9.out; first | exact this | (rw [hl9] at this; exact this), HX9.out⟩
      case measure => simp [intOf]; omega
    · have hmM : m = ps.length := by omega
      subst hmM
      rw [List.take_length] at HP
      have T6 : Hid (Two w wr _ _ _ _ _ _ _ _ _ _ _ _) := T5.out.keep HB.out.keep
      obtain ⟨a0, a1, a2, a3, a4, a5, e0, e1, e2, e3, e4, e5⟩ := T6.out
      have hl0 : ¬ ps.length < ps.length := by omega
      clear hlt hm
      go_wp2_with (first
        | (go_at_call 24; refine (HDF2.out _ (Ext.trans HX5.out HB.out)).mono ?_; rintro e w6 ⟨qs, hqs, vq, rfl, hpq, hx6⟩; have HQS := Lib.hid hqs; have HPQ := Lib.hid hpq; have HX6 := Lib.hid hx6; clear hqs hpq hx6)
        | (go_at_call 23; refine (samePlaces_any ps qs ((HPER.out.nodup_iff).2 HND.out) (by rw [HPER.out.length_eq, HQS.out.length_eq, List.length_map]) (fun p hp => HQS.out.mem_iff.2 (List.mem_map.2 ⟨p, HPER.out.mem_iff.1 hp, rfl⟩)) (by have := HPS.out.1; omega) (fun p hp => by have := HPS.out.2 p hp; omega) (fun p hp => by obtain ⟨p', hp', rfl⟩ := List.mem_map.1 (HQS.out.mem_iff.1 hp); have := HLE.out.2 p' hp'; simpa using (by omega : p'.length ≤ 1000000)) _ _ _ _ _ (HP.out.ext PathN.pq HX6.out) HPQ.out).mono ?_; rintro e w8 ⟨rfl, hx8⟩; have HX8 := Lib.hid hx8; clear hx8)
        | (go_at_call 20; refine (differs_any _).mono ?_; rintro e w9 ⟨rfl, hx9⟩; have HX9 := Lib.hid hx9; clear hx9))
      go_ret
      exact .mk rfl (Ext.trans X5.out (Ext.trans HB.out (Ext.trans HX6.out (Ext.trans HX8.out HX9.out))))
end Go.Proofs.Ytikpedfggbibpaa
