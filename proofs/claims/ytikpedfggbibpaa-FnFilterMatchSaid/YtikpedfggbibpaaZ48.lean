/- Data match a filter just if they are suited to its tree, by definition: laws.FnFilterMatch returns true. Conditions: none. -/
import Derived.Test.YtikpedfggbibpaaZ46
import Derived.Test.YtikpedfggbibpaaZ47
import Derived.Test.YtikpedfggbibpaaZ44
import Derived.Test.YtikpedfggbibpaaZ45
namespace Go.Proofs.Ytikpedfggbibpaa
open Go.RowKit Go.Lib
set_option linter.unusedVariables false
set_option linter.unusedSimpArgs false

theorem grown_any : ∀ K, GrAt K
  | [] => grown_nil
  | k :: r => by
    have ih := grown_any r
    intro o x ho vo vx a c w0 w hK hv1 hv2 hvx hk hc hK1 hz
    simp only [List.length_cons] at hc hK1 ⊢
    cases o with
    | none =>
      have hgo : growJ none (k :: r) x = growJ (some (.obj [] [])) (k :: r) x := by simp [growJ, idxK]
      rcases hv2 rfl with rfl | ⟨rfl, _⟩
      · exact grown_walk0 k r ih none x [] [] rfl (by simp) (by simp) hgo (fun i h => by simp at h) none none 0 0 vx a c w0 w hK [] rfl (fun i h => by simp at h) (fun _ => rfl) (fun h => absurd rfl h) (fun h => absurd rfl h) (fun x h => by simp at h) hvx hk hc hK1 hz
      · exact grown_walk8 k r ih none x [] [] rfl (by simp) (by simp) hgo (fun i h => by simp at h) none none 0 0 vx a c w0 w hK [] rfl (fun i h => by simp at h) (fun _ => rfl) (fun h => absurd rfl h) (fun h => absurd rfl h) (fun x h => by simp at h) hvx hk hc hK1 hz
    | some j =>
      have hvo := hv1 j rfl
      obtain ⟨hnd, E, hE, hne⟩ := ho j rfl
      rcases hE.cases_on' with hl | ⟨ks, l, rfl⟩
      · refine grown_bad (k :: r) (by simp) (some j) x ?_ ?_ ?_ vo vx a c w0 w hvo hvx (by simp; omega)
        · cases j <;> simp_all [V.ofO, V.ofJ, V.kind, J.isLeaf]
        · cases j <;> simp_all [V.ofO, V.ofJ, V.kind, J.isLeaf]
        · cases j <;> simp_all [growJ, J.isLeaf]
      · obtain ⟨n1, n2, n3, n4, n5⟩ := hE.obj_inv
        have hl0 : l ≠ [] := fun e => by
          subst e
          obtain ⟨p, y, hp⟩ := hne
          obtain ⟨k', r', rfl, hk'⟩ := n3 p y hp
          have : ks = [] := List.eq_nil_of_length_eq_zero n2
          rw [this] at hk'
          simp at hk'
        have hl5 : l.length ≤ 5000 := by have := J.nodesL_len l; simp only [J.nodes] at hnd; omega
        have hch : ∀ i, (h : i < l.length) → l[i].nodes ≤ 5000 ∧ ∃ E, TreeOf E l[i] ∧ ∃ p x, E p x := fun i h => by
          have hik : i < ks.length := by omega
          have hm := List.getElem_mem hik
          have h4 := n4 _ hm
          rw [look_hit h (List.getElem?_eq_getElem hik) n1] at h4
          refine ⟨?_, _, h4, n5 _ hm⟩
          have := J.nodes_mem (List.getElem_mem h)
          simp only [J.nodes] at hnd
          omega
        unfold V.ofJ RV at hvo
        obtain ⟨al, lc, ak, kc, rfl, z, hrl, hks⟩ := hvo
        obtain ⟨b, o', rfl, hrv⟩ := hrl (fun e => hl0 (by have := congrArg List.length e; rw [V.ofJs_length] at this; exact List.eq_nil_of_length_eq_zero this))
        obtain ⟨es, e1, e2, e3⟩ := rvs_es hrv
        rw [V.ofJs_length] at e1 ⊢
        exact grown_walk8 k r ih (some (.obj ks l)) x ks l n2 n1 hl5 rfl hch (some ⟨b, o', none⟩) ak lc kc vx a c w0 w hK es e1 (fun i h h' => by
          have := e2 i (by rw [V.ofJs_length]; exact h) h'
          rwa [V.ofJs_get l i h] at this) (fun h => absurd (List.eq_nil_of_length_eq_zero h) hl0) (fun _ => ⟨b, o', rfl, fun j u hu => hK _ _ (e3 j u hu)⟩) (hks.keep hK) z.hks hvx hk hc hK1 hz
end Go.Proofs.Ytikpedfggbibpaa
namespace Go.Proofs.Ytikpedfggbibpaa
open Go.RowKit Go.Lib
set_option linter.unusedVariables false
set_option linter.unusedSimpArgs false

theorem kcut_A : kcut kA = [kA] := kcut_none fun c hc => by
  have : c ∈ [(97 : UInt8)] := hc
  simp at this
  subst this
  decide
theorem LV_one (n : Int) (q : Pth) (x : J) : LV (.obj [kA] [.int n]) q x ↔ q = [kA] ∧ x = .int n := by
  rw [LV.obj_iff]
  constructor
  · rintro ⟨i, k, y, r, h1, h2, rfl, h4⟩
    have hi : i = 0 := by have := (List.getElem?_eq_some_iff.1 h1).1; simp at this; omega
    subst hi
    simp at h1 h2
    subst h1; subst h2
    obtain ⟨rfl, rfl⟩ := (LV.leaf_iff (c := .int n) rfl r x).1 h4
    exact ⟨by rw [kcut_A]; rfl, rfl⟩
  · rintro ⟨rfl, rfl⟩
    exact ⟨0, kA, .int n, [], rfl, rfl, by rw [kcut_A]; rfl, LV.leaf _ rfl⟩
theorem good_one (n : Int) : GoodF (.obj [kA] [.int n]) := by
  refine GoodF.obj _ _ (by simp) rfl (by simp) (fun i y hy => ?_) fun i j k k' y y' hij h1 h2 => ?_
  · have hi : i = 0 := by have := (List.getElem?_eq_some_iff.1 hy).1; simp at this; omega
    subst hi
    simp at hy
    subst hy
    exact GoodF.leaf _ rfl
  · have := (List.getElem?_eq_some_iff.1 h1).1
    have := (List.getElem?_eq_some_iff.1 h2).1
    simp at *
    omega
theorem tree_one (n : Int) : TreeOf (LV (.obj [kA] [.int n])) (.obj [kA] [.int n]) := by
  refine TreeOf.obj _ _ _ (by simp) rfl (fun p x h => ?_) (fun k hk => ?_) (fun k hk => ?_)
  · obtain ⟨rfl, rfl⟩ := (LV_one n p x).1 h
    exact ⟨kA, [], rfl, by simp⟩
  · simp at hk
    subst hk
    have e : look [kA] [J.int n] kA = .int n := by simp [look]
    rw [e]
    refine TreeOf.leaf _ _ rfl fun p x => ?_
    rw [LV_one]
    simp
  · simp at hk
    subst hk
    exact ⟨[], .int n, (LV_one n _ _).2 ⟨rfl, rfl⟩⟩
theorem suit_one (n : Int) : suitF 2000 (.obj [kA] [.int n]) (.obj [kA] [.int n]) = true := by
  show suitF (1999 + 1) _ _ = true
  simp only [suitF]
  simp only [List.all_cons, List.all_nil, Bool.and_true]
  have e : look [kA] [J.int n] kA = .int n := by simp [look]
  rw [e]
  show suitF (1998 + 1) _ _ = true
  simp [suitF, leafEq]
theorem wt_one (n : Int) : (V.ofJ (.obj [kA] [.int n])).wt ≤ 900 := by
  simp [V.ofJ, V.ofJs, V.wt, V.wtL, ksum]
  decide

set_option maxRecDepth 20000 in
set_option maxHeartbeats 8000000 in
theorem filters_any (w : World) : Calls Try.prog 13 #[] w (Gives (.bool true) w) := by
  have hw1 : (Lit.int .i64 1).wf = true := by decide
  have HI := Lib.hid (fun n w1 => integer_any n w1)
  have HOB : Hid (∀ w1, Calls Try.prog 47 #[.string { data := #[97] }, intV 1] w1 (ValPost (.obj [kA] [.int 1]) w1)) := fun w1 => object_any kA (.int 1) (by decide) _ w1 (int_RV 1 hw1 w1)
  have HIM : Hid (∀ w1 va vb, RV w1 (V.ofJ (.obj [kA] [.int 1])) va → RV w1 (V.ofJ (.obj [kA] [.int 1])) vb → Calls Try.prog 18 #[va, vb] w1 (Gives (.tuple #[.bool true, .bool false]) w1)) := fun w1 va vb h1 h2 => by
    have := implMatch_any [kA] [.int 1] (.obj [kA] [.int 1]) (good_one 1) (ok_one 1 hw1).1 (wt_one 1) (ok_one 1 hw1).1 (ok_one 1 hw1).2.1 (wt_one 1) _ (tree_one 1) va vb w1 h1 h2
    rwa [suit_one] at this
  clear hw1
  go_enter Try.func13, Try.ntmps13
  go_wp2_with fail
  refine (HI.out 1 _).mono ?_
  rintro e w1 ⟨rfl, hx1⟩
  have HX1 := Lib.hid hx1
  clear hx1
  go_wp2_with fail
  refine (HOB.out _).mono ?_
  rintro e w2 ⟨va, rfl, hva, hx2⟩
  have HX2 := Lib.hid hx2
  have HVA := Lib.hid hva
  clear hx2 hva
  go_wp2_with fail
  refine (HI.out 1 _).mono ?_
  rintro e w3 ⟨rfl, hx3⟩
  have HX3 := Lib.hid hx3
  clear hx3
  go_wp2_with fail
  refine (HOB.out _).mono ?_
  rintro e w4 ⟨vb, rfl, hvb, hx4⟩
  have HX4 := Lib.hid hx4
  have HVB := Lib.hid hvb
  clear hx4 hvb
  go_wp2_with fail
  refine (HIM.out _ _ _ (RV.keep (Ext.trans HX3.out HX4.out).keep _ HVA.out) HVB.out).mono ?_
  rintro e w5 ⟨rfl, hx5⟩
  have HX5 := Lib.hid hx5
  clear hx5
  go_wp2
  go_ret
  exact .mk rfl (Ext.trans HX1.out (Ext.trans HX2.out (Ext.trans HX3.out (Ext.trans HX4.out HX5.out))))
theorem Try.enters_isObj (args : Array Value) (w : World) : (callFunc 16 args).run Try.prog w = .ok (.enter 16 args) w := enters_of Try.func16 (by kernel_rfl) rfl args w
set_option maxRecDepth 20000 in
theorem isObj_fn (x : V) (v : Value) (w : World) (h : RV w x v) : Calls Try.prog 16 #[v] w (Gives (.bool (x.kind == 8)) w) := by
  obtain ⟨al, lc, ak, kc, rfl⟩ := h.six
  clear h
  go_enter Try.func16, Try.ntmps16
  go_wp2
  go_ret
  exact .mk rfl ((Ext.refl w).alloc _)
end Go.Proofs.Ytikpedfggbibpaa
namespace Go.Proofs.Ytikpedfggbibpaa
open Go.RowKit Go.Lib
set_option linter.unusedVariables false
set_option linter.unusedSimpArgs false

theorem ofJ_kind8 {j : J} (h : (V.ofJ j).kind = 8) : ∃ ks l, j = .obj ks l := by
  cases j with
  | obj ks l => exact ⟨ks, l, rfl⟩
  | null => simp [V.ofJ, V.kind] at h
  | bool b => simp [V.ofJ, V.kind] at h
  | int b => simp [V.ofJ, V.kind] at h
  | flt b => simp [V.ofJ, V.kind] at h
  | str b => simp [V.ofJ, V.kind] at h
  | arr b => simp [V.ofJ, V.kind] at h

set_option maxRecDepth 100000 in
set_option maxHeartbeats 16000000 in
theorem law_fnFilterMatch (f t : V) (vf vt : Value) (w : World) (h1 : RV w f vf) (h2 : RV w t vt) :
    Calls Try.prog 4 #[vf, vt] w (Gives (.bool true) w) := by
  have HZ : Hid (∀ w1, Keep w w1 → ∀ v, v = vf ∨ v = vt → Calls Try.prog 7 #[v] w1 (SomeBool w1)) := fun w1 hk v hv => by
    rcases hv with rfl | rfl
    · exact zzFits1_any f _ w1 (RV.keep hk _ h1)
    · exact zzFits1_any t _ w1 (RV.keep hk _ h2)
  have HPF : Hid (∀ w1, Keep w w1 → Calls Try.prog 8 #[vf] w1 (DataPost f w1)) := fun w1 hk => plainData_any f vf w1 (RV.keep hk _ h1)
  have HPT : Hid (∀ w1, Keep w w1 → Calls Try.prog 8 #[vt] w1 (DataPost t w1)) := fun w1 hk => plainData_any t vt w1 (RV.keep hk _ h2)
  have H1 := Lib.hid h1
  have H2 := Lib.hid h2
  obtain ⟨fk, fn, ff, fs, fal, fll, flc, fak, fkl, fkc, rfl⟩ := h1.sh
  obtain ⟨tk, tn, tf, ts, tal, tll, tlc, tak, tkl, tkc, rfl⟩ := h2.sh
  have hkd := h1.kn.1
  clear h1 h2
  by_cases hk8 : fk = 8
  · subst hk8
    have HKD := Lib.hid hkd
    clear hkd
    go_enter Try.func4, Try.ntmps4
    have K0 : Hid (Keep w ((w.alloc (.cells #[.int .i64 8, .int .i64 fn, .float .f64 ff, .string fs, .slice fal fll flc, .slice fak fkl fkc] 26)).alloc (.cells #[.int .i64 tk, .int .i64 tn, .float .f64 tf, .string ts, .slice tal tll tlc, .slice tak tkl tkc] 26))) := (Keep.alloc _ _).trans (Keep.alloc _ _)
    have T0 : Hid (Two w ((w.alloc (.cells #[.int .i64 8, .int .i64 fn, .float .f64 ff, .string fs, .slice fal fll flc, .slice fak fkl fkc] 26)).alloc (.cells #[.int .i64 tk, .int .i64 tn, .float .f64 tf, .string ts, .slice tal tll tlc, .slice tak tkl tkc] 26)) _ _ _ _ _ _ _ _ _ _ _ _) := Two.of (Keep.refl _)
    have X0 : Hid (Ext w ((w.alloc (.cells #[.int .i64 8, .int .i64 fn, .float .f64 ff, .string fs, .slice fal fll flc, .slice fak fkl fkc] 26)).alloc (.cells #[.int .i64 tk, .int .i64 tn, .float .f64 tf, .string ts, .slice tal tll tlc, .slice tak tkl tkc] 26))) := ((Ext.refl _).alloc _).alloc _
    go_wp2_with (go_at_call 7; refine (HZ.out _ K0.out _ (Or.inl rfl)).mono ?_; rintro e w1 ⟨⟨z1, rfl⟩, hb1⟩; have K1 : Hid (Keep w w1) := K0.out.trans hb1.keep; have X1 : Hid (Ext w w1) := X0.out.trans hb1; have T1 : Hid (Two w w1 _ _ _ _ _ _ _ _ _ _ _ _) := T0.out.keep hb1.keep; obtain ⟨a0, a1, a2, a3, a4, a5, e0, e1, e2, e3, e4, e5⟩ := T1.out; clear hb1 K0 T0 X0; cases z1)
    · go_wp2
      go_ret
      exact .mk rfl X1.out
    go_wp2_with (go_at_call 7; refine (HZ.out _ K1.out _ (Or.inr rfl)).mono ?_; rintro e w2 ⟨⟨z1, rfl⟩, hb1⟩; have K2 : Hid (Keep w w2) := K1.out.trans hb1.keep; have X2 : Hid (Ext w w2) := X1.out.trans hb1; have T2 : Hid (Two w w2 _ _ _ _ _ _ _ _ _ _ _ _) := T1.out.keep hb1.keep; clear a0 a1 a2 a3 a4 a5 e0 e1 e2 e3 e4 e5; obtain ⟨a0, a1, a2, a3, a4, a5, e0, e1, e2, e3, e4, e5⟩ := T2.out; clear hb1 HZ K1 T1 X1; cases z1)
    · go_wp2
      go_ret
      exact .mk rfl X2.out
    go_wp2_with (go_at_call 8; refine (HPF.out _ K2.out).mono ?_; rintro e w3 ⟨z1, rfl, hd1, hb1⟩; have HDF := Lib.hid hd1; have K3 : Hid (Keep w w3) := K2.out.trans hb1.keep; have X3 : Hid (Ext w w3) := X2.out.trans hb1; have T3 : Hid (Two w w3 _ _ _ _ _ _ _ _ _ _ _ _) := T2.out.keep hb1.keep; clear a0 a1 a2 a3 a4 a5 e0 e1 e2 e3 e4 e5; obtain ⟨a0, a1, a2, a3, a4, a5, e0, e1, e2, e3, e4, e5⟩ := T3.out; clear hb1 hd1 HPF K2 T2 X2; cases z1)
    · go_wp2_with (go_at_call 13; refine (filters_any _).mono ?_; rintro e w4 ⟨rfl, hb4⟩; have X4 := Lib.hid (Ext.trans X3.out hb4); clear hb4)
      go_ret
      exact .mk rfl X4.out
    go_wp2_with (go_at_call 8; refine (HPT.out _ K3.out).mono ?_; rintro e w4 ⟨z1, rfl, hd1, hb1⟩; have HDT := Lib.hid hd1; have K4 : Hid (Keep w w4) := K3.out.trans hb1.keep; have X4 : Hid (Ext w w4) := X3.out.trans hb1; have T4 : Hid (Two w w4 _ _ _ _ _ _ _ _ _ _ _ _) := T3.out.keep hb1.keep; clear a0 a1 a2 a3 a4 a5 e0 e1 e2 e3 e4 e5; obtain ⟨a0, a1, a2, a3, a4, a5, e0, e1, e2, e3, e4, e5⟩ := T4.out; clear hb1 hd1 HPT K3 T3 X3; cases z1)
    · go_wp2_with (go_at_call 13; refine (filters_any _).mono ?_; rintro e w5 ⟨rfl, hb5⟩; have X5 := Lib.hid (Ext.trans X4.out hb5); clear hb5)
      go_ret
      exact .mk rfl X5.out
    obtain ⟨jf, rfl, fok, fnf, fwt⟩ := HDF.out (by first | rfl | trivial)
    obtain ⟨jt, rfl, tok, tnf, twt⟩ := HDT.out (by first | rfl | trivial)
    obtain ⟨ks, l, rfl⟩ := ofJ_kind8 HKD.out.symm
    have VF := RV.keep K4.out _ H1.out
    have VT := RV.keep K4.out _ H2.out
    have HVF := Lib.hid VF
    have HVT := Lib.hid VT
    have hsl : fll = (V.ofJ (.obj ks l)).l.length := by
      obtain ⟨al, lc, ak, kc, e⟩ := VF.six
      simp only [Value.agg.injEq, Array.mk.injEq, List.cons.injEq, Value.slice.injEq] at e
      exact e.2.2.2.2.1.2.1
    have hrl : (V.ofJs l) ≠ [] → ∃ b o, fal = some ⟨b, o, none⟩ ∧ RVs w4 b o (V.ofJs l) := by
      have h9 := VF
      unfold V.ofJ RV at h9
      obtain ⟨al, lc, ak, kc, e, z, hl, hk⟩ := h9
      simp only [Value.agg.injEq, Array.mk.injEq, List.cons.injEq, Value.slice.injEq] at e
      rw [e.2.2.2.2.1.1]
      exact hl
    have hfn := nodes_wt (.obj ks l)
    have htn := nodes_wt jt
    have hll : (V.ofJs l).length ≤ reachN := by
      have h8 := J.nodesL_len l
      simp only [J.nodes] at hfn
      rw [V.ofJs_length]
      unfold reachN
      omega
    have HCF : Hid (∀ w1, Ext w4 w1 → Calls Try.prog 15 #[.slice fal fll flc, .func (.func 16) #[] #[]] w1 (AnyPost (fun q => ((V.ofJs l)[q]?.getD V.zero).kind == 8) (V.ofJs l).length w1)) := fun w1 hx => by
      rw [hsl]
      exact containsFunc_any 16 #[] Try.enters_isObj (V.ofJs l) (fun q => ((V.ofJs l)[q]?.getD V.zero).kind == 8) fal flc w1 (fun hn => by obtain ⟨b, o, e, hr⟩ := hrl hn; exact ⟨b, o, e, RVs.keep hx.keep _ hr⟩) hll (fun q hq v w' hx' hv => by
        have := isObj_fn _ v w' hv
        rwa [show (V.ofJs l)[q] = (V.ofJs l)[q]?.getD V.zero from by rw [List.getElem?_eq_getElem hq]; rfl] at this)
    have HTR : Hid (∀ w1 nb, Ext w4 w1 → Calls Try.prog 14 #[.agg #[.int .i64 8, .int .i64 fn, .float .f64 ff, .string fs, .slice fal fll flc, .slice fak fkl fkc], .bool nb] w1 (TrPost (.obj ks l) w4 w1)) := fun w1 nb hx => treeOf_all grown_any (J.obj ks l).nodes ks l (Nat.le_refl _) fok (by omega) nb _ w4 w1 hx.keep HVF.out
    have HHF : Hid (∀ w1, Ext w4 w1 → Calls Try.prog 17 #[.agg #[.int .i64 8, .int .i64 fn, .float .f64 ff, .string fs, .slice fal fll flc, .slice fak fkl fkc], .int .i64 1] w1 (HoldsPost 1 (V.ofJ (.obj ks l)) w1)) := fun w1 hx => holds_any 1 _ _ (Nat.le_refl _) _ w1 (RV.keep hx.keep _ HVF.out)
    have HHT : Hid (∀ w1, Ext w4 w1 → Calls Try.prog 17 #[.agg #[.int .i64 tk, .int .i64 tn, .float .f64 tf, .string ts, .slice tal tll tlc, .slice tak tkl tkc], .int .i64 7] w1 (HoldsPost 7 (V.ofJ jt) w1)) := fun w1 hx => holds_any 7 _ _ (Nat.le_refl _) _ w1 (RV.keep hx.keep _ HVT.out)
    have HIM : Hid (∀ w1 T, Ext w4 w1 → GoodF (.obj ks l) → TreeOf (LV (.obj ks l)) T → Calls Try.prog 18 #[.agg #[.int .i64 8, .int .i64 fn, .float .f64 ff, .string fs, .slice fal fll flc, .slice fak fkl fkc], .agg #[.int .i64 tk, .int .i64 tn, .float .f64 tf, .string ts, .slice tal tll tlc, .slice tak tkl tkc]] w1 (Gives (.tuple #[.bool (suitF 2000 T jt), .bool false]) w1)) := fun w1 T hx hg hT => implMatch_any ks l jt hg fok (by omega) tok tnf (by omega) T hT _ _ w1 (RV.keep hx.keep _ HVF.out) (RV.keep hx.keep _ HVT.out)
    have HSU : Hid (∀ w1 T vx, Ext w4 w1 → GoodF (.obj ks l) → TreeOf (LV (.obj ks l)) T → RV w1 (V.ofJ T) vx → Calls Try.prog 19 #[vx, .agg #[.int .i64 tk, .int .i64 tn, .float .f64 tf, .string ts, .slice tal tll tlc, .slice tak tkl tkc]] w1 (Gives (.bool (suitF 2000 T jt)) w1)) := fun w1 T vx hx hg hT hr => by
      have hn : T.nodes ≤ 900 := Nat.le_trans (tree_nodes hT (PF (.obj ks l)) hg.one fun q x h s r e => LV.inits h s r e) (Nat.le_trans (PF_wt _) (by omega))
      exact suited_any 2000 T jt (by omega) hT.okj.1 tok hT.okj.2 tnf ⟨_, hT⟩ (Nat.le_refl _) vx _ w1 hr (RV.keep hx.keep _ HVT.out)
    clear HDF HDT fwt twt fok fnf tok tnf VF VT hsl hrl hfn htn hll HKD K4
    go_wp2_with fail
    have HT4 := Lib.hid T4.out
    go_cut [5, 6] from 31 to 67 (fun t5 t6 wx => ∃ (gX : Nat) (m1 m2 : Int) (m3 : Nat) (m4 : ByteArray) (m5 : Option Addr) (m6 m7 : Nat) (m8 : Option Addr) (m9 m10 : Nat) (b : Bool), t5 = .pointer (some ⟨gX, 0, none⟩) ∧ t6 = .bool b ∧ Ext w4 wx ∧ w4.heap.size ≤ gX ∧ wx.heap[gX]? = some (.cells #[.int .i64 m1, .int .i64 m2, .float .f64 m3, .string m4, .slice m5 m6 m7, .slice m8 m9 m10] 26 (0, 0)) ∧
      (b = true → GoodF (.obj ks l) ∧ ∃ T, TreeOf (LV (.obj ks l)) T ∧ ∀ w2, Keep w4 w2 → KeepF w4.heap.size wx w2 → RV w2 (V.ofJ T) (.agg #[.int .i64 m1, .int .i64 m2, .float .f64 m3, .string m4, .slice m5 m6 m7, .slice m8 m9 m10])))
    case first =>
      have d0 : w4.drew.cell? ⟨w.heap.size, 0, none⟩ = some (.int .i64 8) := a0
      have d1 : w4.drew.cell? ⟨w.heap.size, 1, none⟩ = some (.int .i64 fn) := a1
      have d2 : w4.drew.cell? ⟨w.heap.size, 2, none⟩ = some (.float .f64 ff) := a2
      have d3 : w4.drew.cell? ⟨w.heap.size, 3, none⟩ = some (.string fs) := a3
      have d4 : w4.drew.cell? ⟨w.heap.size, 4, none⟩ = some (.slice fal fll flc) := a4
      have d5 : w4.drew.cell? ⟨w.heap.size, 5, none⟩ = some (.slice fak fkl fkc) := a5
      go_region_held3 (fun w' => w'.cell? ⟨w.heap.size, 0, none⟩ = some (.int .i64 8) ∧ w'.cell? ⟨w.heap.size, 1, none⟩ = some (.int .i64 fn) ∧ w'.cell? ⟨w.heap.size, 2, none⟩ = some (.float .f64 ff) ∧ w'.cell? ⟨w.heap.size, 3, none⟩ = some (.string fs) ∧ w'.cell? ⟨w.heap.size, 4, none⟩ = some (.slice fal fll flc) ∧ w'.cell? ⟨w.heap.size, 5, none⟩ = some (.slice fak fkl fkc))
        (first
          | (go_split_ands
             with_reducible exact ⟨(Keep.alloc _ _).get (k8.get a0), (Keep.alloc _ _).get (k8.get a1), (Keep.alloc _ _).get (k8.get a2), (Keep.alloc _ _).get (k8.get a3), (Keep.alloc _ _).get (k8.get a4), (Keep.alloc _ _).get (k8.get a5)⟩)
          | (go_split_ands
             with_reducible exact ⟨kF.get a0, kF.get a1, kF.get a2, kF.get a3, kF.get a4, kF.get a5⟩)
          | (go_split_ands
             with_reducible exact ⟨k8.get a0, k8.get a1, k8.get a2, k8.get a3, k8.get a4, k8.get a5⟩)
          | (go_split_ands
             with_reducible exact ⟨(Keep.alloc _ _).get (k6.get a0), (Keep.alloc _ _).get (k6.get a1), (Keep.alloc _ _).get (k6.get a2), (Keep.alloc _ _).get (k6.get a3), (Keep.alloc _ _).get (k6.get a4), (Keep.alloc _ _).get (k6.get a5)⟩)
          | (go_split_ands
             with_reducible exact ⟨k6.get a0, k6.get a1, k6.get a2, k6.get a3, k6.get a4, k6.get a5⟩)
          | (go_split_ands
             with_reducible exact ⟨((Keep.alloc _ _).trans (Keep.drew _)).get a0, ((Keep.alloc _ _).trans (Keep.drew _)).get a1, ((Keep.alloc _ _).trans (Keep.drew _)).get a2, ((Keep.alloc _ _).trans (Keep.drew _)).get a3, ((Keep.alloc _ _).trans (Keep.drew _)).get a4, ((Keep.alloc _ _).trans (Keep.drew _)).get a5⟩)
          | (go_split_ands
             with_reducible exact ⟨(Keep.alloc _ _).get a0, (Keep.alloc _ _).get a1, (Keep.alloc _ _).get a2, (Keep.alloc _ _).get a3, (Keep.alloc _ _).get a4, (Keep.alloc _ _).get a5⟩)
          | (go_split_ands
             with_reducible exact ⟨d0, d1, d2, d3, d4, d5⟩)
          | (go_split_ands
             with_reducible exact ⟨a0, a1, a2, a3, a4, a5⟩)
          | go_keep)
        (first
          | (go_at_call 14; refine (HTR.out _ _ (by first | exact X46.out | exact X46.out.alloc _)).mono ?_; rintro e w8 ⟨m1, m2, m3, m4, m5, m6, m7, m8, m9, m10, b, rfl, hb, hx8⟩
             have X48 : Hid (Ext w4 w8) := by first | exact X46.out.trans hx8 | exact (X46.out.alloc _).trans hx8
             have k8 := X48.out.keep
             first
               | (have HBB : Hid (b = true → GoodF (.obj ks l) ∧ ∃ T, TreeOf (LV (.obj ks l)) T ∧ ∀ w2, Keep w4 w2 → KeepF w6.heap.size w8 w2 → RV w2 (V.ofJ T) (.agg #[.int .i64 m1, .int .i64 m2, .float .f64 m3, .string m4, .slice m5 m6 m7, .slice m8 m9 m10])) := hb)
               | (have HBB : Hid (b = true → GoodF (.obj ks l) ∧ ∃ T, TreeOf (LV (.obj ks l)) T ∧ ∀ w2, Keep w4 w2 → KeepF (w6.heap.size + 1) w8 w2 → RV w2 (V.ofJ T) (.agg #[.int .i64 m1, .int .i64 m2, .float .f64 m3, .string m4, .slice m5 m6 m7, .slice m8 m9 m10])) := fun h => ⟨(hb h).1, (hb h).2.choose, (hb h).2.choose_spec.1, fun w2 q1 q2 => (hb h).2.choose_spec.2 w2 q1 (KeepF.le q2 (Nat.le_of_eq (World.size_alloc w6 _).symm))⟩)
             first
               | (have hY8 := (hx8.block w6.heap.size (Nat.lt_of_lt_of_eq (Nat.lt_succ_self _) (World.size_alloc w6 (.cells #[.int .i64 0, .int .i64 0, .float .f64 0, .string { data := #[] }, .slice none 0 0, .slice none 0 0] 26)).symm)).trans (heap_alloc_new w6 (.cells #[.int .i64 0, .int .i64 0, .float .f64 0, .string { data := #[] }, .slice none 0 0, .slice none 0 0] 26))
                  have hgY : Hid (w4.heap.size ≤ w6.heap.size) := X46.out.size
                  obtain ⟨⟨p0, p1, p2⟩, ⟨p3, p4, p5⟩, ⟨p6, p7, p8⟩, ⟨p9, p10, p11⟩, ⟨p12, p13, p14⟩, ⟨p15, p16, p17⟩⟩ := six_stores hY8 (.int .i64 m1) (.int .i64 m2) (.float .f64 m3) (.string m4) (.slice m5 m6 m7) (.slice m8 m9 m10)
                  have kF : Keep w4 (w8.setRow w6.heap.size #[.int .i64 m1, .int .i64 m2, .float .f64 m3, .string m4, .slice m5 m6 m7, .slice m8 m9 m10]) := Ext.keep (below_setRow X48.out (g := w6.heap.size) hgY.out _)
                  have HY8 := Lib.hid hY8
                  clear hY8)
               | (have hY8 := (hx8.block w4.heap.size (Nat.lt_of_lt_of_le hg46.out (Nat.le_refl _))).trans HY6.out
                  obtain ⟨⟨p0, p1, p2⟩, ⟨p3, p4, p5⟩, ⟨p6, p7, p8⟩, ⟨p9, p10, p11⟩, ⟨p12, p13, p14⟩, ⟨p15, p16, p17⟩⟩ := six_stores hY8 (.int .i64 m1) (.int .i64 m2) (.float .f64 m3) (.string m4) (.slice m5 m6 m7) (.slice m8 m9 m10)
                  have kF : Keep w4 (w8.setRow w4.heap.size #[.int .i64 m1, .int .i64 m2, .float .f64 m3, .string m4, .slice m5 m6 m7, .slice m8 m9 m10]) := Ext.keep (below_setRow X48.out (g := w4.heap.size) (Nat.le_refl _) _)
                  have HY8 := Lib.hid hY8
                  clear hY8)
               | skip
             have HX8 := Lib.hid hx8
             clear hb hx8)
          | (go_at_call 15; refine (HCF.out _ (by first | exact Ext.drew (Ext.refl w4) | exact Ext.refl w4 | exact (Ext.refl w4).alloc _ | exact Ext.drew ((Ext.refl w4).alloc _))).mono ?_; rintro e w6 ⟨nb, rfl, hnb, hx6⟩
             have X46 : Hid (Ext w4 w6) := by first | exact hx6 | exact Ext.trans (Ext.drew (Ext.refl w4)) hx6 | exact Ext.trans ((Ext.refl w4).alloc _) hx6 | exact Ext.trans (Ext.drew ((Ext.refl w4).alloc _)) hx6
             have k6 := X46.out.keep
             first
               | (have hY6 := (hx6.block w4.heap.size (Nat.lt_of_lt_of_eq (Nat.lt_succ_self _) (World.size_alloc w4 (.cells #[.int .i64 0, .int .i64 0, .float .f64 0, .string { data := #[] }, .slice none 0 0, .slice none 0 0] 26)).symm)).trans (heap_alloc_new w4 (.cells #[.int .i64 0, .int .i64 0, .float .f64 0, .string { data := #[] }, .slice none 0 0, .slice none 0 0] 26))
                  have HY6 := Lib.hid hY6
                  have hg46 : Hid (w4.heap.size < w6.heap.size) := (Array.getElem?_eq_some_iff.1 hY6).1
                  clear hY6)
               | skip
             clear hnb hx6))
      all_goals
        go_wp2_with fail
        go_meet
        first
          | exact ⟨w8.heap.size, _, _, _, _, _, _, _, _, _, _, b, rfl, rfl, X48.out.alloc _, X48.out.size, heap_alloc_new _ _, fun h => ⟨(HBB.out h).1, (HBB.out h).2.choose, (HBB.out h).2.choose_spec.1, fun w2 q1 q2 => (HBB.out h).2.choose_spec.2 w2 q1 fun k h1 h2 => (q2 k (Nat.le_trans X46.out.size h1) (by rw [World.size_alloc]; omega)).trans (heap_alloc_old _ _ h2)⟩⟩
          | exact ⟨w6.heap.size, _, _, _, _, _, _, _, _, _, _, b, rfl, rfl, below_setRow X48.out X46.out.size _, X46.out.size, setRow_heap _ _ _ _ _ _ HY8.out, fun h => ⟨(HBB.out h).1, (HBB.out h).2.choose, (HBB.out h).2.choose_spec.1, fun w2 q1 q2 => (HBB.out h).2.choose_spec.2 w2 q1 fun k h1 h2 => (q2 k (by have := X46.out.size; omega) (by rw [setRow_size]; exact h2)).trans (setRow_other _ _ _ _ (by omega))⟩⟩
          | exact ⟨w4.heap.size, _, _, _, _, _, _, _, _, _, _, b, rfl, rfl, below_setRow X48.out (Nat.le_refl _) _, Nat.le_refl _, setRow_heap _ _ _ _ _ _ HY8.out, fun h => ⟨(HBB.out h).1, (HBB.out h).2.choose, (HBB.out h).2.choose_spec.1, fun w2 q1 q2 => (HBB.out h).2.choose_spec.2 w2 q1 fun k h1 h2 => (q2 k (by have := hg46.out; omega) (by rw [setRow_size]; exact h2)).trans (setRow_other _ _ _ _ (by have := hg46.out; omega))⟩⟩
    case rest =>
      obtain ⟨gX, m1, m2, m3, m4, m5, m6, m7, m8, m9, m10, b, rfl, rfl, hxc, hgX, hX, hb⟩ := hcut
      have XC := Lib.hid hxc
      have HB := Lib.hid hb
      have TC := Lib.hid (HT4.out.keep hxc.keep)
      clear a0 a1 a2 a3 a4 a5 e0 e1 e2 e3 e4 e5 HCF HTR hb hxc
      obtain ⟨a0, a1, a2, a3, a4, a5, e0, e1, e2, e3, e4, e5⟩ := TC.out
      have x0 : wc.cell? ⟨gX, 0, none⟩ = some (.int .i64 m1) := (cell_of_row _ _ _ _ _ _ hX).trans rfl
      have x1 : wc.cell? ⟨gX, 1, none⟩ = some (.int .i64 m2) := (cell_of_row _ _ _ _ _ _ hX).trans rfl
      have x2 : wc.cell? ⟨gX, 2, none⟩ = some (.float .f64 m3) := (cell_of_row _ _ _ _ _ _ hX).trans rfl
      have x3 : wc.cell? ⟨gX, 3, none⟩ = some (.string m4) := (cell_of_row _ _ _ _ _ _ hX).trans rfl
      have x4 : wc.cell? ⟨gX, 4, none⟩ = some (.slice m5 m6 m7) := (cell_of_row _ _ _ _ _ _ hX).trans rfl
      have x5 : wc.cell? ⟨gX, 5, none⟩ = some (.slice m8 m9 m10) := (cell_of_row _ _ _ _ _ _ hX).trans rfl
      clear hX
      cases b
      case false =>
        go_wp2_with (go_at_call 13; refine (filters_any _).mono ?_; rintro e w5 ⟨rfl, hb5⟩; have X5 := Lib.hid (Ext.trans XC.out hb5); clear hb5)
        go_ret
        exact .mk rfl (Ext.trans X4.out X5.out)
      case true =>
        obtain ⟨hg, T, hT, hr⟩ := HB.out rfl
        have HG := Lib.hid hg
        have HTT := Lib.hid hT
        have HR := Lib.hid hr
        clear hg hT hr HB
        go_wp2_with fail
        refine (HHF.out _ XC.out).mono ?_
        rintro e w6 ⟨z, rfl, hz, hx6⟩
        have X6 := Lib.hid (Ext.trans XC.out hx6)
        have XW6 := Lib.hid hx6
        replace a0 := Ext.get hx6 a0
        replace a1 := Ext.get hx6 a1
        replace a2 := Ext.get hx6 a2
        replace a3 := Ext.get hx6 a3
        replace a4 := Ext.get hx6 a4
        replace a5 := Ext.get hx6 a5
        replace e0 := Ext.get hx6 e0
        replace e1 := Ext.get hx6 e1
        replace e2 := Ext.get hx6 e2
        replace e3 := Ext.get hx6 e3
        replace e4 := Ext.get hx6 e4
        replace e5 := Ext.get hx6 e5
        replace x0 := Ext.get hx6 x0
        replace x1 := Ext.get hx6 x1
        replace x2 := Ext.get hx6 x2
        replace x3 := Ext.get hx6 x3
        replace x4 := Ext.get hx6 x4
        replace x5 := Ext.get hx6 x5
        clear hz hx6
        cases z
        · have XW := XW6
          go_wp2_with fail
          refine (HIM.out _ T X6.out HG.out HTT.out).mono ?_
          rintro e wA ⟨rfl, hxA⟩
          have XA := Lib.hid hxA
          replace a0 := Ext.get hxA a0
          replace a1 := Ext.get hxA a1
          replace a2 := Ext.get hxA a2
          replace a3 := Ext.get hxA a3
          replace a4 := Ext.get hxA a4
          replace a5 := Ext.get hxA a5
          replace e0 := Ext.get hxA e0
          replace e1 := Ext.get hxA e1
          replace e2 := Ext.get hxA e2
          replace e3 := Ext.get hxA e3
          replace e4 := Ext.get hxA e4
          replace e5 := Ext.get hxA e5
          replace x0 := Ext.get hxA x0
          replace x1 := Ext.get hxA x1
          replace x2 := Ext.get hxA x2
          replace x3 := Ext.get hxA x3
          replace x4 := Ext.get hxA x4
          replace x5 := Ext.get hxA x5
          clear hxA
          have HSU2 := Lib.hid (HSU.out wA T _ (Ext.trans X6.out XA.out) HG.out HTT.out (HR.out wA (Ext.trans X6.out XA.out).keep (fun k h1 h2 => (Ext.trans XW.out XA.out).block k h2)))
          generalize suitF 2000 T jt = R at *
          go_wp2_with fail
          refine (HSU2.out).mono ?_
          rintro e wB ⟨rfl, hxB⟩
          have XB := Lib.hid hxB
          clear hxB HSU2
          cases R
          all_goals
            go_wp2_with (go_at_call 13; refine (filters_any _).mono ?_; rintro e wD ⟨rfl, hxD⟩; have XD := Lib.hid hxD; clear hxD)
            go_ret
            exact .mk rfl (Ext.trans X4.out (Ext.trans X6.out (Ext.trans XA.out (Ext.trans XB.out XD.out))))
        · go_wp2_with fail
          refine (HHT.out _ X6.out).mono ?_
          rintro e w7 ⟨z, rfl, hz, hx7⟩
          have X7 := Lib.hid (Ext.trans X6.out hx7)
          have XW := Lib.hid (Ext.trans XW6.out hx7)
          replace a0 := Ext.get hx7 a0
          replace a1 := Ext.get hx7 a1
          replace a2 := Ext.get hx7 a2
          replace a3 := Ext.get hx7 a3
          replace a4 := Ext.get hx7 a4
          replace a5 := Ext.get hx7 a5
          replace e0 := Ext.get hx7 e0
          replace e1 := Ext.get hx7 e1
          replace e2 := Ext.get hx7 e2
          replace e3 := Ext.get hx7 e3
          replace e4 := Ext.get hx7 e4
          replace e5 := Ext.get hx7 e5
          replace x0 := Ext.get hx7 x0
          replace x1 := Ext.get hx7 x1
          replace x2 := Ext.get hx7 x2
          replace x3 := Ext.get hx7 x3
          replace x4 := Ext.get hx7 x4
          replace x5 := Ext.get hx7 x5
          clear hz hx7
          cases z
          · skip
            go_wp2_with fail
            refine (HIM.out _ T X7.out HG.out HTT.out).mono ?_
            rintro e wA ⟨rfl, hxA⟩
            have XA := Lib.hid hxA
            replace a0 := Ext.get hxA a0
            replace a1 := Ext.get hxA a1
            replace a2 := Ext.get hxA a2
            replace a3 := Ext.get hxA a3
            replace a4 := Ext.get hxA a4
            replace a5 := Ext.get hxA a5
            replace e0 := Ext.get hxA e0
            replace e1 := Ext.get hxA e1
            replace e2 := Ext.get hxA e2
            replace e3 := Ext.get hxA e3
            replace e4 := Ext.get hxA e4
            replace e5 := Ext.get hxA e5
            replace x0 := Ext.get hxA x0
            replace x1 := Ext.get hxA x1
            replace x2 := Ext.get hxA x2
            replace x3 := Ext.get hxA x3
            replace x4 := Ext.get hxA x4
            replace x5 := Ext.get hxA x5
            clear hxA
            have HSU2 := Lib.hid (HSU.out wA T _ (Ext.trans X7.out XA.out) HG.out HTT.out (HR.out wA (Ext.trans X7.out XA.out).keep (fun k h1 h2 => (Ext.trans XW.out XA.out).block k h2)))
            generalize suitF 2000 T jt = R at *
            go_wp2_with fail
            refine (HSU2.out).mono ?_
            rintro e wB ⟨rfl, hxB⟩
            have XB := Lib.hid hxB
            clear hxB HSU2
            cases R
            all_goals
              go_wp2_with (go_at_call 13; refine (filters_any _).mono ?_; rintro e wD ⟨rfl, hxD⟩; have XD := Lib.hid hxD; clear hxD)
              go_ret
              exact .mk rfl (Ext.trans X4.out (Ext.trans X7.out (Ext.trans XA.out (Ext.trans XB.out XD.out))))
          · go_wp2_with (go_at_call 13; refine (filters_any _).mono ?_; rintro e w5 ⟨rfl, hb5⟩; have X5 := Lib.hid (Ext.trans X7.out hb5); clear hb5)
            go_ret
            exact .mk rfl (Ext.trans X4.out X5.out)
  · have hk9 : (fk != 8) = true := by simpa using hk8
    clear hkd hk8
    go_enter Try.func4, Try.ntmps4
    have K0 : Hid (Keep w ((w.alloc (.cells #[.int .i64 fk, .int .i64 fn, .float .f64 ff, .string fs, .slice fal fll flc, .slice fak fkl fkc] 26)).alloc (.cells #[.int .i64 tk, .int .i64 tn, .float .f64 tf, .string ts, .slice tal tll tlc, .slice tak tkl tkc] 26))) := (Keep.alloc _ _).trans (Keep.alloc _ _)
    have T0 : Hid (Two w ((w.alloc (.cells #[.int .i64 fk, .int .i64 fn, .float .f64 ff, .string fs, .slice fal fll flc, .slice fak fkl fkc] 26)).alloc (.cells #[.int .i64 tk, .int .i64 tn, .float .f64 tf, .string ts, .slice tal tll tlc, .slice tak tkl tkc] 26)) _ _ _ _ _ _ _ _ _ _ _ _) := Two.of (Keep.refl _)
    have X0 : Hid (Ext w ((w.alloc (.cells #[.int .i64 fk, .int .i64 fn, .float .f64 ff, .string fs, .slice fal fll flc, .slice fak fkl fkc] 26)).alloc (.cells #[.int .i64 tk, .int .i64 tn, .float .f64 tf, .string ts, .slice tal tll tlc, .slice tak tkl tkc] 26))) := ((Ext.refl _).alloc _).alloc _
    go_wp2_with (go_at_call 7; refine (HZ.out _ K0.out _ (Or.inl rfl)).mono ?_; rintro e w1 ⟨⟨z1, rfl⟩, hb1⟩; have K1 : Hid (Keep w w1) := K0.out.trans hb1.keep; have X1 : Hid (Ext w w1) := X0.out.trans hb1; have T1 : Hid (Two w w1 _ _ _ _ _ _ _ _ _ _ _ _) := T0.out.keep hb1.keep; obtain ⟨a0, a1, a2, a3, a4, a5, e0, e1, e2, e3, e4, e5⟩ := T1.out; clear hb1 K0 T0 X0; cases z1)
    · go_wp2
      go_ret
      exact .mk rfl X1.out
    go_wp2_with (go_at_call 7; refine (HZ.out _ K1.out _ (Or.inr rfl)).mono ?_; rintro e w2 ⟨⟨z1, rfl⟩, hb1⟩; have K2 : Hid (Keep w w2) := K1.out.trans hb1.keep; have X2 : Hid (Ext w w2) := X1.out.trans hb1; have T2 : Hid (Two w w2 _ _ _ _ _ _ _ _ _ _ _ _) := T1.out.keep hb1.keep; clear a0 a1 a2 a3 a4 a5 e0 e1 e2 e3 e4 e5; obtain ⟨a0, a1, a2, a3, a4, a5, e0, e1, e2, e3, e4, e5⟩ := T2.out; clear hb1 HZ K1 T1 X1; cases z1)
    · go_wp2
      go_ret
      exact .mk rfl X2.out
    go_wp2_with (go_at_call 8; refine (HPF.out _ K2.out).mono ?_; rintro e w3 ⟨z1, rfl, hd1, hb1⟩; have HDF := Lib.hid hd1; have K3 : Hid (Keep w w3) := K2.out.trans hb1.keep; have X3 : Hid (Ext w w3) := X2.out.trans hb1; have T3 : Hid (Two w w3 _ _ _ _ _ _ _ _ _ _ _ _) := T2.out.keep hb1.keep; clear a0 a1 a2 a3 a4 a5 e0 e1 e2 e3 e4 e5; obtain ⟨a0, a1, a2, a3, a4, a5, e0, e1, e2, e3, e4, e5⟩ := T3.out; clear hb1 hd1 HPF K2 T2 X2; cases z1)
    · go_wp2_with (go_at_call 13; refine (filters_any _).mono ?_; rintro e w4 ⟨rfl, hb4⟩; have X4 := Lib.hid (Ext.trans X3.out hb4); clear hb4)
      go_ret
      exact .mk rfl X4.out
    go_wp2_with (go_at_call 8; refine (HPT.out _ K3.out).mono ?_; rintro e w4 ⟨z1, rfl, hd1, hb1⟩; have HDT := Lib.hid hd1; have K4 : Hid (Keep w w4) := K3.out.trans hb1.keep; have X4 : Hid (Ext w w4) := X3.out.trans hb1; have T4 : Hid (Two w w4 _ _ _ _ _ _ _ _ _ _ _ _) := T3.out.keep hb1.keep; clear a0 a1 a2 a3 a4 a5 e0 e1 e2 e3 e4 e5; obtain ⟨a0, a1, a2, a3, a4, a5, e0, e1, e2, e3, e4, e5⟩ := T4.out; clear hb1 hd1 HPT K3 T3 X3; cases z1)
    · go_wp2_with (go_at_call 13; refine (filters_any _).mono ?_; rintro e w5 ⟨rfl, hb5⟩; have X5 := Lib.hid (Ext.trans X4.out hb5); clear hb5)
      go_ret
      exact .mk rfl X5.out
    go_wp2_with (go_at_call 13; refine (filters_any _).mono ?_; rintro e w5 ⟨rfl, hb5⟩; have X5 := Lib.hid (Ext.trans X4.out hb5); clear hb5)
    go_ret
    exact .mk rfl X5.out
end Go.Proofs.Ytikpedfggbibpaa
namespace Go.Proofs.Ytikpedfggbibpaa
open Go.ChangeShapes Go.WideShapes Go.ChangeAt Go.RowKit
set_option linter.unusedVariables false

theorem own4 : ownKnob Try.prog.godebug = none := by kernel_rfl
theorem laidOut4 : laidOutB Try.prog = true := by kernel_rfl

set_option maxRecDepth 100000 in
theorem lifted4 (os : Os) (started : os.Started) (H : Type) (enc : TypeId × Value → H) :
    ReturnsInHanded {} Try.checked os 4 .any (Rows.fnFilterMatchSpec.pre6 enc Try.prog Try.f4 Rows.fnFilterMatchRow.domain false) (Rows.fnFilterMatchSpec.post enc Try.prog Try.f4 false true false false) := by
  refine returnsInHanded_of_change_sized (C := Try.checked) own4 started (by kernel_rfl) Try.func4
    (ChangeSpec.witness6 (enc := enc) (C := Try.checked) false ⟨#[], #[.agg #[.int .i64 0, .int .i64 0, .float .f64 0, .string ByteArray.empty, .slice none 0 0, .slice none 0 0], .agg #[.int .i64 0, .int .i64 0, .float .f64 0, .string ByteArray.empty, .slice none 0 0, .slice none 0 0]], []⟩ 8 (by kernel_rfl) (by kernel_rfl) (by kernel_rfl) (by kernel_rfl)) ?_
  intro W base args ds gs before hval0 hW hcnd hsz0 _
  have hval : ∀ (j : Nat) t v, Try.f4.params[j]? = some t → args[j]? = some v → Value.okWide Try.prog W .any base t v := hval0
  have hsz1 : (DataW.weightsEach Try.prog (Try.f4.params.toList ++ Rows.fnFilterMatchSpec.plain.varTypes Try.prog) (ds ++ gs)).all (· ≤ reachBytes) = true := hsz0
  have hW' := hW
  obtain ⟨p, q, hA0, hV, rfl, hfz, hnd⟩ := hW
  have hA : DataW.TrodAll enc Try.prog W 0 (fun _ => true) true Try.f4.params.toList args.toList ds p := hA0
  rw [Try.params4] at hA hval hsz1
  obtain ⟨v0, vs0, d0, ds0, p0, q0, hargs, rfl, rfl, h0, r0⟩ := trodAll_cons hA
  obtain ⟨v1, vs1, d1, ds1, p1, q1, rfl, rfl, rfl, h1, r1⟩ := trodAll_cons r0
  obtain ⟨rfl, rfl, rfl⟩ := trodAll_nil r1
  obtain rfl : args = #[v0, v1] := by cases args; simp_all
  obtain ⟨rfl, rfl⟩ := trodVars_none hV
  have sm : ∀ (j : Nat) (t : TypeId) (d : DataW H), [26, 26][j]? = some t → [d0, d1][j]? = some d → Small t d := fun j t d ht hd k hk => by
    have := List.all_eq_true.1 hsz1 k (DataW.weights_mem_each (j := j) (by simpa using List.getElem?_append_left (l₂ := Rows.fnFilterMatchSpec.plain.varTypes Try.prog) (show j < [26, 26].length from (List.getElem?_eq_some_iff.1 ht).1) |>.trans ht) (by simpa using hd) k hk)
    simpa using this
  obtain ⟨x0, hx0⟩ := open_val (hval 0 26 v0 rfl rfl) h0 (sm 0 _ _ rfl rfl)
  obtain ⟨x1, hx1⟩ := open_val (hval 1 26 v1 rfl rfl) h1 (sm 1 _ _ rfl rfl)
  clear hA0 hval0
  have hW2 := hW'
  simp only [List.append_nil] at hW'
  refine (law_fnFilterMatch x0 x1 v0 v1 W hx0 hx1).mono fun e W' ⟨he, bel⟩ => ?_
  subst he
  have hl0 : ∀ x ∈ p0, x.block < W.heap.size := fun x hx => hW'.lt x (by simp [hx])
  have hl1 : ∀ x ∈ p1, x.block < W.heap.size := fun x hx => hW'.lt x (by simp [hx])
  have t0 := Below.trod laidOut4 (by kernel_rfl) (of_decide_eq_true (by kernel_rfl)) h0 bel hl0
  have t1 := Below.trod laidOut4 (by kernel_rfl) (of_decide_eq_true (by kernel_rfl)) h1 bel hl1
  refine ⟨_, rfl, _, _, _, [], _, [], hW', trodAll_mk1 (shut_bool Try.underlying4 _), trodAll_cons_mk t0 (trodAll_cons_mk t1 trodAll_mk0), rfl, bel.frame _, fun h => by cases h⟩

theorem over4 : Rows.fnFilterMatchRow.holds Try.pinned (OpenSpec.ofChange Rows.fnFilterMatchSpec) :=
  OpenClaim.holds_of_wide 4 Try.f4 rfl rfl rfl rfl rfl rfl rfl ⟨rfl, rfl, rfl, rfl, rfl⟩ rfl rfl rfl rfl rfl (by kernel_rfl) Try.func4 (by kernel_rfl)
    (of_decide_eq_true (by kernel_rfl)) (by unfold Func.isWrapper; first | (rw [if_pos (by decide +kernel)]; kernel_rfl) | (rw [if_neg (by decide +kernel)]; exact ⟨rfl, rfl⟩))
    (fun os started H enc _ => lifted4 os started H enc)

theorem FnFilterMatch_holds : Rows.FnFilterMatchSaid := over4
#print axioms FnFilterMatch_holds
end Go.Proofs.Ytikpedfggbibpaa
