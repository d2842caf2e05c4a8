/- Walks: impl.Diff, without ignored paths. -/
import Derived.Test.YtikpedfggbibpaaZ32
namespace Go.Proofs.Ytikpedfggbibpaa
open Go.RowKit Go.Lib
set_option linter.unusedVariables false
set_option linter.unusedSimpArgs false

def IDPost (g : Ig) (a b : J) (w : World) (e : Ending) (w' : World) : Prop :=
  ∃ v ps, e = .returned (.tuple #[v, .bool false]) ∧ ps.Perm (difF (a.nodes + b.nodes) g a b) ∧ PLs GP w' w.heap.size v ps ∧ Ext w w'

/-- what a loop over the differences knows -/
theorem take_map_succ {D : List DI} {m : Nat} {d : DI} (h : D[m]? = some d) : (D.take (m + 1)).map (·.2.2) = (D.take m).map (·.2.2) ++ [d.2.2] := by
  obtain ⟨h1, h2⟩ := List.getElem?_eq_some_iff.1 h
  rw [List.take_succ_eq_append_getElem h1, h2, List.map_append]
  rfl

set_option maxRecDepth 100000 in
set_option maxHeartbeats 8000000 in
theorem implDiff0 (a b : J) (ha : a.ok) (han : a.nofl) (hb : b.ok) (hbn : b.nofl) (hsa : a.nodes ≤ 1000) (hsb : b.nodes ≤ 1000) (va vb : Value) (w : World) (h1 : RV w (V.ofJ a) va) (h2 : RV w (V.ofJ b) vb) :
    Calls Try.prog 21 #[va, vb, .slice none 0 0, .bool false] w (IDPost none a b w) := by
  have HRF : Hid (∀ w1, Keep w w1 → Calls Try.prog 37 #[va] w1 (Gives (.bool true) w1)) := fun w1 hk => right_any a.nodes a (Nat.le_refl _) ha va w1 (RV.keep hk _ h1)
  have HRT : Hid (∀ w1, Keep w w1 → Calls Try.prog 37 #[vb] w1 (Gives (.bool true) w1)) := fun w1 hk => right_any b.nodes b (Nat.le_refl _) hb vb w1 (RV.keep hk _ h2)
  have HBF : Hid (∀ w1, Keep w w1 → Calls Try.prog 38 #[va] w1 (Gives (.bool false) w1)) := fun w1 hk => big_any a.nodes a (Nat.le_refl _) va w1 (RV.keep hk _ h1)
  have HBT : Hid (∀ w1, Keep w w1 → Calls Try.prog 38 #[vb] w1 (Gives (.bool false) w1)) := fun w1 hk => big_any b.nodes b (Nat.le_refl _) vb w1 (RV.keep hk _ h2)
  have HPF : Hid (∀ w1, Keep w w1 → Calls Try.prog 40 #[va] w1 (PlainPost a w1)) := fun w1 hk => plain_any a.nodes a (Nat.le_refl _) ha va w1 (RV.keep hk _ h1)
  have HPT : Hid (∀ w1, Keep w w1 → Calls Try.prog 40 #[vb] w1 (PlainPost b w1)) := fun w1 hk => plain_any b.nodes b (Nat.le_refl _) hb vb w1 (RV.keep hk _ h2)
  have HM : Hid (∀ x y w1, RA w1 0 a x → RA w1 0 b y → Calls Try.prog 65 #[x, y, .slice none 0 0] w1 (DiffPost (a.nodes + b.nodes) none a b w1)) := fun x y w1 hx hy => altDiff_any a b ha han hb hbn hsa hsb none trivial (Or.inl rfl) x y _ w1 hx hy ⟨none, 0, rfl⟩
  have HBN : Hid (a.ok ∧ b.ok ∧ a.nodes ≤ 1000 ∧ b.nodes ≤ 1000) := ⟨ha, hb, hsa, hsb⟩
  obtain ⟨fk, fn, ff, fs, fal, fll, flc, fak, fkl, fkc, rfl⟩ := h1.sh
  obtain ⟨tk, tn, tf, ts, tal, tll, tlc, tak, tkl, tkc, rfl⟩ := h2.sh
  clear h1 h2 ha han hb hbn hsa hsb
  go_enter Try.func21, Try.ntmps21
  have K0 : Hid (Keep w ((w.alloc (.cells #[.int .i64 fk, .int .i64 fn, .float .f64 ff, .string fs, .slice fal fll flc, .slice fak fkl fkc] 26)).alloc (.cells #[.int .i64 tk, .int .i64 tn, .float .f64 tf, .string ts, .slice tal tll tlc, .slice tak tkl tkc] 26))) := (Keep.alloc _ _).trans (Keep.alloc _ _)
  have T0 : Hid (Two w ((w.alloc (.cells #[.int .i64 fk, .int .i64 fn, .float .f64 ff, .string fs, .slice fal fll flc, .slice fak fkl fkc] 26)).alloc (.cells #[.int .i64 tk, .int .i64 tn, .float .f64 tf, .string ts, .slice tal tll tlc, .slice tak tkl tkc] 26)) _ _ _ _ _ _ _ _ _ _ _ _) := Two.of (Keep.refl _)
  have X0 : Hid (Ext w ((w.alloc (.cells #[.int .i64 fk, .int .i64 fn, .float .f64 ff, .string fs, .slice fal fll flc, .slice fak fkl fkc] 26)).alloc (.cells #[.int .i64 tk, .int .i64 tn, .float .f64 tf, .string ts, .slice tal tll tlc, .slice tak tkl tkc] 26))) := ((Ext.refl _).alloc _).alloc _
  go_wp2_with (go_at_call 37; refine (HRF.out _ K0.out).mono ?_; rintro e w1 ⟨rfl, hb1⟩; have K1 : Hid (Keep w w1) := K0.out.trans hb1.keep; have X1 : Hid (Ext w w1) := X0.out.trans hb1; have T1 : Hid (Two w w1 _ _ _ _ _ _ _ _ _ _ _ _) := T0.out.keep hb1.keep; obtain ⟨a0, a1, a2, a3, a4, a5, e0, e1, e2, e3, e4, e5⟩ := T1.out; clear hb1 HRF K0 T0 X0)
  go_wp2_with (go_at_call 37; refine (HRT.out _ K1.out).mono ?_; rintro e w2 ⟨rfl, hb1⟩; have K2 : Hid (Keep w w2) := K1.out.trans hb1.keep; have X2 : Hid (Ext w w2) := X1.out.trans hb1; have T2 : Hid (Two w w2 _ _ _ _ _ _ _ _ _ _ _ _) := T1.out.keep hb1.keep; clear a0 a1 a2 a3 a4 a5 e0 e1 e2 e3 e4 e5; obtain ⟨a0, a1, a2, a3, a4, a5, e0, e1, e2, e3, e4, e5⟩ := T2.out; clear hb1 HRT K1 T1 X1)
  go_wp2_with (go_at_call 38; refine (HBF.out _ K2.out).mono ?_; rintro e w3 ⟨rfl, hb1⟩; have K3 : Hid (Keep w w3) := K2.out.trans hb1.keep; have X3 : Hid (Ext w w3) := X2.out.trans hb1; have T3 : Hid (Two w w3 _ _ _ _ _ _ _ _ _ _ _ _) := T2.out.keep hb1.keep; clear a0 a1 a2 a3 a4 a5 e0 e1 e2 e3 e4 e5; obtain ⟨a0, a1, a2, a3, a4, a5, e0, e1, e2, e3, e4, e5⟩ := T3.out; clear hb1 HBF K2 T2 X2)
  go_wp2_with (go_at_call 38; refine (HBT.out _ K3.out).mono ?_; rintro e w4 ⟨rfl, hb1⟩; have K4 : Hid (Keep w w4) := K3.out.trans hb1.keep; have X4 : Hid (Ext w w4) := X3.out.trans hb1; have T4 : Hid (Two w w4 _ _ _ _ _ _ _ _ _ _ _ _) := T3.out.keep hb1.keep; clear a0 a1 a2 a3 a4 a5 e0 e1 e2 e3 e4 e5; obtain ⟨a0, a1, a2, a3, a4, a5, e0, e1, e2, e3, e4, e5⟩ := T4.out; clear hb1 HBT K3 T3 X3)
  refine wp_loop_rounds 1 ?_
  rw [rounds_succ]
  go_wp2_with fail
  go_region_held3 (fun w' => w'.cell? ⟨w.heap.size, 0, none⟩ = some (.int .i64 fk) ∧ w'.cell? ⟨w.heap.size, 1, none⟩ = some (.int .i64 fn) ∧ w'.cell? ⟨w.heap.size, 2, none⟩ = some (.float .f64 ff) ∧ w'.cell? ⟨w.heap.size, 3, none⟩ = some (.string fs) ∧ w'.cell? ⟨w.heap.size, 4, none⟩ = some (.slice fal fll flc) ∧ w'.cell? ⟨w.heap.size, 5, none⟩ = some (.slice fak fkl fkc) ∧ w'.cell? ⟨w.heap.size + 1, 0, none⟩ = some (.int .i64 tk) ∧ w'.cell? ⟨w.heap.size + 1, 1, none⟩ = some (.int .i64 tn) ∧ w'.cell? ⟨w.heap.size + 1, 2, none⟩ = some (.float .f64 tf) ∧ w'.cell? ⟨w.heap.size + 1, 3, none⟩ = some (.string ts) ∧ w'.cell? ⟨w.heap.size + 1, 4, none⟩ = some (.slice tal tll tlc) ∧ w'.cell? ⟨w.heap.size + 1, 5, none⟩ = some (.slice tak tkl tkc))
    (first
      | (go_split_ands
         with_reducible exact ⟨hk7.get a0, hk7.get a1, hk7.get a2, hk7.get a3, hk7.get a4, hk7.get a5, hk7.get e0, hk7.get e1, hk7.get e2, hk7.get e3, hk7.get e4, hk7.get e5⟩)
      | (go_split_ands
         with_reducible exact ⟨hk6.get a0, hk6.get a1, hk6.get a2, hk6.get a3, hk6.get a4, hk6.get a5, hk6.get e0, hk6.get e1, hk6.get e2, hk6.get e3, hk6.get e4, hk6.get e5⟩)
      | (go_split_ands
         with_reducible exact ⟨hk5.get a0, hk5.get a1, hk5.get a2, hk5.get a3, hk5.get a4, hk5.get a5, hk5.get e0, hk5.get e1, hk5.get e2, hk5.get e3, hk5.get e4, hk5.get e5⟩)
      | (go_split_ands
         exact ⟨a0, a1, a2, a3, a4, a5, e0, e1, e2, e3, e4, e5⟩))
    (first
      | (go_at_call 40; refine (HPF.out _ (by first | exact K4.out | exact K4.out.trans (Keep.drew _))).mono ?_; rintro e w5 ⟨x, rfl, hx, hb5⟩
         have hb5c : Ext w4 w5 := by first | exact hb5 | exact Ext.trans (Ext.drew (Ext.refl w4)) hb5
         have hk5 := hb5c.keep
         have HA := Lib.hid hx
         have B5 := Lib.hid hb5c
         clear hx hb5 hb5c HPF)
      | (go_at_call 40; refine (HPT.out _ (K4.out.trans hk5)).mono ?_; rintro e w6 ⟨y, rfl, hy, hb6⟩
         have HA6 := Lib.hid (RA.keep (hb6.keepB.from _) (Nat.zero_le _) _ HA.out)
         have HB := Lib.hid (RA.keep (KeepB.from (fun _ _ => rfl) _) (Nat.zero_le _) _ hy)
         have B6 := Lib.hid (Ext.trans B5.out hb6)
         have hk6 := B6.out.keep
         clear hy hb6 HPT HA)
      | (go_at_call 65; refine (HM.out _ _ _ HA6.out HB.out).mono ?_; rintro e w7 ⟨v, D, rfl, hp, hd, hb7⟩
         obtain ⟨ad, cd, rfl, hsh⟩ := hd.shape
         have HSH := Lib.hid hsh
         have HPD := Lib.hid hp
         have HDD := Lib.hid hd
         have B7 := Lib.hid (Ext.trans B6.out hb7)
         have hk7 := B7.out.keep
         clear hsh hp hd hb7 HM HA6 HB))
  have X7 : Hid (Ext w w7) := Ext.trans X4.out B7.out
  have hbd : D.length ≤ 2000 ∧ (∀ d ∈ D, d.2.2.length ≤ 100000) := by
    have h1 := HPD.out.length_eq
    rw [List.length_map] at h1
    obtain ⟨b1, b2, b3, b4⟩ := HBN.out
    have h2 := difF_len_le (a.nodes + b.nodes) a b none b1 b2
    refine ⟨by omega, fun d hd => ?_⟩
    have h7 := difF_path_le (a.nodes + b.nodes) a b none b1 b2 d.2.2 (HPD.out.mem_iff.1 (List.mem_map.2 ⟨d, hd, rfl⟩))
    omega
  have hDl : D.length ≤ 2000 := hbd.1
  have HPL : Hid (∀ d ∈ D, d.2.2.length ≤ 100000) := hbd.2
  clear hbd hk5 hk6 hk7 a0 a1 a2 a3 a4 a5 e0 e1 e2 e3 e4 e5 K4 T4 X4 B5 B6 B7
  go_wp2
  go_loopw [8, 74] (fun o i wr => ∃ m : Nat, m ≤ D.length ∧ i = .int .i64 m ∧ PLs GP wr w7.heap.size o ((D.take m).map (·.2.2)) ∧ Ext w7 wr) (fun _ i _ => D.length - (intOf i).toNat)
  case atStart => exact ⟨0, Nat.zero_le _, rfl, PLs.nil _ _ _, Ext.refl _⟩
  case round =>
    obtain ⟨m, hm, rfl, hpl, hx⟩ := hrel
    have HP := Lib.hid hpl
    have HX := Lib.hid hx
    clear hpl hx
    by_cases hlt : m < D.length
    · obtain ⟨d, hd⟩ : ∃ d, D[m]? = some d := ⟨D[m], List.getElem?_eq_getElem hlt⟩
      have hD0 : D ≠ [] := fun e => by rw [e] at hlt; simp at hlt
      obtain ⟨gd, cur, rfl, _, hrow⟩ := HSH.out hD0
      have hcell := HX.out.keep _ _ (hrow m d hd)
      have hap := ((HDD.out.all d (by simpa using List.mem_of_getElem? hd)).2).ext HX.out
      have HT := Lib.hid (trailOf_any d (HPL.out d (List.mem_of_getElem? hd)) wr hap)
      have HTK := Lib.hid (take_map_succ hd)
      have hl : ((D.take m).map (·.2.2)).length = m := by rw [List.length_map, List.length_take]; omega
      have HL := Lib.hid hl
      have hdv : ∃ ad2 nd2 cd2, dval d = .slice ad2 nd2 cd2 := ⟨_, _, _, rfl⟩
      clear hrow hap hd hD0 hl
      generalize dval d = dv at hcell HT hdv
      obtain ⟨ad2, nd2, cd2, rfl⟩ := hdv
      go_wp2_with (first
        | (go_at_call 64; refine (HT.out).mono ?_; rintro e w8 ⟨u, rfl, hu, hx8⟩
           obtain ⟨ua, un, uc, rfl⟩ := GP.pq.shape hu
           have HU := Lib.hid hu
           have HX8 := Lib.hid hx8
           clear hu hx8 HT)
        | (at_builtin; refine wpList_place GP.pq (.tmp 78) (.tmp 81) rfl rfl w7 w8 u8 _ ((D.take m).map (·.2.2)) d.2.2 (HP.out.ext GP.pq HX8.out) HU.out (Ext.trans HX.out HX8.out) (by rw [HL.out]; omega) w8.heap.size rfl rfl rfl ?_; intro g9 c9 w9 hp9 hx9; have HP9 := Lib.hid hp9; have HX9 := Lib.hid hx9; clear hp9 hx9))
      go_roundw
      case rel => exact ⟨m + 1, by omega, by go_num, by rw [HTK.out]; have h9 := HP9.out; rwa [HL.out] at h9, HX9.out⟩
      case measure => simp [intOf]; omega
    · have hme : m = D.length := by omega
      subst hme
      have HF : Hid (PLs GP wr w7.heap.size u8 (D.map (·.2.2))) := by have := HP.out; rwa [List.take_length] at this
      clear HP
      go_wp2
      go_ret2
      exact ⟨_, _, rfl, HPD.out, HF.out.base X7.out.size, Ext.trans X7.out HX.out⟩
end Go.Proofs.Ytikpedfggbibpaa
