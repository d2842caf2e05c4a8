/- Walks: FnAsBoolTold. -/
import Derived.Test.YtedhdkadpibaeaaGreatDoorVd
namespace Go.Proofs.YtedhdkadpibaeaaGreatDoor
open Go.RowKit Go.Lib
set_option linter.unusedVariables false
set_option linter.unusedSimpArgs false

theorem given_split {x : V} {w w' : World} {e : Ending} (h : GivenPost x w e w') : Ext w w' ∧ (e = .returned (.bool false) ∨ ∃ j, x = V.ofJ j ∧ (j.ok ∧ ((V.ofJ j).wt : Int) ≤ 300) ∧ e = .returned (.bool true)) := by
  obtain ⟨b, rfl, hj, hx⟩ := h
  refine ⟨hx, ?_⟩
  cases b
  · exact Or.inl rfl
  · obtain ⟨j, rfl, h1, h2⟩ := hj rfl
    exact Or.inr ⟨j, rfl, ⟨h1, h2⟩, rfl⟩

theorem toList_data (rr : ByteArray) : rr.toList = rr.data.toList := by rw [ByteArray.toList_eq]
theorem boolOf_str (q rr : ByteArray) (h : rr.data.toList = q.data.toList.map lowB) (ds : List Bool) : boolOf (.str q) ds = if 1 < ds.length then ds.getD 1 false else if rr.data.toList = trueB then true else if rr.data.toList = falseB then false else ds.getD 0 false := by
  simp only [boolOf, fold_trueB, fold_falseB, ← h, decide_eq_true_eq]
theorem str_cases (rr : ByteArray) : rr = { data := #[116, 114, 117, 101] } ∨ rr = { data := #[102, 97, 108, 115, 101] } ∨ (¬ rr.toList = [116, 114, 117, 101] ∧ ¬ rr.toList = [102, 97, 108, 115, 101]) := by
  have e : ∀ l : Array UInt8, rr.toList = l.toList → rr = { data := l } := fun l h => by
    rw [toList_data] at h
    obtain ⟨d⟩ := rr
    simp only at h
    rw [Array.toList_inj.1 h]
  by_cases h1 : rr.toList = [116, 114, 117, 101]
  · exact Or.inl (e #[116, 114, 117, 101] h1)
  by_cases h2 : rr.toList = [102, 97, 108, 115, 101]
  · exact Or.inr (Or.inl (e #[102, 97, 108, 115, 101] h2))
  · exact Or.inr (Or.inr ⟨h1, h2⟩)

theorem str_split0 (q rr : ByteArray) (h : rr.data.toList = q.data.toList.map lowB) :
    (rr = { data := #[116, 114, 117, 101] } ∧ boolOf (.str q) [] = true) ∨ (rr = { data := #[102, 97, 108, 115, 101] } ∧ boolOf (.str q) [] = false) ∨ ((¬ rr.toList = [116, 114, 117, 101] ∧ ¬ rr.toList = [102, 97, 108, 115, 101]) ∧ boolOf (.str q) [] = false) := by
  have hb := boolOf_str q rr h []
  rcases str_cases rr with rfl | rfl | ⟨h1, h2⟩
  · exact Or.inl ⟨rfl, hb.trans (by simp [trueB, falseB])⟩
  · exact Or.inr (Or.inl ⟨rfl, hb.trans (by simp [trueB, falseB])⟩)
  · refine Or.inr (Or.inr ⟨⟨h1, h2⟩, hb.trans ?_⟩)
    rw [toList_data] at h1 h2
    simp [trueB, falseB, h1, h2]

theorem str_split1 (q rr : ByteArray) (h : rr.data.toList = q.data.toList.map lowB) (d0 : Bool) :
    (rr = { data := #[116, 114, 117, 101] } ∧ boolOf (.str q) [d0] = true) ∨ (rr = { data := #[102, 97, 108, 115, 101] } ∧ boolOf (.str q) [d0] = false) ∨ ((¬ rr.toList = [116, 114, 117, 101] ∧ ¬ rr.toList = [102, 97, 108, 115, 101]) ∧ boolOf (.str q) [d0] = d0) := by
  have hb := boolOf_str q rr h [d0]
  rcases str_cases rr with rfl | rfl | ⟨h1, h2⟩
  · exact Or.inl ⟨rfl, hb.trans (by simp [trueB, falseB])⟩
  · exact Or.inr (Or.inl ⟨rfl, hb.trans (by simp [trueB, falseB])⟩)
  · refine Or.inr (Or.inr ⟨⟨h1, h2⟩, hb.trans ?_⟩)
    rw [toList_data] at h1 h2
    simp [trueB, falseB, h1, h2]

theorem str_split2 (q rr : ByteArray) (h : rr.data.toList = q.data.toList.map lowB) (d0 d1 : Bool) :
    (rr = { data := #[116, 114, 117, 101] } ∧ boolOf (.str q) [d0, d1] = d1) ∨ (rr = { data := #[102, 97, 108, 115, 101] } ∧ boolOf (.str q) [d0, d1] = d1) ∨ ((¬ rr.toList = [116, 114, 117, 101] ∧ ¬ rr.toList = [102, 97, 108, 115, 101]) ∧ boolOf (.str q) [d0, d1] = d1) := by
  have hb := boolOf_str q rr h [d0, d1]
  rcases str_cases rr with rfl | rfl | ⟨h1, h2⟩
  · exact Or.inl ⟨rfl, hb.trans (by simp [trueB, falseB])⟩
  · exact Or.inr (Or.inl ⟨rfl, hb.trans (by simp [trueB, falseB])⟩)
  · refine Or.inr (Or.inr ⟨⟨h1, h2⟩, hb.trans ?_⟩)
    rw [toList_data] at h1 h2
    simp [trueB, falseB, h1, h2]

set_option maxRecDepth 20000 in
set_option maxHeartbeats 8000000 in
theorem law_big (x : V) (v : Value) (n : Nat) (a : Option Addr) (c : Nat) (w : World) (h : RV w x v) (hn : 2 < n) (hr : n ≤ reachN) : Calls Tryz.prog 3 #[v, .slice a n c] w (Gives (.bool true) w) := by
  have HZ : Hid (∀ w1, Keep w w1 → Calls Tryz.prog 4 #[v] w1 (SomeBool w1)) := fun w1 hk => zzFits1_any x v w1 (RV.keep hk _ h)
  have HG : Hid (∀ w1, Keep w w1 → Calls Tryz.prog 5 #[v] w1 (GivenPost x w1)) := fun w1 hk => given_any x v w1 (RV.keep hk _ h)
  have HH := Lib.hid h
  obtain ⟨al, lc, ak, kc, rfl, hsz⟩ := h.six
  have HSZ := Lib.hid hsz
  clear h hsz
  unfold reachN at hr
  by_cases hz : 2147483647 < n
  · have hz' : (2147483647 : Int) < (n : Int) := by omega
    go_enter Tryz.func3, Tryz.ntmps3
    go_wp2_with (go_at_call 4; refine (HZ.out _ (Keep.alloc _ _)).mono ?_; rintro e w1 ⟨⟨z1, rfl⟩, hx1⟩; have HX1 : Hid (Ext w w1) := ((Ext.refl w).alloc _).trans hx1; obtain ⟨b0, b1, b2, b3, b4, b5⟩ := box6 hx1.keep; clear hx1 HZ; cases z1)
    all_goals go_wp2
    all_goals go_ret
    all_goals exact .mk rfl HX1.out
  · have hz' : ¬ (2147483647 : Int) < (n : Int) := by omega
    have hn' : (2 : Int) < (n : Int) := by omega
    go_enter Tryz.func3, Tryz.ntmps3
    go_wp2_with (go_at_call 4; refine (HZ.out _ (Keep.alloc _ _)).mono ?_; rintro e w1 ⟨⟨z1, rfl⟩, hx1⟩; have HX1 : Hid (Ext w w1) := ((Ext.refl w).alloc _).trans hx1; obtain ⟨b0, b1, b2, b3, b4, b5⟩ := box6 hx1.keep; clear hx1 HZ; cases z1)
    · go_wp2
      go_ret
      exact .mk rfl HX1.out
    go_wp2_with (go_at_call 5; refine (HG.out _ HX1.out.keep).mono ?_; rintro e w2 ⟨z1, rfl, hj, hx2⟩; have HX2 : Hid (Ext w w2) := HX1.out.trans hx2; have HJ := Lib.hid hj; have b0 := hx2.keep _ _ b0; have b1 := hx2.keep _ _ b1; have b2 := hx2.keep _ _ b2; have b3 := hx2.keep _ _ b3; have b4 := hx2.keep _ _ b4; have b5 := hx2.keep _ _ b5; clear hx2 hj HG; cases z1)
    all_goals go_wp2
    all_goals go_ret
    all_goals exact .mk rfl HX2.out

set_option maxRecDepth 20000 in
set_option maxHeartbeats 8000000 in
theorem law_0 (x : V) (v : Value)  (a : Option Addr) (c : Nat) (w : World) (h : RV w x v) (hc : 0 ≤ c) (hb : BS w a []) : Calls Tryz.prog 3 #[v, .slice a 0 c] w (Gives (.bool true) w) := by
  have HZ : Hid (∀ w1, Keep w w1 → Calls Tryz.prog 4 #[v] w1 (SomeBool w1)) := fun w1 hk => zzFits1_any x v w1 (RV.keep hk _ h)
  have HG : Hid (∀ w1, Keep w w1 → Calls Tryz.prog 5 #[v] w1 (GivenPost x w1)) := fun w1 hk => given_any x v w1 (RV.keep hk _ h)
  have HH := Lib.hid h
  obtain ⟨al, lc, ak, kc, rfl, hsz⟩ := h.six
  have HSZ := Lib.hid hsz
  clear h hsz
  have HBS := Lib.hid hb
  clear hb
  go_enter Tryz.func3, Tryz.ntmps3
  go_wp2_with (go_at_call 4; refine (HZ.out _ (Keep.alloc _ _)).mono ?_; rintro e w1 ⟨⟨z1, rfl⟩, hx1⟩; have HX1 : Hid (Ext w w1) := ((Ext.refl w).alloc _).trans hx1; obtain ⟨b0, b1, b2, b3, b4, b5⟩ := box6 hx1.keep; clear hx1 HZ; cases z1)
  · go_wp2
    go_ret
    exact .mk rfl HX1.out
  go_wp2_with (go_at_call 5; refine (HG.out _ HX1.out.keep).mono ?_; rintro e w2 hg; obtain ⟨hx2, hg⟩ := given_split hg; have HX2 : Hid (Ext w w2) := HX1.out.trans hx2; have b0 := hx2.keep _ _ b0; have b1 := hx2.keep _ _ b1; have b2 := hx2.keep _ _ b2; have b3 := hx2.keep _ _ b3; have b4 := hx2.keep _ _ b4; have b5 := hx2.keep _ _ b5; clear hx2 HG; rcases hg with rfl | ⟨(_ | ⟨(_ | _)⟩ | q | q | q | q | ⟨ks, q⟩), rfl, hjk, rfl⟩; all_goals try (have HJK := Lib.hid hjk; clear hjk); all_goals try simp only [V.ofJ, V.kind, V.n, V.f, V.s, V.l, V.keys, List.length_nil, V.ofJs_length, Bool.false_eq_true, if_true, if_false] at b0 b1 b2 b3 b4 b5)
  · go_ret
    exact .mk rfl HX2.out
  · have HAB : Hid (∀ w1, Keep w w1 → Calls Tryz.prog 7 #[_, .slice a 0 c] w1 (Gives (.tuple #[.bool (boolOf J.null []), .bool false]) w1)) := fun w1 hk => asBool_any J.null HJK.out.1 (by unfold AsciiS; trivial) [] (by simp) a c hc _ w1 (RV.keep hk _ HH.out) (HBS.out.keep hk)
    simp only [V.ofJ, V.kind, V.n, V.f, V.s, V.l, V.keys, List.length_nil, V.ofJs_length, Bool.false_eq_true, if_true, if_false] at HAB
    go_wp2_with (first
      | (go_at_call 7; refine (HAB.out _ HX2.out.keep).mono ?_; rintro e w3 ⟨rfl, hx3⟩; have HX3 := Lib.hid hx3; have b0 := hx3.keep _ _ b0; have b1 := hx3.keep _ _ b1; have b3 := hx3.keep _ _ b3; clear hx3 HAB)
      | (go_at_call 9; refine (becomes_any _).mono ?_; rintro e w4 ⟨rfl, hx4⟩; have HX4 := Lib.hid hx4; clear hx4))
    all_goals go_ret
    all_goals exact .mk (by simp [boolOf]) (HX2.out.trans (HX3.out.trans HX4.out))
  · have HAB : Hid (∀ w1, Keep w w1 → Calls Tryz.prog 7 #[_, .slice a 0 c] w1 (Gives (.tuple #[.bool (boolOf (J.bool false) []), .bool false]) w1)) := fun w1 hk => asBool_any (J.bool false) HJK.out.1 (by unfold AsciiS; trivial) [] (by simp) a c hc _ w1 (RV.keep hk _ HH.out) (HBS.out.keep hk)
    simp only [V.ofJ, V.kind, V.n, V.f, V.s, V.l, V.keys, List.length_nil, V.ofJs_length, Bool.false_eq_true, if_true, if_false] at HAB
    go_wp2_with (first
      | (go_at_call 7; refine (HAB.out _ HX2.out.keep).mono ?_; rintro e w3 ⟨rfl, hx3⟩; have HX3 := Lib.hid hx3; have b0 := hx3.keep _ _ b0; have b1 := hx3.keep _ _ b1; have b3 := hx3.keep _ _ b3; clear hx3 HAB)
      | (go_at_call 9; refine (becomes_any _).mono ?_; rintro e w4 ⟨rfl, hx4⟩; have HX4 := Lib.hid hx4; clear hx4))
    all_goals go_ret
    all_goals exact .mk (by simp [boolOf]) (HX2.out.trans (HX3.out.trans HX4.out))
  · have HAB : Hid (∀ w1, Keep w w1 → Calls Tryz.prog 7 #[_, .slice a 0 c] w1 (Gives (.tuple #[.bool (boolOf (J.bool true) []), .bool false]) w1)) := fun w1 hk => asBool_any (J.bool true) HJK.out.1 (by unfold AsciiS; trivial) [] (by simp) a c hc _ w1 (RV.keep hk _ HH.out) (HBS.out.keep hk)
    simp only [V.ofJ, V.kind, V.n, V.f, V.s, V.l, V.keys, List.length_nil, V.ofJs_length, Bool.false_eq_true, if_true, if_false] at HAB
    go_wp2_with (first
      | (go_at_call 7; refine (HAB.out _ HX2.out.keep).mono ?_; rintro e w3 ⟨rfl, hx3⟩; have HX3 := Lib.hid hx3; have b0 := hx3.keep _ _ b0; have b1 := hx3.keep _ _ b1; have b3 := hx3.keep _ _ b3; clear hx3 HAB)
      | (go_at_call 9; refine (becomes_any _).mono ?_; rintro e w4 ⟨rfl, hx4⟩; have HX4 := Lib.hid hx4; clear hx4))
    all_goals go_ret
    all_goals exact .mk (by simp [boolOf]) (HX2.out.trans (HX3.out.trans HX4.out))
  · have HAB : Hid (∀ w1, Keep w w1 → Calls Tryz.prog 7 #[_, .slice a 0 c] w1 (Gives (.tuple #[.bool (boolOf (J.int q) []), .bool false]) w1)) := fun w1 hk => asBool_any (J.int q) HJK.out.1 (by unfold AsciiS; trivial) [] (by simp) a c hc _ w1 (RV.keep hk _ HH.out) (HBS.out.keep hk)
    simp only [V.ofJ, V.kind, V.n, V.f, V.s, V.l, V.keys, List.length_nil, V.ofJs_length, Bool.false_eq_true, if_true, if_false] at HAB
    go_wp2_with (first
      | (go_at_call 7; refine (HAB.out _ HX2.out.keep).mono ?_; rintro e w3 ⟨rfl, hx3⟩; have HX3 := Lib.hid hx3; have b0 := hx3.keep _ _ b0; have b1 := hx3.keep _ _ b1; have b3 := hx3.keep _ _ b3; clear hx3 HAB)
      | (go_at_call 9; refine (becomes_any _).mono ?_; rintro e w4 ⟨rfl, hx4⟩; have HX4 := Lib.hid hx4; clear hx4))
    all_goals go_ret
    all_goals exact .mk (by simp [boolOf]) (HX2.out.trans (HX3.out.trans HX4.out))
  · have HAB : Hid (∀ w1, Keep w w1 → Calls Tryz.prog 7 #[_, .slice a 0 c] w1 (Gives (.tuple #[.bool (boolOf (J.flt q) []), .bool false]) w1)) := fun w1 hk => asBool_any (J.flt q) HJK.out.1 (by unfold AsciiS; trivial) [] (by simp) a c hc _ w1 (RV.keep hk _ HH.out) (HBS.out.keep hk)
    simp only [V.ofJ, V.kind, V.n, V.f, V.s, V.l, V.keys, List.length_nil, V.ofJs_length, Bool.false_eq_true, if_true, if_false] at HAB
    go_wp2_with (first
      | (go_at_call 7; refine (HAB.out _ HX2.out.keep).mono ?_; rintro e w3 ⟨rfl, hx3⟩; have HX3 := Lib.hid hx3; have b0 := hx3.keep _ _ b0; have b1 := hx3.keep _ _ b1; have b3 := hx3.keep _ _ b3; clear hx3 HAB)
      | (go_at_call 9; refine (becomes_any _).mono ?_; rintro e w4 ⟨rfl, hx4⟩; have HX4 := Lib.hid hx4; clear hx4))
    all_goals go_ret
    all_goals exact .mk (by simp [boolOf]) (HX2.out.trans (HX3.out.trans HX4.out))
  · have hss : q.size ≤ 300 := by have := HJK.out.2; simp only [V.ofJ, V.wt] at this; omega
    have HAS := Lib.hid (ascii_any q (by unfold reachN; omega) w2)
    have HLW : Hid (∀ w1, Calls Tryz.prog 8 #[.string q] w1 (LowPost q w1)) := fun w1 => lower_any q (by unfold reachN; omega) w1
    have HAB : Hid ((∀ (i : Nat) ch, q.data.toList[i]? = some ch → ch.toNat < 128) → ∀ w1, Keep w w1 → Calls Tryz.prog 7 #[_, .slice a 0 c] w1 (Gives (.tuple #[.bool (boolOf (J.str q) []), .bool false]) w1)) := fun ha w1 hk => asBool_any (J.str q) HJK.out.1 ⟨by omega, ha⟩ [] (by simp) a c hc _ w1 (RV.keep hk _ HH.out) (HBS.out.keep hk)
    simp only [V.ofJ, V.kind, V.n, V.f, V.s, V.l, V.keys, List.length_nil, V.ofJs_length, Bool.false_eq_true, if_true, if_false] at HAB
    clear hss
    go_wp2_with (go_at_call 6; refine (HAS.out).mono ?_; rintro e w3 ⟨z3, rfl, hz3, hx3⟩; have HZ3 := Lib.hid hz3; have HX3 := Lib.hid (HX2.out.trans hx3); have b0 := hx3.keep _ _ b0; have b1 := hx3.keep _ _ b1; have b2 := hx3.keep _ _ b2; have b3 := hx3.keep _ _ b3; have b4 := hx3.keep _ _ b4; have b5 := hx3.keep _ _ b5; clear hx3 HAS; cases z3)
    · go_ret
      exact .mk rfl HX3.out
    have HAB2 := Lib.hid (HAB.out (HZ3.out (by first | rfl | trivial)))
    clear HAB HZ3
    go_wp2_with (first
      | (go_at_call 7; refine (HAB2.out _ HX3.out.keep).mono ?_; rintro e w4 ⟨rfl, hx4⟩; have HX4 := Lib.hid (HX3.out.trans hx4); have b0 := hx4.keep _ _ b0; have b1 := hx4.keep _ _ b1; have b3 := hx4.keep _ _ b3; clear hx4 HAB2)
      | (go_at_call 8; refine (HLW.out _).mono ?_; rintro e w5 ⟨rr, rfl, hrr, hx5⟩; have HRR := Lib.hid hrr; have HX5 := Lib.hid (HX4.out.trans hx5); have b0 := hx5.keep _ _ b0; have b1 := hx5.keep _ _ b1; have b3 := hx5.keep _ _ b3; clear hx5 HLW; rcases str_split0 q rr hrr  with ⟨rfl, hbo⟩ | ⟨rfl, hbo⟩ | ⟨⟨hn1, hn2⟩, hbo⟩; (all_goals (try (have hm1 : (rr.toList == [116, 114, 117, 101]) = false := beq_eq_false_iff_ne.2 hn1; have hm2 : (rr.toList == [102, 97, 108, 115, 101]) = false := beq_eq_false_iff_ne.2 hn2))); (all_goals rw [hbo]); (all_goals clear hrr hbo))
      | (go_at_call 9; refine (becomes_any _).mono ?_; rintro e w6 ⟨rfl, hx6⟩; have HX6 := Lib.hid hx6; clear hx6))
    all_goals go_ret
    all_goals exact .mk (by simp) (HX5.out.trans HX6.out)
  · have HAB : Hid (∀ w1, Keep w w1 → Calls Tryz.prog 7 #[_, .slice a 0 c] w1 (Gives (.tuple #[.bool (boolOf (J.arr q) []), .bool false]) w1)) := fun w1 hk => asBool_any (J.arr q) HJK.out.1 (by unfold AsciiS; trivial) [] (by simp) a c hc _ w1 (RV.keep hk _ HH.out) (HBS.out.keep hk)
    simp only [V.ofJ, V.kind, V.n, V.f, V.s, V.l, V.keys, List.length_nil, V.ofJs_length, Bool.false_eq_true, if_true, if_false] at HAB
    go_wp2_with (first
      | (go_at_call 7; refine (HAB.out _ HX2.out.keep).mono ?_; rintro e w3 ⟨rfl, hx3⟩; have HX3 := Lib.hid hx3; have b0 := hx3.keep _ _ b0; have b1 := hx3.keep _ _ b1; have b3 := hx3.keep _ _ b3; clear hx3 HAB)
      | (go_at_call 9; refine (becomes_any _).mono ?_; rintro e w4 ⟨rfl, hx4⟩; have HX4 := Lib.hid hx4; clear hx4))
    all_goals go_ret
    all_goals exact .mk (by simp [boolOf]) (HX2.out.trans (HX3.out.trans HX4.out))
  · have HAB : Hid (∀ w1, Keep w w1 → Calls Tryz.prog 7 #[_, .slice a 0 c] w1 (Gives (.tuple #[.bool (boolOf (J.obj ks q) []), .bool false]) w1)) := fun w1 hk => asBool_any (J.obj ks q) HJK.out.1 (by unfold AsciiS; trivial) [] (by simp) a c hc _ w1 (RV.keep hk _ HH.out) (HBS.out.keep hk)
    simp only [V.ofJ, V.kind, V.n, V.f, V.s, V.l, V.keys, List.length_nil, V.ofJs_length, Bool.false_eq_true, if_true, if_false] at HAB
    go_wp2_with (first
      | (go_at_call 7; refine (HAB.out _ HX2.out.keep).mono ?_; rintro e w3 ⟨rfl, hx3⟩; have HX3 := Lib.hid hx3; have b0 := hx3.keep _ _ b0; have b1 := hx3.keep _ _ b1; have b3 := hx3.keep _ _ b3; clear hx3 HAB)
      | (go_at_call 9; refine (becomes_any _).mono ?_; rintro e w4 ⟨rfl, hx4⟩; have HX4 := Lib.hid hx4; clear hx4))
    all_goals go_ret
    all_goals exact .mk (by simp [boolOf]) (HX2.out.trans (HX3.out.trans HX4.out))

set_option maxRecDepth 20000 in
set_option maxHeartbeats 8000000 in
theorem law_1 (x : V) (v : Value) (d0 : Bool) (a : Option Addr) (c : Nat) (w : World) (h : RV w x v) (hc : 1 ≤ c) (hb : BS w a [d0]) : Calls Tryz.prog 3 #[v, .slice a 1 c] w (Gives (.bool true) w) := by
  have HZ : Hid (∀ w1, Keep w w1 → Calls Tryz.prog 4 #[v] w1 (SomeBool w1)) := fun w1 hk => zzFits1_any x v w1 (RV.keep hk _ h)
  have HG : Hid (∀ w1, Keep w w1 → Calls Tryz.prog 5 #[v] w1 (GivenPost x w1)) := fun w1 hk => given_any x v w1 (RV.keep hk _ h)
  have HH := Lib.hid h
  obtain ⟨al, lc, ak, kc, rfl, hsz⟩ := h.six
  have HSZ := Lib.hid hsz
  clear h hsz
  have HBS := Lib.hid hb
  obtain ⟨b, o, rfl, hcs⟩ := hb (by simp)
  have hd0 := hcs 0 (by simp)
  simp only [List.getElem_cons_succ, List.getElem_cons_zero, Nat.add_zero] at hd0
  have hbl := lt_of_cell hd0
  simp only at hbl
  clear hcs hb
  go_enter Tryz.func3, Tryz.ntmps3
  go_wp2_with (go_at_call 4; refine (HZ.out _ (Keep.alloc _ _)).mono ?_; rintro e w1 ⟨⟨z1, rfl⟩, hx1⟩; have HX1 : Hid (Ext w w1) := ((Ext.refl w).alloc _).trans hx1; obtain ⟨b0, b1, b2, b3, b4, b5⟩ := box6 hx1.keep; clear hx1 HZ; cases z1)
  · go_wp2
    go_ret
    exact .mk rfl HX1.out
  go_wp2_with (go_at_call 5; refine (HG.out _ HX1.out.keep).mono ?_; rintro e w2 hg; obtain ⟨hx2, hg⟩ := given_split hg; have HX2 : Hid (Ext w w2) := HX1.out.trans hx2; have b0 := hx2.keep _ _ b0; have b1 := hx2.keep _ _ b1; have b2 := hx2.keep _ _ b2; have b3 := hx2.keep _ _ b3; have b4 := hx2.keep _ _ b4; have b5 := hx2.keep _ _ b5; clear hx2 HG; rcases hg with rfl | ⟨(_ | ⟨(_ | _)⟩ | q | q | q | q | ⟨ks, q⟩), rfl, hjk, rfl⟩; all_goals try (have HJK := Lib.hid hjk; clear hjk); all_goals try simp only [V.ofJ, V.kind, V.n, V.f, V.s, V.l, V.keys, List.length_nil, V.ofJs_length, Bool.false_eq_true, if_true, if_false] at b0 b1 b2 b3 b4 b5)
  · go_ret
    exact .mk rfl HX2.out
  · have hd0 := HX2.out.keep _ _ hd0
    have HAB : Hid (∀ w1, Keep w w1 → Calls Tryz.prog 7 #[_, .slice (some ⟨b, o, none⟩) 1 c] w1 (Gives (.tuple #[.bool (boolOf J.null [d0]), .bool false]) w1)) := fun w1 hk => asBool_any J.null HJK.out.1 (by unfold AsciiS; trivial) [d0] (by simp) (some ⟨b, o, none⟩) c hc _ w1 (RV.keep hk _ HH.out) (HBS.out.keep hk)
    simp only [V.ofJ, V.kind, V.n, V.f, V.s, V.l, V.keys, List.length_nil, V.ofJs_length, Bool.false_eq_true, if_true, if_false] at HAB
    go_wp2_with (first
      | (go_at_call 7; refine (HAB.out _ HX2.out.keep).mono ?_; rintro e w3 ⟨rfl, hx3⟩; have HX3 := Lib.hid hx3; have b0 := hx3.keep _ _ b0; have b1 := hx3.keep _ _ b1; have b3 := hx3.keep _ _ b3; have hd0 := hx3.keep _ _ hd0; clear hx3 HAB)
      | (go_at_call 9; refine (becomes_any _).mono ?_; rintro e w4 ⟨rfl, hx4⟩; have HX4 := Lib.hid hx4; clear hx4))
    all_goals go_ret
    all_goals exact .mk (by simp [boolOf]) (HX2.out.trans (HX3.out.trans HX4.out))
  · have hd0 := HX2.out.keep _ _ hd0
    have HAB : Hid (∀ w1, Keep w w1 → Calls Tryz.prog 7 #[_, .slice (some ⟨b, o, none⟩) 1 c] w1 (Gives (.tuple #[.bool (boolOf (J.bool false) [d0]), .bool false]) w1)) := fun w1 hk => asBool_any (J.bool false) HJK.out.1 (by unfold AsciiS; trivial) [d0] (by simp) (some ⟨b, o, none⟩) c hc _ w1 (RV.keep hk _ HH.out) (HBS.out.keep hk)
    simp only [V.ofJ, V.kind, V.n, V.f, V.s, V.l, V.keys, List.length_nil, V.ofJs_length, Bool.false_eq_true, if_true, if_false] at HAB
    go_wp2_with (first
      | (go_at_call 7; refine (HAB.out _ HX2.out.keep).mono ?_; rintro e w3 ⟨rfl, hx3⟩; have HX3 := Lib.hid hx3; have b0 := hx3.keep _ _ b0; have b1 := hx3.keep _ _ b1; have b3 := hx3.keep _ _ b3; have hd0 := hx3.keep _ _ hd0; clear hx3 HAB)
      | (go_at_call 9; refine (becomes_any _).mono ?_; rintro e w4 ⟨rfl, hx4⟩; have HX4 := Lib.hid hx4; clear hx4))
    all_goals go_ret
    all_goals exact .mk (by simp [boolOf]) (HX2.out.trans (HX3.out.trans HX4.out))
  · have hd0 := HX2.out.keep _ _ hd0
    have HAB : Hid (∀ w1, Keep w w1 → Calls Tryz.prog 7 #[_, .slice (some ⟨b, o, none⟩) 1 c] w1 (Gives (.tuple #[.bool (boolOf (J.bool true) [d0]), .bool false]) w1)) := fun w1 hk => asBool_any (J.bool true) HJK.out.1 (by unfold AsciiS; trivial) [d0] (by simp) (some ⟨b, o, none⟩) c hc _ w1 (RV.keep hk _ HH.out) (HBS.out.keep hk)
    simp only [V.ofJ, V.kind, V.n, V.f, V.s, V.l, V.keys, List.length_nil, V.ofJs_length, Bool.false_eq_true, if_true, if_false] at HAB
    go_wp2_with (first
      | (go_at_call 7; refine (HAB.out _ HX2.out.keep).mono ?_; rintro e w3 ⟨rfl, hx3⟩; have HX3 := Lib.hid hx3; have b0 := hx3.keep _ _ b0; have b1 := hx3.keep _ _ b1; have b3 := hx3.keep _ _ b3; have hd0 := hx3.keep _ _ hd0; clear hx3 HAB)
      | (go_at_call 9; refine (becomes_any _).mono ?_; rintro e w4 ⟨rfl, hx4⟩; have HX4 := Lib.hid hx4; clear hx4))
    all_goals go_ret
    all_goals exact .mk (by simp [boolOf]) (HX2.out.trans (HX3.out.trans HX4.out))
  · have hd0 := HX2.out.keep _ _ hd0
    have HAB : Hid (∀ w1, Keep w w1 → Calls Tryz.prog 7 #[_, .slice (some ⟨b, o, none⟩) 1 c] w1 (Gives (.tuple #[.bool (boolOf (J.int q) [d0]), .bool false]) w1)) := fun w1 hk => asBool_any (J.int q) HJK.out.1 (by unfold AsciiS; trivial) [d0] (by simp) (some ⟨b, o, none⟩) c hc _ w1 (RV.keep hk _ HH.out) (HBS.out.keep hk)
    simp only [V.ofJ, V.kind, V.n, V.f, V.s, V.l, V.keys, List.length_nil, V.ofJs_length, Bool.false_eq_true, if_true, if_false] at HAB
    go_wp2_with (first
      | (go_at_call 7; refine (HAB.out _ HX2.out.keep).mono ?_; rintro e w3 ⟨rfl, hx3⟩; have HX3 := Lib.hid hx3; have b0 := hx3.keep _ _ b0; have b1 := hx3.keep _ _ b1; have b3 := hx3.keep _ _ b3; have hd0 := hx3.keep _ _ hd0; clear hx3 HAB)
      | (go_at_call 9; refine (becomes_any _).mono ?_; rintro e w4 ⟨rfl, hx4⟩; have HX4 := Lib.hid hx4; clear hx4))
    all_goals go_ret
    all_goals exact .mk (by simp [boolOf]) (HX2.out.trans (HX3.out.trans HX4.out))
  · have hd0 := HX2.out.keep _ _ hd0
    have HAB : Hid (∀ w1, Keep w w1 → Calls Tryz.prog 7 #[_, .slice (some ⟨b, o, none⟩) 1 c] w1 (Gives (.tuple #[.bool (boolOf (J.flt q) [d0]), .bool false]) w1)) := fun w1 hk => asBool_any (J.flt q) HJK.out.1 (by unfold AsciiS; trivial) [d0] (by simp) (some ⟨b, o, none⟩) c hc _ w1 (RV.keep hk _ HH.out) (HBS.out.keep hk)
    simp only [V.ofJ, V.kind, V.n, V.f, V.s, V.l, V.keys, List.length_nil, V.ofJs_length, Bool.false_eq_true, if_true, if_false] at HAB
    go_wp2_with (first
      | (go_at_call 7; refine (HAB.out _ HX2.out.keep).mono ?_; rintro e w3 ⟨rfl, hx3⟩; have HX3 := Lib.hid hx3; have b0 := hx3.keep _ _ b0; have b1 := hx3.keep _ _ b1; have b3 := hx3.keep _ _ b3; have hd0 := hx3.keep _ _ hd0; clear hx3 HAB)
      | (go_at_call 9; refine (becomes_any _).mono ?_; rintro e w4 ⟨rfl, hx4⟩; have HX4 := Lib.hid hx4; clear hx4))
    all_goals go_ret
    all_goals exact .mk (by simp [boolOf]) (HX2.out.trans (HX3.out.trans HX4.out))
  · have hd0 := HX2.out.keep _ _ hd0
    have hss : q.size ≤ 300 := by have := HJK.out.2; simp only [V.ofJ, V.wt] at this; omega
    have HAS := Lib.hid (ascii_any q (by unfold reachN; omega) w2)
    have HLW : Hid (∀ w1, Calls Tryz.prog 8 #[.string q] w1 (LowPost q w1)) := fun w1 => lower_any q (by unfold reachN; omega) w1
    have HAB : Hid ((∀ (i : Nat) ch, q.data.toList[i]? = some ch → ch.toNat < 128) → ∀ w1, Keep w w1 → Calls Tryz.prog 7 #[_, .slice (some ⟨b, o, none⟩) 1 c] w1 (Gives (.tuple #[.bool (boolOf (J.str q) [d0]), .bool false]) w1)) := fun ha w1 hk => asBool_any (J.str q) HJK.out.1 ⟨by omega, ha⟩ [d0] (by simp) (some ⟨b, o, none⟩) c hc _ w1 (RV.keep hk _ HH.out) (HBS.out.keep hk)
    simp only [V.ofJ, V.kind, V.n, V.f, V.s, V.l, V.keys, List.length_nil, V.ofJs_length, Bool.false_eq_true, if_true, if_false] at HAB
    clear hss
    go_wp2_with (go_at_call 6; refine (HAS.out).mono ?_; rintro e w3 ⟨z3, rfl, hz3, hx3⟩; have HZ3 := Lib.hid hz3; have HX3 := Lib.hid (HX2.out.trans hx3); have b0 := hx3.keep _ _ b0; have b1 := hx3.keep _ _ b1; have b2 := hx3.keep _ _ b2; have b3 := hx3.keep _ _ b3; have b4 := hx3.keep _ _ b4; have b5 := hx3.keep _ _ b5; have hd0 := hx3.keep _ _ hd0; clear hx3 HAS; cases z3)
    · go_ret
      exact .mk rfl HX3.out
    have HAB2 := Lib.hid (HAB.out (HZ3.out (by first | rfl | trivial)))
    clear HAB HZ3
    go_wp2_with (first
      | (go_at_call 7; refine (HAB2.out _ HX3.out.keep).mono ?_; rintro e w4 ⟨rfl, hx4⟩; have HX4 := Lib.hid (HX3.out.trans hx4); have b0 := hx4.keep _ _ b0; have b1 := hx4.keep _ _ b1; have b3 := hx4.keep _ _ b3; have hd0 := hx4.keep _ _ hd0; clear hx4 HAB2)
      | (go_at_call 8; refine (HLW.out _).mono ?_; rintro e w5 ⟨rr, rfl, hrr, hx5⟩; have HRR := Lib.hid hrr; have HX5 := Lib.hid (HX4.out.trans hx5); have b0 := hx5.keep _ _ b0; have b1 := hx5.keep _ _ b1; have b3 := hx5.keep _ _ b3; have hd0 := hx5.keep _ _ hd0; clear hx5 HLW; rcases str_split1 q rr hrr d0 with ⟨rfl, hbo⟩ | ⟨rfl, hbo⟩ | ⟨⟨hn1, hn2⟩, hbo⟩; (all_goals (try (have hm1 : (rr.toList == [116, 114, 117, 101]) = false := beq_eq_false_iff_ne.2 hn1; have hm2 : (rr.toList == [102, 97, 108, 115, 101]) = false := beq_eq_false_iff_ne.2 hn2))); (all_goals rw [hbo]); (all_goals clear hrr hbo))
      | (go_at_call 9; refine (becomes_any _).mono ?_; rintro e w6 ⟨rfl, hx6⟩; have HX6 := Lib.hid hx6; clear hx6))
    all_goals go_ret
    all_goals exact .mk (by simp) (HX5.out.trans HX6.out)
  · have hd0 := HX2.out.keep _ _ hd0
    have HAB : Hid (∀ w1, Keep w w1 → Calls Tryz.prog 7 #[_, .slice (some ⟨b, o, none⟩) 1 c] w1 (Gives (.tuple #[.bool (boolOf (J.arr q) [d0]), .bool false]) w1)) := fun w1 hk => asBool_any (J.arr q) HJK.out.1 (by unfold AsciiS; trivial) [d0] (by simp) (some ⟨b, o, none⟩) c hc _ w1 (RV.keep hk _ HH.out) (HBS.out.keep hk)
    simp only [V.ofJ, V.kind, V.n, V.f, V.s, V.l, V.keys, List.length_nil, V.ofJs_length, Bool.false_eq_true, if_true, if_false] at HAB
    go_wp2_with (first
      | (go_at_call 7; refine (HAB.out _ HX2.out.keep).mono ?_; rintro e w3 ⟨rfl, hx3⟩; have HX3 := Lib.hid hx3; have b0 := hx3.keep _ _ b0; have b1 := hx3.keep _ _ b1; have b3 := hx3.keep _ _ b3; have hd0 := hx3.keep _ _ hd0; clear hx3 HAB)
      | (go_at_call 9; refine (becomes_any _).mono ?_; rintro e w4 ⟨rfl, hx4⟩; have HX4 := Lib.hid hx4; clear hx4))
    all_goals go_ret
    all_goals exact .mk (by simp [boolOf]) (HX2.out.trans (HX3.out.trans HX4.out))
  · have hd0 := HX2.out.keep _ _ hd0
    have HAB : Hid (∀ w1, Keep w w1 → Calls Tryz.prog 7 #[_, .slice (some ⟨b, o, none⟩) 1 c] w1 (Gives (.tuple #[.bool (boolOf (J.obj ks q) [d0]), .bool false]) w1)) := fun w1 hk => asBool_any (J.obj ks q) HJK.out.1 (by unfold AsciiS; trivial) [d0] (by simp) (some ⟨b, o, none⟩) c hc _ w1 (RV.keep hk _ HH.out) (HBS.out.keep hk)
    simp only [V.ofJ, V.kind, V.n, V.f, V.s, V.l, V.keys, List.length_nil, V.ofJs_length, Bool.false_eq_true, if_true, if_false] at HAB
    go_wp2_with (first
      | (go_at_call 7; refine (HAB.out _ HX2.out.keep).mono ?_; rintro e w3 ⟨rfl, hx3⟩; have HX3 := Lib.hid hx3; have b0 := hx3.keep _ _ b0; have b1 := hx3.keep _ _ b1; have b3 := hx3.keep _ _ b3; have hd0 := hx3.keep _ _ hd0; clear hx3 HAB)
      | (go_at_call 9; refine (becomes_any _).mono ?_; rintro e w4 ⟨rfl, hx4⟩; have HX4 := Lib.hid hx4; clear hx4))
    all_goals go_ret
    all_goals exact .mk (by simp [boolOf]) (HX2.out.trans (HX3.out.trans HX4.out))

set_option maxRecDepth 20000 in
set_option maxHeartbeats 8000000 in
theorem law_2 (x : V) (v : Value) (d0 d1 : Bool) (a : Option Addr) (c : Nat) (w : World) (h : RV w x v) (hc : 2 ≤ c) (hb : BS w a [d0, d1]) : Calls Tryz.prog 3 #[v, .slice a 2 c] w (Gives (.bool true) w) := by
  have HZ : Hid (∀ w1, Keep w w1 → Calls Tryz.prog 4 #[v] w1 (SomeBool w1)) := fun w1 hk => zzFits1_any x v w1 (RV.keep hk _ h)
  have HG : Hid (∀ w1, Keep w w1 → Calls Tryz.prog 5 #[v] w1 (GivenPost x w1)) := fun w1 hk => given_any x v w1 (RV.keep hk _ h)
  have HH := Lib.hid h
  obtain ⟨al, lc, ak, kc, rfl, hsz⟩ := h.six
  have HSZ := Lib.hid hsz
  clear h hsz
  have HBS := Lib.hid hb
  obtain ⟨b, o, rfl, hcs⟩ := hb (by simp)
  have hd0 := hcs 0 (by simp)
  have hd1 := hcs 1 (by simp)
  simp only [List.getElem_cons_succ, List.getElem_cons_zero, Nat.add_zero] at hd0 hd1
  have hbl := lt_of_cell hd0
  simp only at hbl
  clear hcs hb
  go_enter Tryz.func3, Tryz.ntmps3
  go_wp2_with (go_at_call 4; refine (HZ.out _ (Keep.alloc _ _)).mono ?_; rintro e w1 ⟨⟨z1, rfl⟩, hx1⟩; have HX1 : Hid (Ext w w1) := ((Ext.refl w).alloc _).trans hx1; obtain ⟨b0, b1, b2, b3, b4, b5⟩ := box6 hx1.keep; clear hx1 HZ; cases z1)
  · go_wp2
    go_ret
    exact .mk rfl HX1.out
  go_wp2_with (go_at_call 5; refine (HG.out _ HX1.out.keep).mono ?_; rintro e w2 hg; obtain ⟨hx2, hg⟩ := given_split hg; have HX2 : Hid (Ext w w2) := HX1.out.trans hx2; have b0 := hx2.keep _ _ b0; have b1 := hx2.keep _ _ b1; have b2 := hx2.keep _ _ b2; have b3 := hx2.keep _ _ b3; have b4 := hx2.keep _ _ b4; have b5 := hx2.keep _ _ b5; clear hx2 HG; rcases hg with rfl | ⟨(_ | ⟨(_ | _)⟩ | q | q | q | q | ⟨ks, q⟩), rfl, hjk, rfl⟩; all_goals try (have HJK := Lib.hid hjk; clear hjk); all_goals try simp only [V.ofJ, V.kind, V.n, V.f, V.s, V.l, V.keys, List.length_nil, V.ofJs_length, Bool.false_eq_true, if_true, if_false] at b0 b1 b2 b3 b4 b5)
  · go_ret
    exact .mk rfl HX2.out
  · have hd0 := HX2.out.keep _ _ hd0
    have hd1 := HX2.out.keep _ _ hd1
    have HAB : Hid (∀ w1, Keep w w1 → Calls Tryz.prog 7 #[_, .slice (some ⟨b, o, none⟩) 2 c] w1 (Gives (.tuple #[.bool (boolOf J.null [d0, d1]), .bool false]) w1)) := fun w1 hk => asBool_any J.null HJK.out.1 (by unfold AsciiS; trivial) [d0, d1] (by simp) (some ⟨b, o, none⟩) c hc _ w1 (RV.keep hk _ HH.out) (HBS.out.keep hk)
    simp only [V.ofJ, V.kind, V.n, V.f, V.s, V.l, V.keys, List.length_nil, V.ofJs_length, Bool.false_eq_true, if_true, if_false] at HAB
    go_wp2_with (first
      | (go_at_call 7; refine (HAB.out _ HX2.out.keep).mono ?_; rintro e w3 ⟨rfl, hx3⟩; have HX3 := Lib.hid hx3; have b0 := hx3.keep _ _ b0; have b1 := hx3.keep _ _ b1; have b3 := hx3.keep _ _ b3; have hd0 := hx3.keep _ _ hd0; have hd1 := hx3.keep _ _ hd1; clear hx3 HAB)
      | (go_at_call 9; refine (becomes_any _).mono ?_; rintro e w4 ⟨rfl, hx4⟩; have HX4 := Lib.hid hx4; clear hx4))
    all_goals go_ret
    all_goals exact .mk (by simp [boolOf]) (HX2.out.trans (HX3.out.trans HX4.out))
  · have hd0 := HX2.out.keep _ _ hd0
    have hd1 := HX2.out.keep _ _ hd1
    have HAB : Hid (∀ w1, Keep w w1 → Calls Tryz.prog 7 #[_, .slice (some ⟨b, o, none⟩) 2 c] w1 (Gives (.tuple #[.bool (boolOf (J.bool false) [d0, d1]), .bool false]) w1)) := fun w1 hk => asBool_any (J.bool false) HJK.out.1 (by unfold AsciiS; trivial) [d0, d1] (by simp) (some ⟨b, o, none⟩) c hc _ w1 (RV.keep hk _ HH.out) (HBS.out.keep hk)
    simp only [V.ofJ, V.kind, V.n, V.f, V.s, V.l, V.keys, List.length_nil, V.ofJs_length, Bool.false_eq_true, if_true, if_false] at HAB
    go_wp2_with (first
      | (go_at_call 7; refine (HAB.out _ HX2.out.keep).mono ?_; rintro e w3 ⟨rfl, hx3⟩; have HX3 := Lib.hid hx3; have b0 := hx3.keep _ _ b0; have b1 := hx3.keep _ _ b1; have b3 := hx3.keep _ _ b3; have hd0 := hx3.keep _ _ hd0; have hd1 := hx3.keep _ _ hd1; clear hx3 HAB)
      | (go_at_call 9; refine (becomes_any _).mono ?_; rintro e w4 ⟨rfl, hx4⟩; have HX4 := Lib.hid hx4; clear hx4))
    all_goals go_ret
    all_goals exact .mk (by simp [boolOf]) (HX2.out.trans (HX3.out.trans HX4.out))
  · have hd0 := HX2.out.keep _ _ hd0
    have hd1 := HX2.out.keep _ _ hd1
    have HAB : Hid (∀ w1, Keep w w1 → Calls Tryz.prog 7 #[_, .slice (some ⟨b, o, none⟩) 2 c] w1 (Gives (.tuple #[.bool (boolOf (J.bool true) [d0, d1]), .bool false]) w1)) := fun w1 hk => asBool_any (J.bool true) HJK.out.1 (by unfold AsciiS; trivial) [d0, d1] (by simp) (some ⟨b, o, none⟩) c hc _ w1 (RV.keep hk _ HH.out) (HBS.out.keep hk)
    simp only [V.ofJ, V.kind, V.n, V.f, V.s, V.l, V.keys, List.length_nil, V.ofJs_length, Bool.false_eq_true, if_true, if_false] at HAB
    go_wp2_with (first
      | (go_at_call 7; refine (HAB.out _ HX2.out.keep).mono ?_; rintro e w3 ⟨rfl, hx3⟩; have HX3 := Lib.hid hx3; have b0 := hx3.keep _ _ b0; have b1 := hx3.keep _ _ b1; have b3 := hx3.keep _ _ b3; have hd0 := hx3.keep _ _ hd0; have hd1 := hx3.keep _ _ hd1; clear hx3 HAB)
      | (go_at_call 9; refine (becomes_any _).mono ?_; rintro e w4 ⟨rfl, hx4⟩; have HX4 := Lib.hid hx4; clear hx4))
    all_goals go_ret
    all_goals exact .mk (by simp [boolOf]) (HX2.out.trans (HX3.out.trans HX4.out))
  · have hd0 := HX2.out.keep _ _ hd0
    have hd1 := HX2.out.keep _ _ hd1
    have HAB : Hid (∀ w1, Keep w w1 → Calls Tryz.prog 7 #[_, .slice (some ⟨b, o, none⟩) 2 c] w1 (Gives (.tuple #[.bool (boolOf (J.int q) [d0, d1]), .bool false]) w1)) := fun w1 hk => asBool_any (J.int q) HJK.out.1 (by unfold AsciiS; trivial) [d0, d1] (by simp) (some ⟨b, o, none⟩) c hc _ w1 (RV.keep hk _ HH.out) (HBS.out.keep hk)
    simp only [V.ofJ, V.kind, V.n, V.f, V.s, V.l, V.keys, List.length_nil, V.ofJs_length, Bool.false_eq_true, if_true, if_false] at HAB
    go_wp2_with (first
      | (go_at_call 7; refine (HAB.out _ HX2.out.keep).mono ?_; rintro e w3 ⟨rfl, hx3⟩; have HX3 := Lib.hid hx3; have b0 := hx3.keep _ _ b0; have b1 := hx3.keep _ _ b1; have b3 := hx3.keep _ _ b3; have hd0 := hx3.keep _ _ hd0; have hd1 := hx3.keep _ _ hd1; clear hx3 HAB)
      | (go_at_call 9; refine (becomes_any _).mono ?_; rintro e w4 ⟨rfl, hx4⟩; have HX4 := Lib.hid hx4; clear hx4))
    all_goals go_ret
    all_goals exact .mk (by simp [boolOf]) (HX2.out.trans (HX3.out.trans HX4.out))
  · have hd0 := HX2.out.keep _ _ hd0
    have hd1 := HX2.out.keep _ _ hd1
    have HAB : Hid (∀ w1, Keep w w1 → Calls Tryz.prog 7 #[_, .slice (some ⟨b, o, none⟩) 2 c] w1 (Gives (.tuple #[.bool (boolOf (J.flt q) [d0, d1]), .bool false]) w1)) := fun w1 hk => asBool_any (J.flt q) HJK.out.1 (by unfold AsciiS; trivial) [d0, d1] (by simp) (some ⟨b, o, none⟩) c hc _ w1 (RV.keep hk _ HH.out) (HBS.out.keep hk)
    simp only [V.ofJ, V.kind, V.n, V.f, V.s, V.l, V.keys, List.length_nil, V.ofJs_length, Bool.false_eq_true, if_true, if_false] at HAB
    go_wp2_with (first
      | (go_at_call 7; refine (HAB.out _ HX2.out.keep).mono ?_; rintro e w3 ⟨rfl, hx3⟩; have HX3 := Lib.hid hx3; have b0 := hx3.keep _ _ b0; have b1 := hx3.keep _ _ b1; have b3 := hx3.keep _ _ b3; have hd0 := hx3.keep _ _ hd0; have hd1 := hx3.keep _ _ hd1; clear hx3 HAB)
      | (go_at_call 9; refine (becomes_any _).mono ?_; rintro e w4 ⟨rfl, hx4⟩; have HX4 := Lib.hid hx4; clear hx4))
    all_goals go_ret
    all_goals exact .mk (by simp [boolOf]) (HX2.out.trans (HX3.out.trans HX4.out))
  · have hd0 := HX2.out.keep _ _ hd0
    have hd1 := HX2.out.keep _ _ hd1
    have hss : q.size ≤ 300 := by have := HJK.out.2; simp only [V.ofJ, V.wt] at this; omega
    have HAS := Lib.hid (ascii_any q (by unfold reachN; omega) w2)
    have HLW : Hid (∀ w1, Calls Tryz.prog 8 #[.string q] w1 (LowPost q w1)) := fun w1 => lower_any q (by unfold reachN; omega) w1
    have HAB : Hid ((∀ (i : Nat) ch, q.data.toList[i]? = some ch → ch.toNat < 128) → ∀ w1, Keep w w1 → Calls Tryz.prog 7 #[_, .slice (some ⟨b, o, none⟩) 2 c] w1 (Gives (.tuple #[.bool (boolOf (J.str q) [d0, d1]), .bool false]) w1)) := fun ha w1 hk => asBool_any (J.str q) HJK.out.1 ⟨by omega, ha⟩ [d0, d1] (by simp) (some ⟨b, o, none⟩) c hc _ w1 (RV.keep hk _ HH.out) (HBS.out.keep hk)
    simp only [V.ofJ, V.kind, V.n, V.f, V.s, V.l, V.keys, List.length_nil, V.ofJs_length, Bool.false_eq_true, if_true, if_false] at HAB
    clear hss
    go_wp2_with (go_at_call 6; refine (HAS.out).mono ?_; rintro e w3 ⟨z3, rfl, hz3, hx3⟩; have HZ3 := Lib.hid hz3; have HX3 := Lib.hid (HX2.out.trans hx3); have b0 := hx3.keep _ _ b0; have b1 := hx3.keep _ _ b1; have b2 := hx3.keep _ _ b2; have b3 := hx3.keep _ _ b3; have b4 := hx3.keep _ _ b4; have b5 := hx3.keep _ _ b5; have hd0 := hx3.keep _ _ hd0; have hd1 := hx3.keep _ _ hd1; clear hx3 HAS; cases z3)
    · go_ret
      exact .mk rfl HX3.out
    have HAB2 := Lib.hid (HAB.out (HZ3.out (by first | rfl | trivial)))
    clear HAB HZ3
    go_wp2_with (first
      | (go_at_call 7; refine (HAB2.out _ HX3.out.keep).mono ?_; rintro e w4 ⟨rfl, hx4⟩; have HX4 := Lib.hid (HX3.out.trans hx4); have b0 := hx4.keep _ _ b0; have b1 := hx4.keep _ _ b1; have b3 := hx4.keep _ _ b3; have hd0 := hx4.keep _ _ hd0; have hd1 := hx4.keep _ _ hd1; clear hx4 HAB2)
      | (go_at_call 8; refine (HLW.out _).mono ?_; rintro e w5 ⟨rr, rfl, hrr, hx5⟩; have HRR := Lib.hid hrr; have HX5 := Lib.hid (HX4.out.trans hx5); have b0 := hx5.keep _ _ b0; have b1 := hx5.keep _ _ b1; have b3 := hx5.keep _ _ b3; have hd0 := hx5.keep _ _ hd0; have hd1 := hx5.keep _ _ hd1; clear hx5 HLW; rcases str_split2 q rr hrr d0 d1 with ⟨rfl, hbo⟩ | ⟨rfl, hbo⟩ | ⟨⟨hn1, hn2⟩, hbo⟩; (all_goals (try (have hm1 : (rr.toList == [116, 114, 117, 101]) = false := beq_eq_false_iff_ne.2 hn1; have hm2 : (rr.toList == [102, 97, 108, 115, 101]) = false := beq_eq_false_iff_ne.2 hn2))); (all_goals rw [hbo]); (all_goals clear hrr hbo))
      | (go_at_call 9; refine (becomes_any _).mono ?_; rintro e w6 ⟨rfl, hx6⟩; have HX6 := Lib.hid hx6; clear hx6))
    all_goals go_ret
    all_goals exact .mk (by simp) (HX5.out.trans HX6.out)
  · have hd0 := HX2.out.keep _ _ hd0
    have hd1 := HX2.out.keep _ _ hd1
    have HAB : Hid (∀ w1, Keep w w1 → Calls Tryz.prog 7 #[_, .slice (some ⟨b, o, none⟩) 2 c] w1 (Gives (.tuple #[.bool (boolOf (J.arr q) [d0, d1]), .bool false]) w1)) := fun w1 hk => asBool_any (J.arr q) HJK.out.1 (by unfold AsciiS; trivial) [d0, d1] (by simp) (some ⟨b, o, none⟩) c hc _ w1 (RV.keep hk _ HH.out) (HBS.out.keep hk)
    simp only [V.ofJ, V.kind, V.n, V.f, V.s, V.l, V.keys, List.length_nil, V.ofJs_length, Bool.false_eq_true, if_true, if_false] at HAB
    go_wp2_with (first
      | (go_at_call 7; refine (HAB.out _ HX2.out.keep).mono ?_; rintro e w3 ⟨rfl, hx3⟩; have HX3 := Lib.hid hx3; have b0 := hx3.keep _ _ b0; have b1 := hx3.keep _ _ b1; have b3 := hx3.keep _ _ b3; have hd0 := hx3.keep _ _ hd0; have hd1 := hx3.keep _ _ hd1; clear hx3 HAB)
      | (go_at_call 9; refine (becomes_any _).mono ?_; rintro e w4 ⟨rfl, hx4⟩; have HX4 := Lib.hid hx4; clear hx4))
    all_goals go_ret
    all_goals exact .mk (by simp [boolOf]) (HX2.out.trans (HX3.out.trans HX4.out))
  · have hd0 := HX2.out.keep _ _ hd0
    have hd1 := HX2.out.keep _ _ hd1
    have HAB : Hid (∀ w1, Keep w w1 → Calls Tryz.prog 7 #[_, .slice (some ⟨b, o, none⟩) 2 c] w1 (Gives (.tuple #[.bool (boolOf (J.obj ks q) [d0, d1]), .bool false]) w1)) := fun w1 hk => asBool_any (J.obj ks q) HJK.out.1 (by unfold AsciiS; trivial) [d0, d1] (by simp) (some ⟨b, o, none⟩) c hc _ w1 (RV.keep hk _ HH.out) (HBS.out.keep hk)
    simp only [V.ofJ, V.kind, V.n, V.f, V.s, V.l, V.keys, List.length_nil, V.ofJs_length, Bool.false_eq_true, if_true, if_false] at HAB
    go_wp2_with (first
      | (go_at_call 7; refine (HAB.out _ HX2.out.keep).mono ?_; rintro e w3 ⟨rfl, hx3⟩; have HX3 := Lib.hid hx3; have b0 := hx3.keep _ _ b0; have b1 := hx3.keep _ _ b1; have b3 := hx3.keep _ _ b3; have hd0 := hx3.keep _ _ hd0; have hd1 := hx3.keep _ _ hd1; clear hx3 HAB)
      | (go_at_call 9; refine (becomes_any _).mono ?_; rintro e w4 ⟨rfl, hx4⟩; have HX4 := Lib.hid hx4; clear hx4))
    all_goals go_ret
    all_goals exact .mk (by simp [boolOf]) (HX2.out.trans (HX3.out.trans HX4.out))

end Go.Proofs.YtedhdkadpibaeaaGreatDoor
