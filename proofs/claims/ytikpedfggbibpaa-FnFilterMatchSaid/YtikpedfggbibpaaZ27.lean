/- Walks: diff, where a leaf is met. -/
import Derived.Test.YtikpedfggbibpaaZ26
import Derived.Maps.AppendAt
namespace Go.Proofs.Ytikpedfggbibpaa
open Go.RowKit Go.Lib
set_option linter.unusedVariables false
set_option linter.unusedSimpArgs false

theorem Try.infoAPath : (Try.prog.info? 86).map (fun i => (i.zero, i.size, i.bytes)) = some (some (.slice none 0 0), 1, 24) := by kernel_rfl

/-- an append of a path to what has been told -/
theorem wpList_push {ops : Array Oper} {rest : List Oper} {o : Oper} {a : Act} {Q : Exit → Act → World → Prop} (s x : Operand) (hgd : o.guard = none)
    (ho : o.op = .call { callee := .builtin .append, args := #[s, x], argTypes := #[84, 84] })
    (w w1 : World) (v : Value) (A D : List DI) (d : DI) (gd : Option Nat) (hP : DP w1 w.heap.size v A [d] D gd) (hX : Ext w w1) (hgl : ∀ g, gd = some g → g < w1.heap.size) (hA : A.length ≤ 1000000)
    (H : Nat) (hH : w1.heap.size = H) (hs : a.eval s = v) (hx : a.eval x = .slice (some ⟨H, 0, none⟩) 1 1)
    (h : ∀ g c w', DP w' w.heap.size (.slice (some ⟨g, 0, none⟩) (A.length + 1) c) (A ++ [d]) [] D gd → Ext w w' → w1.grownBy w' v.ownBlock → wpList Try.prog ops Q rest (a.put o.dst (.slice (some ⟨g, 0, none⟩) (A.length + 1) c)) w') :
    wpList Try.prog ops Q (o :: rest) a (w1.alloc (.cells #[dval d] 86)) := by
  obtain ⟨i0, hi, hz0, hz1, hz2⟩ := info_parts Try.infoAPath
  subst hH
  refine wpList_append_lies _ hgd s x 84 ho w.heap.size 86 i0 (.slice none 0 0) 1 24 Try.underlying84 hi hz0 hz1 hz2 rfl (by decide) v A.length (A.map dval) hs (hP.row.alloc _)
    ⟨w1.heap.size, 0, none⟩ 1 1 [dval d] hx rfl (cell_one_new _ _ _) (by intro u hu; simp at hu; subst hu; rfl) (by decide) (by unfold maxLen; omega) (by omega) (by have := hX.size; simp; omega) (w1.heap.size + 1) (by simp) ?_
  intro g c w' hown hgrow hat hlt
  have hgw : w1.grownBy w' v.ownBlock := by
    have := World.grownBy_alloc w1 (.cells #[dval d] 86) v.ownBlock
    exact this.andThen hgrow (fun j hj => Or.inr hj)
  refine h g c w' (hP.push hgw hown ?_) (hX.grown hgw hX.size (fun k hk => (hP.row.lt k hk).1)) hgw
  rcases hat with e | e
  · exact Or.inl e.symm
  · right
    intro k hk e2
    simp only [Value.ownBlock, Option.some.injEq] at e2
    have := hgl k hk
    omega

def DiffPost (n : Nat) (g : Ig) (a b : J) (w : World) (e : Ending) (w' : World) : Prop :=
  ∃ v ds, e = .returned v ∧ (ds.map (·.2.2)).Perm (difF n g a b) ∧ DP w' w.heap.size v ds [] [] none ∧ Ext w w'

theorem whole_fresh (w w2 : World) (hx : Ext w w2) : DP (w2.alloc (.cells #[.nilIface] 20)) w.heap.size (.slice none 0 0) [] [(w2.heap.size, 1, [])] [] none :=
  DP.first (DP.nil w2 _) ((Ext.refl w2).alloc _) (own_fresh w2 0 20 1 [.nilIface] (Nat.zero_le _) rfl) (Nat.le_refl _) hx.size
theorem diff_same {n : Nat} {g : Ig} {a b : J} {w w' : World} (h : difF n g a b = []) (hx : Ext w w') : DiffPost n g a b w (.returned (.slice none 0 0)) w' :=
  ⟨_, [], rfl, by rw [h]; exact List.Perm.refl _, DP.nil _ _, hx⟩
theorem diff_other {n : Nat} {g : Ig} {a b : J} {w w' : World} {g9 c9 d9 : Nat} (h : difF n g a b = [[]]) (hd : DP w' w.heap.size (.slice (some ⟨g9, 0, none⟩) (([] : List DI).length + 1) c9) ([] ++ [(d9, 1, [])]) [] [] none) (hx : Ext w w') : DiffPost n g a b w (.returned (.slice (some ⟨g9, 0, none⟩) (0 + 1) c9)) w' :=
  ⟨_, [(d9, 1, [])], rfl, by rw [h]; exact List.Perm.refl _, hd, hx⟩

set_option maxRecDepth 100000 in
set_option maxHeartbeats 4000000 in
theorem diff_null (n : Nat) (g : Ig) (b : J) (hb : b.nofl) (vb vg : Value) (w : World) (h : RA w 0 b vb) :
    Calls Try.prog 92 #[.nilIface, vb, .bool false, vg] w (DiffPost (n + 1) g .null b w) := by
  cases b with
  | flt b => unfold J.nofl at hb; exact hb.elim
  | null =>
    unfold RA at h; subst h; clear hb
    go_enter Try.func92, Try.ntmps92
    go_wp2
    go_ret
    exact diff_same rfl (.refl _)
  | bool c =>
    unfold RA at h; subst h; clear hb
    go_enter Try.func92, Try.ntmps92
    go_wp2_with (at_builtin; refine wpList_push (.tmp 64) (.tmp 66) rfl rfl w _ (.slice none 0 0) [] [] (w.heap.size, 1, []) none (whole_fresh w w (Ext.refl w)) ((Ext.refl w).alloc _) (by intro g hg; cases hg) (by simp) (w.heap.size + 1) (by simp) rfl rfl ?_; intro g9 c9 w9 hd hx hgw; have HD := Lib.hid hd; have HX := Lib.hid hx; clear hd hx hgw)
    go_ret
    exact diff_other rfl HD.out HX.out
  | int c =>
    unfold RA at h; subst h; clear hb
    go_enter Try.func92, Try.ntmps92
    go_wp2_with (at_builtin; refine wpList_push (.tmp 64) (.tmp 66) rfl rfl w _ (.slice none 0 0) [] [] (w.heap.size, 1, []) none (whole_fresh w w (Ext.refl w)) ((Ext.refl w).alloc _) (by intro g hg; cases hg) (by simp) (w.heap.size + 1) (by simp) rfl rfl ?_; intro g9 c9 w9 hd hx hgw; have HD := Lib.hid hd; have HX := Lib.hid hx; clear hd hx hgw)
    go_ret
    exact diff_other rfl HD.out HX.out
  | str c =>
    unfold RA at h; subst h; clear hb
    go_enter Try.func92, Try.ntmps92
    go_wp2_with (at_builtin; refine wpList_push (.tmp 64) (.tmp 66) rfl rfl w _ (.slice none 0 0) [] [] (w.heap.size, 1, []) none (whole_fresh w w (Ext.refl w)) ((Ext.refl w).alloc _) (by intro g hg; cases hg) (by simp) (w.heap.size + 1) (by simp) rfl rfl ?_; intro g9 c9 w9 hd hx hgw; have HD := Lib.hid hd; have HX := Lib.hid hx; clear hd hx hgw)
    go_ret
    exact diff_other rfl HD.out HX.out
  | arr m =>
    unfold RA at h; obtain ⟨bb, cap, rfl, _⟩ := h; clear hb
    go_enter Try.func92, Try.ntmps92
    go_wp2_with (at_builtin; refine wpList_push (.tmp 64) (.tmp 66) rfl rfl w _ (.slice none 0 0) [] [] (w.heap.size, 1, []) none (whole_fresh w w (Ext.refl w)) ((Ext.refl w).alloc _) (by intro g hg; cases hg) (by simp) (w.heap.size + 1) (by simp) rfl rfl ?_; intro g9 c9 w9 hd hx hgw; have HD := Lib.hid hd; have HX := Lib.hid hx; clear hd hx hgw)
    go_ret
    exact diff_other rfl HD.out HX.out
  | obj ks m =>
    unfold RA at h; obtain ⟨bb, es, rfl, _⟩ := h; clear hb
    go_enter Try.func92, Try.ntmps92
    go_wp2_with (at_builtin; refine wpList_push (.tmp 64) (.tmp 66) rfl rfl w _ (.slice none 0 0) [] [] (w.heap.size, 1, []) none (whole_fresh w w (Ext.refl w)) ((Ext.refl w).alloc _) (by intro g hg; cases hg) (by simp) (w.heap.size + 1) (by simp) rfl rfl ?_; intro g9 c9 w9 hd hx hgw; have HD := Lib.hid hd; have HX := Lib.hid hx; clear hd hx hgw)
    go_ret
    exact diff_other rfl HD.out HX.out

set_option maxRecDepth 100000 in
set_option maxHeartbeats 4000000 in
theorem diff_bool (n : Nat) (g : Ig) (x : Bool) (b : J) (hb : b.nofl) (vb vg : Value) (w : World) (h : RA w 0 b vb) :
    Calls Try.prog 92 #[.iface 4 (.bool x), vb, .bool false, vg] w (DiffPost (n + 1) g (.bool x) b w) := by
  cases b with
  | flt b => unfold J.nofl at hb; exact hb.elim
  | null =>
    unfold RA at h; subst h; clear hb
    go_enter Try.func92, Try.ntmps92
    go_wp2_with (at_builtin; refine wpList_push (.tmp 83) (.tmp 85) rfl rfl w _ (.slice none 0 0) [] [] (w.heap.size, 1, []) none (whole_fresh w w (Ext.refl w)) ((Ext.refl w).alloc _) (by intro g hg; cases hg) (by simp) (w.heap.size + 1) (by simp) rfl rfl ?_; intro g9 c9 w9 hd hx hgw; have HD := Lib.hid hd; have HX := Lib.hid hx; clear hd hx hgw)
    go_ret
    exact diff_other rfl HD.out HX.out
  | bool c =>
    unfold RA at h; subst h; clear hb
    cases x <;> cases c
    · go_enter Try.func92, Try.ntmps92
      go_wp2
      go_ret
      exact diff_same rfl (.refl _)
    · go_enter Try.func92, Try.ntmps92
      go_wp2_with (at_builtin; refine wpList_push (.tmp 83) (.tmp 85) rfl rfl w _ (.slice none 0 0) [] [] (w.heap.size, 1, []) none (whole_fresh w w (Ext.refl w)) ((Ext.refl w).alloc _) (by intro g hg; cases hg) (by simp) (w.heap.size + 1) (by simp) rfl rfl ?_; intro g9 c9 w9 hd hx hgw; have HD := Lib.hid hd; have HX := Lib.hid hx; clear hd hx hgw)
      go_ret
      exact diff_other rfl HD.out HX.out
    · go_enter Try.func92, Try.ntmps92
      go_wp2_with (at_builtin; refine wpList_push (.tmp 83) (.tmp 85) rfl rfl w _ (.slice none 0 0) [] [] (w.heap.size, 1, []) none (whole_fresh w w (Ext.refl w)) ((Ext.refl w).alloc _) (by intro g hg; cases hg) (by simp) (w.heap.size + 1) (by simp) rfl rfl ?_; intro g9 c9 w9 hd hx hgw; have HD := Lib.hid hd; have HX := Lib.hid hx; clear hd hx hgw)
      go_ret
      exact diff_other rfl HD.out HX.out
    · go_enter Try.func92, Try.ntmps92
      go_wp2
      go_ret
      exact diff_same rfl (.refl _)
  | int c =>
    unfold RA at h; subst h; clear hb
    go_enter Try.func92, Try.ntmps92
    go_wp2_with (at_builtin; refine wpList_push (.tmp 83) (.tmp 85) rfl rfl w _ (.slice none 0 0) [] [] (w.heap.size, 1, []) none (whole_fresh w w (Ext.refl w)) ((Ext.refl w).alloc _) (by intro g hg; cases hg) (by simp) (w.heap.size + 1) (by simp) rfl rfl ?_; intro g9 c9 w9 hd hx hgw; have HD := Lib.hid hd; have HX := Lib.hid hx; clear hd hx hgw)
    go_ret
    exact diff_other rfl HD.out HX.out
  | str c =>
    unfold RA at h; subst h; clear hb
    go_enter Try.func92, Try.ntmps92
    go_wp2_with (at_builtin; refine wpList_push (.tmp 83) (.tmp 85) rfl rfl w _ (.slice none 0 0) [] [] (w.heap.size, 1, []) none (whole_fresh w w (Ext.refl w)) ((Ext.refl w).alloc _) (by intro g hg; cases hg) (by simp) (w.heap.size + 1) (by simp) rfl rfl ?_; intro g9 c9 w9 hd hx hgw; have HD := Lib.hid hd; have HX := Lib.hid hx; clear hd hx hgw)
    go_ret
    exact diff_other rfl HD.out HX.out
  | arr m =>
    unfold RA at h; obtain ⟨bb, cap, rfl, _⟩ := h; clear hb
    go_enter Try.func92, Try.ntmps92
    go_wp2_with (at_builtin; refine wpList_push (.tmp 83) (.tmp 85) rfl rfl w _ (.slice none 0 0) [] [] (w.heap.size, 1, []) none (whole_fresh w w (Ext.refl w)) ((Ext.refl w).alloc _) (by intro g hg; cases hg) (by simp) (w.heap.size + 1) (by simp) rfl rfl ?_; intro g9 c9 w9 hd hx hgw; have HD := Lib.hid hd; have HX := Lib.hid hx; clear hd hx hgw)
    go_ret
    exact diff_other rfl HD.out HX.out
  | obj ks m =>
    unfold RA at h; obtain ⟨bb, es, rfl, _⟩ := h; clear hb
    go_enter Try.func92, Try.ntmps92
    go_wp2_with (at_builtin; refine wpList_push (.tmp 83) (.tmp 85) rfl rfl w _ (.slice none 0 0) [] [] (w.heap.size, 1, []) none (whole_fresh w w (Ext.refl w)) ((Ext.refl w).alloc _) (by intro g hg; cases hg) (by simp) (w.heap.size + 1) (by simp) rfl rfl ?_; intro g9 c9 w9 hd hx hgw; have HD := Lib.hid hd; have HX := Lib.hid hx; clear hd hx hgw)
    go_ret
    exact diff_other rfl HD.out HX.out

set_option maxRecDepth 100000 in
set_option maxHeartbeats 4000000 in
theorem diff_int (n : Nat) (g : Ig) (x : Int) (b : J) (hb : b.nofl) (vb vg : Value) (w : World) (h : RA w 0 b vb) :
    Calls Try.prog 92 #[.iface 2 (.int .i64 x), vb, .bool false, vg] w (DiffPost (n + 1) g (.int x) b w) := by
  cases b with
  | flt b => unfold J.nofl at hb; exact hb.elim
  | null =>
    have h0 := h
    unfold RA at h0
    subst h0
    have H1 : Hid (Calls Try.prog 83 #[.iface 2 (.int .i64 x)] w (Gives (.tuple #[.int .i64 x, .bool true]) w)) := asInt_any 0 (.int x) (by unfold J.nofl; trivial) (.iface 2 (.int .i64 x)) w (by unfold RA; rfl)
    have H2 : Hid (∀ w1, Ext w w1 → Calls Try.prog 83 #[(.nilIface)] w1 (Gives (.tuple #[.int .i64 0, .bool false]) w1)) := fun w1 he => asInt_any 0 J.null hb (.nilIface) w1 (RA.keep (he.keepB.from 0) (Nat.le_refl _) _ h)
    clear hb h
    go_enter Try.func92, Try.ntmps92
    go_wp2_with (first
      | (go_at_call 83; refine (H1.out).mono ?_; rintro e w1 ⟨rfl, hx1⟩; have X1 := Lib.hid hx1; clear hx1 H1)
      | (go_at_call 83; refine (H2.out _ X1.out).mono ?_; rintro e w2 ⟨rfl, hx2⟩; have X2 := Lib.hid (Ext.trans X1.out hx2); clear hx2 H2)
      | (at_builtin; refine wpList_push (.tmp 143) (.tmp 145) rfl rfl w _ (.slice none 0 0) [] [] (w2.heap.size, 1, []) none (whole_fresh w w2 X2.out) (X2.out.alloc _) (by intro g hg; cases hg) (by simp) (w2.heap.size + 1) (by simp) rfl rfl ?_; intro g9 c9 w9 hd hx hgw; have HD := Lib.hid hd; have HX := Lib.hid hx; clear hd hx hgw))
    go_ret
    exact diff_other rfl HD.out HX.out
  | bool c =>
    have h0 := h
    unfold RA at h0
    subst h0
    have H1 : Hid (Calls Try.prog 83 #[.iface 2 (.int .i64 x)] w (Gives (.tuple #[.int .i64 x, .bool true]) w)) := asInt_any 0 (.int x) (by unfold J.nofl; trivial) (.iface 2 (.int .i64 x)) w (by unfold RA; rfl)
    have H2 : Hid (∀ w1, Ext w w1 → Calls Try.prog 83 #[(.iface 4 (.bool c))] w1 (Gives (.tuple #[.int .i64 0, .bool false]) w1)) := fun w1 he => asInt_any 0 (J.bool c) hb (.iface 4 (.bool c)) w1 (RA.keep (he.keepB.from 0) (Nat.le_refl _) _ h)
    clear hb h
    go_enter Try.func92, Try.ntmps92
    go_wp2_with (first
      | (go_at_call 83; refine (H1.out).mono ?_; rintro e w1 ⟨rfl, hx1⟩; have X1 := Lib.hid hx1; clear hx1 H1)
      | (go_at_call 83; refine (H2.out _ X1.out).mono ?_; rintro e w2 ⟨rfl, hx2⟩; have X2 := Lib.hid (Ext.trans X1.out hx2); clear hx2 H2)
      | (at_builtin; refine wpList_push (.tmp 143) (.tmp 145) rfl rfl w _ (.slice none 0 0) [] [] (w2.heap.size, 1, []) none (whole_fresh w w2 X2.out) (X2.out.alloc _) (by intro g hg; cases hg) (by simp) (w2.heap.size + 1) (by simp) rfl rfl ?_; intro g9 c9 w9 hd hx hgw; have HD := Lib.hid hd; have HX := Lib.hid hx; clear hd hx hgw))
    go_ret
    exact diff_other rfl HD.out HX.out
  | int c =>
    have h0 := h
    unfold RA at h0
    subst h0
    by_cases hn : x = c
    · subst hn
      have H1 : Hid (Calls Try.prog 83 #[.iface 2 (.int .i64 x)] w (Gives (.tuple #[.int .i64 x, .bool true]) w)) := asInt_any 0 (.int x) (by unfold J.nofl; trivial) (.iface 2 (.int .i64 x)) w (by unfold RA; rfl)
      have H2 : Hid (∀ w1, Ext w w1 → Calls Try.prog 83 #[(.iface 2 (.int .i64 x))] w1 (Gives (.tuple #[.int .i64 x, .bool true]) w1)) := fun w1 he => asInt_any 0 (J.int x) hb (.iface 2 (.int .i64 x)) w1 (RA.keep (he.keepB.from 0) (Nat.le_refl _) _ h)
      clear hb h
      go_enter Try.func92, Try.ntmps92
      go_wp2_with (first
        | (go_at_call 83; refine (H1.out).mono ?_; rintro e w1 ⟨rfl, hx1⟩; have X1 := Lib.hid hx1; clear hx1 H1)
        | (go_at_call 83; refine (H2.out _ X1.out).mono ?_; rintro e w2 ⟨rfl, hx2⟩; have X2 := Lib.hid (Ext.trans X1.out hx2); clear hx2 H2))
      go_ret
      exact diff_same (by simp [difF, leafEq]) X2.out
    · have hn2 : (x == c) = false := by simp [hn]
      have hn3 : (x != c) = true := by simp [hn]
      have HN : Hid (¬ x = c) := hn
      have H1 : Hid (Calls Try.prog 83 #[.iface 2 (.int .i64 x)] w (Gives (.tuple #[.int .i64 x, .bool true]) w)) := asInt_any 0 (.int x) (by unfold J.nofl; trivial) (.iface 2 (.int .i64 x)) w (by unfold RA; rfl)
      have H2 : Hid (∀ w1, Ext w w1 → Calls Try.prog 83 #[(.iface 2 (.int .i64 c))] w1 (Gives (.tuple #[.int .i64 c, .bool true]) w1)) := fun w1 he => asInt_any 0 (J.int c) hb (.iface 2 (.int .i64 c)) w1 (RA.keep (he.keepB.from 0) (Nat.le_refl _) _ h)
      clear hb h
      go_enter Try.func92, Try.ntmps92
      go_wp2_with (first
        | (go_at_call 83; refine (H1.out).mono ?_; rintro e w1 ⟨rfl, hx1⟩; have X1 := Lib.hid hx1; clear hx1 H1)
        | (go_at_call 83; refine (H2.out _ X1.out).mono ?_; rintro e w2 ⟨rfl, hx2⟩; have X2 := Lib.hid (Ext.trans X1.out hx2); clear hx2 H2)
        | (at_builtin; refine wpList_push (.tmp 143) (.tmp 145) rfl rfl w _ (.slice none 0 0) [] [] (w2.heap.size, 1, []) none (whole_fresh w w2 X2.out) (X2.out.alloc _) (by intro g hg; cases hg) (by simp) (w2.heap.size + 1) (by simp) rfl rfl ?_; intro g9 c9 w9 hd hx hgw; have HD := Lib.hid hd; have HX := Lib.hid hx; clear hd hx hgw))
      go_ret
      exact diff_other (by simp [difF, leafEq, HN.out]) HD.out HX.out
  | str c =>
    have h0 := h
    unfold RA at h0
    subst h0
    have H1 : Hid (Calls Try.prog 83 #[.iface 2 (.int .i64 x)] w (Gives (.tuple #[.int .i64 x, .bool true]) w)) := asInt_any 0 (.int x) (by unfold J.nofl; trivial) (.iface 2 (.int .i64 x)) w (by unfold RA; rfl)
    have H2 : Hid (∀ w1, Ext w w1 → Calls Try.prog 83 #[(.iface 9 (.string c))] w1 (Gives (.tuple #[.int .i64 0, .bool false]) w1)) := fun w1 he => asInt_any 0 (J.str c) hb (.iface 9 (.string c)) w1 (RA.keep (he.keepB.from 0) (Nat.le_refl _) _ h)
    clear hb h
    go_enter Try.func92, Try.ntmps92
    go_wp2_with (first
      | (go_at_call 83; refine (H1.out).mono ?_; rintro e w1 ⟨rfl, hx1⟩; have X1 := Lib.hid hx1; clear hx1 H1)
      | (go_at_call 83; refine (H2.out _ X1.out).mono ?_; rintro e w2 ⟨rfl, hx2⟩; have X2 := Lib.hid (Ext.trans X1.out hx2); clear hx2 H2)
      | (at_builtin; refine wpList_push (.tmp 143) (.tmp 145) rfl rfl w _ (.slice none 0 0) [] [] (w2.heap.size, 1, []) none (whole_fresh w w2 X2.out) (X2.out.alloc _) (by intro g hg; cases hg) (by simp) (w2.heap.size + 1) (by simp) rfl rfl ?_; intro g9 c9 w9 hd hx hgw; have HD := Lib.hid hd; have HX := Lib.hid hx; clear hd hx hgw))
    go_ret
    exact diff_other rfl HD.out HX.out
  | arr m =>
    have h0 := h
    unfold RA at h0
    obtain ⟨bb, cap, rfl, _⟩ := h0
    have H1 : Hid (Calls Try.prog 83 #[.iface 2 (.int .i64 x)] w (Gives (.tuple #[.int .i64 x, .bool true]) w)) := asInt_any 0 (.int x) (by unfold J.nofl; trivial) (.iface 2 (.int .i64 x)) w (by unfold RA; rfl)
    have H2 : Hid (∀ w1, Ext w w1 → Calls Try.prog 83 #[(.iface 85 (.slice (some ⟨bb, 0, none⟩) m.length cap))] w1 (Gives (.tuple #[.int .i64 0, .bool false]) w1)) := fun w1 he => asInt_any 0 (J.arr m) hb (.iface 85 (.slice (some ⟨bb, 0, none⟩) m.length cap)) w1 (RA.keep (he.keepB.from 0) (Nat.le_refl _) _ h)
    clear hb h
    go_enter Try.func92, Try.ntmps92
    go_wp2_with (first
      | (go_at_call 83; refine (H1.out).mono ?_; rintro e w1 ⟨rfl, hx1⟩; have X1 := Lib.hid hx1; clear hx1 H1)
      | (go_at_call 83; refine (H2.out _ X1.out).mono ?_; rintro e w2 ⟨rfl, hx2⟩; have X2 := Lib.hid (Ext.trans X1.out hx2); clear hx2 H2)
      | (at_builtin; refine wpList_push (.tmp 143) (.tmp 145) rfl rfl w _ (.slice none 0 0) [] [] (w2.heap.size, 1, []) none (whole_fresh w w2 X2.out) (X2.out.alloc _) (by intro g hg; cases hg) (by simp) (w2.heap.size + 1) (by simp) rfl rfl ?_; intro g9 c9 w9 hd hx hgw; have HD := Lib.hid hd; have HX := Lib.hid hx; clear hd hx hgw))
    go_ret
    exact diff_other rfl HD.out HX.out
  | obj ks m =>
    have h0 := h
    unfold RA at h0
    obtain ⟨bb, es, rfl, _⟩ := h0
    have H1 : Hid (Calls Try.prog 83 #[.iface 2 (.int .i64 x)] w (Gives (.tuple #[.int .i64 x, .bool true]) w)) := asInt_any 0 (.int x) (by unfold J.nofl; trivial) (.iface 2 (.int .i64 x)) w (by unfold RA; rfl)
    have H2 : Hid (∀ w1, Ext w w1 → Calls Try.prog 83 #[(.iface 77 (.map (some bb)))] w1 (Gives (.tuple #[.int .i64 0, .bool false]) w1)) := fun w1 he => asInt_any 0 (J.obj ks m) hb (.iface 77 (.map (some bb))) w1 (RA.keep (he.keepB.from 0) (Nat.le_refl _) _ h)
    clear hb h
    go_enter Try.func92, Try.ntmps92
    go_wp2_with (first
      | (go_at_call 83; refine (H1.out).mono ?_; rintro e w1 ⟨rfl, hx1⟩; have X1 := Lib.hid hx1; clear hx1 H1)
      | (go_at_call 83; refine (H2.out _ X1.out).mono ?_; rintro e w2 ⟨rfl, hx2⟩; have X2 := Lib.hid (Ext.trans X1.out hx2); clear hx2 H2)
      | (at_builtin; refine wpList_push (.tmp 143) (.tmp 145) rfl rfl w _ (.slice none 0 0) [] [] (w2.heap.size, 1, []) none (whole_fresh w w2 X2.out) (X2.out.alloc _) (by intro g hg; cases hg) (by simp) (w2.heap.size + 1) (by simp) rfl rfl ?_; intro g9 c9 w9 hd hx hgw; have HD := Lib.hid hd; have HX := Lib.hid hx; clear hd hx hgw))
    go_ret
    exact diff_other rfl HD.out HX.out

set_option maxRecDepth 100000 in
set_option maxHeartbeats 4000000 in
theorem diff_str (n : Nat) (g : Ig) (x : ByteArray) (b : J) (hb : b.nofl) (vb vg : Value) (w : World) (h : RA w 0 b vb) :
    Calls Try.prog 92 #[.iface 9 (.string x), vb, .bool false, vg] w (DiffPost (n + 1) g (.str x) b w) := by
  cases b with
  | flt b => unfold J.nofl at hb; exact hb.elim
  | null =>
    unfold RA at h; subst h; clear hb
    go_enter Try.func92, Try.ntmps92
    go_wp2_with (at_builtin; refine wpList_push (.tmp 190) (.tmp 192) rfl rfl w _ (.slice none 0 0) [] [] (w.heap.size, 1, []) none (whole_fresh w w (Ext.refl w)) ((Ext.refl w).alloc _) (by intro g hg; cases hg) (by simp) (w.heap.size + 1) (by simp) rfl rfl ?_; intro g9 c9 w9 hd hx hgw; have HD := Lib.hid hd; have HX := Lib.hid hx; clear hd hx hgw)
    go_ret
    exact diff_other rfl HD.out HX.out
  | bool c =>
    unfold RA at h; subst h; clear hb
    go_enter Try.func92, Try.ntmps92
    go_wp2_with (at_builtin; refine wpList_push (.tmp 190) (.tmp 192) rfl rfl w _ (.slice none 0 0) [] [] (w.heap.size, 1, []) none (whole_fresh w w (Ext.refl w)) ((Ext.refl w).alloc _) (by intro g hg; cases hg) (by simp) (w.heap.size + 1) (by simp) rfl rfl ?_; intro g9 c9 w9 hd hx hgw; have HD := Lib.hid hd; have HX := Lib.hid hx; clear hd hx hgw)
    go_ret
    exact diff_other rfl HD.out HX.out
  | int c =>
    unfold RA at h; subst h; clear hb
    go_enter Try.func92, Try.ntmps92
    go_wp2_with (at_builtin; refine wpList_push (.tmp 190) (.tmp 192) rfl rfl w _ (.slice none 0 0) [] [] (w.heap.size, 1, []) none (whole_fresh w w (Ext.refl w)) ((Ext.refl w).alloc _) (by intro g hg; cases hg) (by simp) (w.heap.size + 1) (by simp) rfl rfl ?_; intro g9 c9 w9 hd hx hgw; have HD := Lib.hid hd; have HX := Lib.hid hx; clear hd hx hgw)
    go_ret
    exact diff_other rfl HD.out HX.out
  | str c =>
    unfold RA at h; subst h; clear hb
    by_cases hn : x = c
    · subst hn
      go_enter Try.func92, Try.ntmps92
      go_wp2
      go_ret
      exact diff_same (by simp [difF, leafEq]) (.refl _)
    · have HN : Hid (¬ x = c) := hn
      go_enter Try.func92, Try.ntmps92
      go_wp2_with (at_builtin; refine wpList_push (.tmp 190) (.tmp 192) rfl rfl w _ (.slice none 0 0) [] [] (w.heap.size, 1, []) none (whole_fresh w w (Ext.refl w)) ((Ext.refl w).alloc _) (by intro g hg; cases hg) (by simp) (w.heap.size + 1) (by simp) rfl rfl ?_; intro g9 c9 w9 hd hx hgw; have HD := Lib.hid hd; have HX := Lib.hid hx; clear hd hx hgw)
      all_goals go_ret
      all_goals first | exact diff_other (by simp [difF, leafEq, HN.out]) HD.out HX.out | (exfalso; have hx : (!x.toList == c.toList) = false := (by assumption); have h2 := bytes_beq x c; have h3 : decide (x = c) = false := (by simp [hn]); rw [h3] at h2; rw [h2] at hx; exact absurd hx (by decide))
  | arr m =>
    unfold RA at h; obtain ⟨bb, cap, rfl, _⟩ := h; clear hb
    go_enter Try.func92, Try.ntmps92
    go_wp2_with (at_builtin; refine wpList_push (.tmp 190) (.tmp 192) rfl rfl w _ (.slice none 0 0) [] [] (w.heap.size, 1, []) none (whole_fresh w w (Ext.refl w)) ((Ext.refl w).alloc _) (by intro g hg; cases hg) (by simp) (w.heap.size + 1) (by simp) rfl rfl ?_; intro g9 c9 w9 hd hx hgw; have HD := Lib.hid hd; have HX := Lib.hid hx; clear hd hx hgw)
    go_ret
    exact diff_other rfl HD.out HX.out
  | obj ks m =>
    unfold RA at h; obtain ⟨bb, es, rfl, _⟩ := h; clear hb
    go_enter Try.func92, Try.ntmps92
    go_wp2_with (at_builtin; refine wpList_push (.tmp 190) (.tmp 192) rfl rfl w _ (.slice none 0 0) [] [] (w.heap.size, 1, []) none (whole_fresh w w (Ext.refl w)) ((Ext.refl w).alloc _) (by intro g hg; cases hg) (by simp) (w.heap.size + 1) (by simp) rfl rfl ?_; intro g9 c9 w9 hd hx hgw; have HD := Lib.hid hd; have HX := Lib.hid hx; clear hd hx hgw)
    go_ret
    exact diff_other rfl HD.out HX.out

set_option maxRecDepth 100000 in
set_option maxHeartbeats 4000000 in
theorem diff_arrx (n : Nat) (g : Ig) (l : List J) (bb0 c0 : Nat) (b : J) (hb : b.nofl) (hne : ∀ m, b ≠ .arr m) (vb vg : Value) (w : World) (h : RA w 0 b vb) :
    Calls Try.prog 92 #[.iface 85 (.slice (some ⟨bb0, 0, none⟩) l.length c0), vb, .bool false, vg] w (DiffPost (n + 1) g (.arr l) b w) := by
  cases b with
  | flt b => unfold J.nofl at hb; exact hb.elim
  | null =>
    clear hne
    unfold RA at h; subst h; clear hb
    go_enter Try.func92, Try.ntmps92
    go_wp2_with (at_builtin; refine wpList_push (.tmp 204) (.tmp 206) rfl rfl w _ (.slice none 0 0) [] [] (w.heap.size, 1, []) none (whole_fresh w w (Ext.refl w)) ((Ext.refl w).alloc _) (by intro g hg; cases hg) (by simp) (w.heap.size + 1) (by simp) rfl rfl ?_; intro g9 c9 w9 hd hx hgw; have HD := Lib.hid hd; have HX := Lib.hid hx; clear hd hx hgw)
    go_ret
    exact diff_other rfl HD.out HX.out
  | bool c =>
    clear hne
    unfold RA at h; subst h; clear hb
    go_enter Try.func92, Try.ntmps92
    go_wp2_with (at_builtin; refine wpList_push (.tmp 204) (.tmp 206) rfl rfl w _ (.slice none 0 0) [] [] (w.heap.size, 1, []) none (whole_fresh w w (Ext.refl w)) ((Ext.refl w).alloc _) (by intro g hg; cases hg) (by simp) (w.heap.size + 1) (by simp) rfl rfl ?_; intro g9 c9 w9 hd hx hgw; have HD := Lib.hid hd; have HX := Lib.hid hx; clear hd hx hgw)
    go_ret
    exact diff_other rfl HD.out HX.out
  | int c =>
    clear hne
    unfold RA at h; subst h; clear hb
    go_enter Try.func92, Try.ntmps92
    go_wp2_with (at_builtin; refine wpList_push (.tmp 204) (.tmp 206) rfl rfl w _ (.slice none 0 0) [] [] (w.heap.size, 1, []) none (whole_fresh w w (Ext.refl w)) ((Ext.refl w).alloc _) (by intro g hg; cases hg) (by simp) (w.heap.size + 1) (by simp) rfl rfl ?_; intro g9 c9 w9 hd hx hgw; have HD := Lib.hid hd; have HX := Lib.hid hx; clear hd hx hgw)
    go_ret
    exact diff_other rfl HD.out HX.out
  | str c =>
    clear hne
    unfold RA at h; subst h; clear hb
    go_enter Try.func92, Try.ntmps92
    go_wp2_with (at_builtin; refine wpList_push (.tmp 204) (.tmp 206) rfl rfl w _ (.slice none 0 0) [] [] (w.heap.size, 1, []) none (whole_fresh w w (Ext.refl w)) ((Ext.refl w).alloc _) (by intro g hg; cases hg) (by simp) (w.heap.size + 1) (by simp) rfl rfl ?_; intro g9 c9 w9 hd hx hgw; have HD := Lib.hid hd; have HX := Lib.hid hx; clear hd hx hgw)
    go_ret
    exact diff_other rfl HD.out HX.out
  | arr m =>
    exact absurd rfl (hne _)
  | obj ks m =>
    clear hne
    unfold RA at h; obtain ⟨bb, es, rfl, _⟩ := h; clear hb
    go_enter Try.func92, Try.ntmps92
    go_wp2_with (at_builtin; refine wpList_push (.tmp 204) (.tmp 206) rfl rfl w _ (.slice none 0 0) [] [] (w.heap.size, 1, []) none (whole_fresh w w (Ext.refl w)) ((Ext.refl w).alloc _) (by intro g hg; cases hg) (by simp) (w.heap.size + 1) (by simp) rfl rfl ?_; intro g9 c9 w9 hd hx hgw; have HD := Lib.hid hd; have HX := Lib.hid hx; clear hd hx hgw)
    go_ret
    exact diff_other rfl HD.out HX.out

set_option maxRecDepth 100000 in
set_option maxHeartbeats 4000000 in
theorem diff_objx (n : Nat) (g : Ig) (ks0 : List ByteArray) (l : List J) (bb0 : Nat) (b : J) (hb : b.nofl) (hne : ∀ ks m, b ≠ .obj ks m) (vb vg : Value) (w : World) (h : RA w 0 b vb) :
    Calls Try.prog 92 #[.iface 77 (.map (some bb0)), vb, .bool false, vg] w (DiffPost (n + 1) g (.obj ks0 l) b w) := by
  cases b with
  | flt b => unfold J.nofl at hb; exact hb.elim
  | null =>
    clear hne
    unfold RA at h; subst h; clear hb
    go_enter Try.func92, Try.ntmps92
    go_wp2_with (at_builtin; refine wpList_push (.tmp 338) (.tmp 340) rfl rfl w _ (.slice none 0 0) [] [] (w.heap.size, 1, []) none (whole_fresh w w (Ext.refl w)) ((Ext.refl w).alloc _) (by intro g hg; cases hg) (by simp) (w.heap.size + 1) (by simp) rfl rfl ?_; intro g9 c9 w9 hd hx hgw; have HD := Lib.hid hd; have HX := Lib.hid hx; clear hd hx hgw)
    go_ret
    exact diff_other rfl HD.out HX.out
  | bool c =>
    clear hne
    unfold RA at h; subst h; clear hb
    go_enter Try.func92, Try.ntmps92
    go_wp2_with (at_builtin; refine wpList_push (.tmp 338) (.tmp 340) rfl rfl w _ (.slice none 0 0) [] [] (w.heap.size, 1, []) none (whole_fresh w w (Ext.refl w)) ((Ext.refl w).alloc _) (by intro g hg; cases hg) (by simp) (w.heap.size + 1) (by simp) rfl rfl ?_; intro g9 c9 w9 hd hx hgw; have HD := Lib.hid hd; have HX := Lib.hid hx; clear hd hx hgw)
    go_ret
    exact diff_other rfl HD.out HX.out
  | int c =>
    clear hne
    unfold RA at h; subst h; clear hb
    go_enter Try.func92, Try.ntmps92
    go_wp2_with (at_builtin; refine wpList_push (.tmp 338) (.tmp 340) rfl rfl w _ (.slice none 0 0) [] [] (w.heap.size, 1, []) none (whole_fresh w w (Ext.refl w)) ((Ext.refl w).alloc _) (by intro g hg; cases hg) (by simp) (w.heap.size + 1) (by simp) rfl rfl ?_; intro g9 c9 w9 hd hx hgw; have HD := Lib.hid hd; have HX := Lib.hid hx; clear hd hx hgw)
    go_ret
    exact diff_other rfl HD.out HX.out
  | str c =>
    clear hne
    unfold RA at h; subst h; clear hb
    go_enter Try.func92, Try.ntmps92
    go_wp2_with (at_builtin; refine wpList_push (.tmp 338) (.tmp 340) rfl rfl w _ (.slice none 0 0) [] [] (w.heap.size, 1, []) none (whole_fresh w w (Ext.refl w)) ((Ext.refl w).alloc _) (by intro g hg; cases hg) (by simp) (w.heap.size + 1) (by simp) rfl rfl ?_; intro g9 c9 w9 hd hx hgw; have HD := Lib.hid hd; have HX := Lib.hid hx; clear hd hx hgw)
    go_ret
    exact diff_other rfl HD.out HX.out
  | arr m =>
    clear hne
    unfold RA at h; obtain ⟨bb, cap, rfl, _⟩ := h; clear hb
    go_enter Try.func92, Try.ntmps92
    go_wp2_with (at_builtin; refine wpList_push (.tmp 338) (.tmp 340) rfl rfl w _ (.slice none 0 0) [] [] (w.heap.size, 1, []) none (whole_fresh w w (Ext.refl w)) ((Ext.refl w).alloc _) (by intro g hg; cases hg) (by simp) (w.heap.size + 1) (by simp) rfl rfl ?_; intro g9 c9 w9 hd hx hgw; have HD := Lib.hid hd; have HX := Lib.hid hx; clear hd hx hgw)
    go_ret
    exact diff_other rfl HD.out HX.out
  | obj ks m =>
    exact absurd rfl (hne _ _)

end Go.Proofs.Ytikpedfggbibpaa
