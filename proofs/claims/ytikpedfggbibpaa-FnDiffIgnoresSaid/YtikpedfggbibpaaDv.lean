/- Walks: object. -/
import Derived.Test.YtikpedfggbibpaaDu
namespace Go.Proofs.Ytikpedfggbibpaa
open Go.RowKit Go.Lib
set_option linter.unusedVariables false
set_option linter.unusedSimpArgs false

theorem box4_cell (w : World) (A B C : Obj) (cs : Array Value) (t : TypeId) (i : Nat) : ((((w.alloc A).alloc B).alloc C).alloc (.cells cs t)).cell? ⟨w.heap.size + 1 + 1 + 1, i, none⟩ = cs[i]? :=
  cell_of_row _ _ i cs t (0, 0) (by have := heap_alloc_new (((w.alloc A).alloc B).alloc C) (.cells cs t); simpa using this)
theorem box3_cell (w : World) (A B D : Obj) (cs : Array Value) (t : TypeId) (i : Nat) : ((((w.alloc A).alloc B).alloc (.cells cs t)).alloc D).cell? ⟨w.heap.size + 1 + 1, i, none⟩ = cs[i]? :=
  (World.cell?_alloc_lt _ _ _ (by simp)).trans (cell_of_row _ _ i cs t (0, 0) (by have := heap_alloc_new ((w.alloc A).alloc B) (.cells cs t); simpa using this))
theorem heap4_two (w : World) (A B C D : Obj) : ((((w.alloc A).alloc B).alloc C).alloc D).heap[w.heap.size + 1]? = some B := by
  rw [heap_alloc_old _ _ (by simp), heap_alloc_old _ _ (by simp)]
  have := heap_alloc_new (w.alloc A) B
  simpa using this

set_option maxRecDepth 20000 in
set_option maxHeartbeats 2000000 in
theorem object_any (s : ByteArray) (j : J) (hs : s.size ≤ reachN) (v : Value) (w : World) (h : RV w (V.ofJ j) v) : Calls Try.prog 47 #[.string s, v] w (ValPost (.obj [s] [j]) w) := by
  obtain ⟨al, lc, ak, kc, e⟩ := h.six
  subst e
  have HV := Lib.hid h
  clear h
  have hof : V.ofJ (.obj [s] [j]) = .mk 8 0 0 ByteArray.empty [V.ofJ j] [s] := by simp [V.ofJ, V.ofJs]
  generalize V.ofJ j = x at *
  have HOF := Lib.hid hof
  clear hof
  go_enter Try.func47, Try.ntmps47
  go_wp2
  refine bodyPost_ret (results_cell_row rfl _ _ (w.heap.size + 1) 26 _ _ _ rfl (heap4_two _ _ _ _ _) Try.underlying26 rfl (by kernel_rfl)) rfl ?_
  refine ⟨_, rfl, ?_, ((((Ext.refl _).alloc _).alloc _).alloc _).alloc _⟩
  rw [HOF.out]
  unfold RV
  refine ⟨_, _, _, _, rfl, ⟨by decide, by decide, by decide, by decide, Nat.le_refl 1, (by show 1 * 88 ≤ 140737488351232; decide), Nat.le_refl 1, (by show 1 * 16 ≤ 140737488351232; decide), fun y hy => ?_⟩, fun _ => ⟨_, 0, rfl, ?_⟩, fun _ => ⟨_, 0, rfl, fun i hi => ?_⟩⟩
  · simp only [List.mem_singleton] at hy
    rw [hy]
    exact hs
  · unfold RVs
    refine ⟨⟨_, _, _, _, _, _, (box4_cell _ _ _ _ _ _ 0).trans rfl, (box4_cell _ _ _ _ _ _ 1).trans rfl, (box4_cell _ _ _ _ _ _ 2).trans rfl, (box4_cell _ _ _ _ _ _ 3).trans rfl, (box4_cell _ _ _ _ _ _ 4).trans rfl, (box4_cell _ _ _ _ _ _ 5).trans rfl, ?_⟩, by unfold RVs; trivial⟩
    exact RV.keep (((((Keep.alloc _ _).trans (Keep.alloc _ _)).trans (Keep.alloc _ _)).trans (Keep.alloc _ _))) _ HV.out
  · have : i = 0 := by simp at hi; omega
    subst this
    exact (box3_cell _ _ _ _ _ _ 0).trans rfl

def kA : ByteArray := { data := #[97] }
theorem int_RV (n : Int) (h : (Lit.int .i64 n).wf = true) (w : World) : RV w (V.ofJ (.int n)) (intV n) := by
  unfold V.ofJ RV
  exact ⟨none, 0, none, 0, rfl, ⟨by decide, h, by decide, by decide, by decide, by decide, by decide, by decide, fun x h => by cases h⟩, fun h => absurd rfl h, fun h => absurd rfl h⟩
theorem difF_one : difF ((J.obj [kA] [.int 1]).nodes + (J.obj [kA] [.int 2]).nodes) none (.obj [kA] [.int 1]) (.obj [kA] [.int 2]) = [[.child kA]] := by
  have e : (J.obj [kA] [.int 1]).nodes + (J.obj [kA] [.int 2]).nodes = 4 := by simp [J.nodes, J.nodesL]
  rw [e]
  simp [difF, keysU, hasK, look, under1_none, leafEq]
theorem ok_one (n : Int) (h : (Lit.int .i64 n).wf = true) : (J.obj [kA] [.int n]).ok ∧ (J.obj [kA] [.int n]).nofl ∧ (J.obj [kA] [.int n]).nodes ≤ 1000 := by
  refine ⟨?_, ?_, ?_⟩
  · simp [J.ok, J.oks]
  · simp [J.nofl, J.nofls]
  · simp [J.nodes, J.nodesL]
theorem fresh_path (w : World) (f : Fr) (st : Step) (h : FrOk w st f) : PathAt (w.alloc (.cells f.cells.toArray 38)) (.slice (some ⟨w.heap.size, 0, none⟩) 1 1) [st] := by
  refine ⟨[f], rfl, fun i h1 h2 => ?_, ?_⟩
  · have : i = 0 := by simp at h1; omega
    subst this
    exact h.ext ((Ext.refl w).alloc _)
  · simpa using own_fresh w 0 38 13 f.cells (Nat.zero_le _) rfl

set_option maxRecDepth 20000 in
set_option maxHeartbeats 8000000 in
theorem differs_any (w : World) : Calls Try.prog 20 #[] w (Gives (.bool true) w) := by
  have hw1 : (Lit.int .i64 1).wf = true := by decide
  have hw2 : (Lit.int .i64 2).wf = true := by decide
  have HI := Lib.hid (fun n w1 => integer_any n w1)
  have HOB : Hid (∀ n : Int, (Lit.int .i64 n).wf = true → ∀ w1, Calls Try.prog 47 #[.string kA, intV n] w1 (ValPost (.obj [kA] [.int n]) w1)) := fun n hn w1 => object_any kA (.int n) (by decide) _ w1 (int_RV n hn w1)
  have HID : Hid (∀ w1 va vb, RV w1 (V.ofJ (.obj [kA] [.int 1])) va → RV w1 (V.ofJ (.obj [kA] [.int 2])) vb → Calls Try.prog 21 #[va, vb, .slice none 0 0, .bool false] w1 (IDPost none (.obj [kA] [.int 1]) (.obj [kA] [.int 2]) w1)) := fun w1 va vb h1 h2 =>
    implDiff0 _ _ (ok_one 1 hw1).1 (ok_one 1 hw1).2.1 (ok_one 2 hw2).1 (ok_one 2 hw2).2.1 (ok_one 1 hw1).2.2 (ok_one 2 hw2).2.2 va vb w1 h1 h2
  have HW1 := Lib.hid hw1
  have HW2 := Lib.hid hw2
  clear hw1 hw2
  go_enter Try.func20, Try.ntmps20
  go_wp2_with fail
  refine (HI.out 1 _).mono ?_
  rintro e w1 ⟨rfl, hx1⟩
  have HX1 := Lib.hid hx1
  clear hx1
  go_wp2_with fail
  refine (HOB.out 1 HW1.out _).mono ?_
  rintro e w2 ⟨va, rfl, hva, hx2⟩
  have HX2 := Lib.hid hx2
  have HVA := Lib.hid hva
  clear hx2 hva
  go_wp2_with fail
  refine (HI.out 2 _).mono ?_
  rintro e w3 ⟨rfl, hx3⟩
  have HX3 := Lib.hid hx3
  clear hx3
  go_wp2_with fail
  refine (HOB.out 2 HW2.out _).mono ?_
  rintro e w4 ⟨vb, rfl, hvb, hx4⟩
  have HX4 := Lib.hid hx4
  have HVB := Lib.hid hvb
  clear hx4 hvb
  go_wp2_with fail
  refine (HID.out _ _ _ (RV.keep (Ext.trans HX3.out HX4.out).keep _ HVA.out) HVB.out).mono ?_
  rintro e w5 ⟨v, ps, rfl, hp, hpl, hx5⟩
  rw [difF_one, List.perm_singleton] at hp
  subst hp
  obtain ⟨a5, c5, rfl, hsh⟩ := hpl.shape
  obtain ⟨g, u, rfl, hc, q, hq, hgp⟩ := hsh 0 (by simp)
  have hq' : q = [.child kA] := by simpa using hq.symm
  subst hq'
  have hpa := hgp.2 (by simp)
  obtain ⟨ua, uc, rfl, _⟩ := hpa.sh
  have HPA := Lib.hid hpa
  have HX5 : Hid (Ext w w5) := Ext.trans HX1.out (Ext.trans HX2.out (Ext.trans HX3.out (Ext.trans HX4.out hx5)))
  clear hpl hsh hq hgp hpa hx5 HVA HVB HX1 HX2 HX3 HX4 HOB HID HI
  simp only [List.length_cons, List.length_nil, Nat.zero_add] at hc ⊢
  have hd : w5.drew.cell? ⟨g, 0, none⟩ = some (.slice ua 1 uc) := hc
  have HSP : Hid (∀ w6, Ext w5.drew w6 → Calls Try.prog 60 #[.slice ua 1 uc, .slice (some ⟨w6.heap.size, 0, none⟩) 1 1] (w6.alloc (.cells (Fr.cells ⟨3, kA, none, 0, 0⟩).toArray 38)) (Gives (.bool true) (w6.alloc (.cells (Fr.cells ⟨3, kA, none, 0, 0⟩).toArray 38)))) := fun w6 hx6 => by
    have := samePlace_any [.child kA] [.child kA] (by simp) (by simp) (.slice ua 1 uc) (.slice (some ⟨w6.heap.size, 0, none⟩) 1 1) (w6.alloc (.cells (Fr.cells ⟨3, kA, none, 0, 0⟩).toArray 38)) (HPA.out.ext (Ext.trans (Ext.drew (Ext.refl w5)) (hx6.alloc _)).keepB) (fresh_path w6 ⟨3, kA, none, 0, 0⟩ (.child kA) ⟨rfl, rfl⟩)
    rwa [pathB_iff.2 rfl] at this
  go_wp2_with fail
  go_region_held3 (fun w' => w'.cell? ⟨g, 0, none⟩ = some (.slice ua 1 uc))
    (first
      | with_reducible exact k7.get hd
      | with_reducible exact (k6.trans (Keep.alloc _ _)).get hd
      | with_reducible exact k6.get hd
      | with_reducible exact hc
      | with_reducible exact hd
      | go_keep)
    (first
      | (go_at_call 60; refine (HSP.out w6 X6.out).mono ?_; rintro e w7 ⟨rfl, hx7⟩; have X7 := Lib.hid hx7; have k7 : Keep w5.drew w7 := (Ext.trans (Ext.alloc X6.out _) hx7).keep; clear hx7)
      | (go_at_call 61; refine (child_any kA _).mono ?_; rintro e w6 ⟨rfl, hx6⟩; have X6 : Hid (Ext w5.drew w6) := hx6; have k6 := hx6.keep; clear hx6))
  go_wp2
  go_ret
  exact .mk rfl (Ext.trans HX5.out (Ext.trans (Ext.trans (Ext.drew (Ext.refl w5)) (Ext.alloc X6.out _)) X7.out))
end Go.Proofs.Ytikpedfggbibpaa
