/- Walks: slices.Index of texts; at (of one step). -/
import Derived.Test.YtikpedfggbibpaaZ17
namespace Go.Proofs.Ytikpedfggbibpaa
open Go.RowKit Go.Lib
set_option linter.unusedVariables false
set_option linter.unusedSimpArgs false

/-- slices.Index of texts -/
theorem index_strs (a : Option Addr) (c : Nat) (ks : List ByteArray) (k : ByteArray) (w : World) (hk : KS w a ks) (hn : ks.length ≤ reachN) :
    Calls Try.prog 42 #[.slice a ks.length c, .string k] w fun e w' => e = .returned (.int .i64 (Lib.idxOfS ks k)) ∧ w' = w := by
  unfold reachN at hn
  by_cases h0 : ks = []
  · subst h0
    exact Try.slices_Index_string_empty a c k w
  · obtain ⟨b, o, rfl, hc⟩ := hk h0
    have := Try.slices_Index_string b o ks.length c ks k w (Nat.le_refl _) (by omega) (fun j hj => by rw [hc j hj]; simp [List.getD, hj])
    rw [List.take_length] at this
    exact this

theorem idx_nodup {ks : List ByteArray} {q : Nat} {k : ByteArray} (h : ks[q]? = some k) (hn : ks.Nodup) : Lib.idxOfS ks k = (q : Int) := by
  obtain ⟨hq, hqk⟩ := List.getElem?_eq_some_iff.1 h
  have := Lib.idxOfS_hit ks ks.length q k hq (Nat.le_refl _) (by simp [List.getD, hq, hqk]) (fun j hj e => by
    have hj' : j < ks.length := by omega
    simp [List.getD, hj'] at e
    have := (List.getElem_inj (h₀ := hj') (h₁ := hq) hn).1 (e.trans hqk.symm)
    omega)
  rwa [List.take_length] at this

/-- the step leads to the part at this place -/
def J.kid : J → Step → Nat → Prop
  | .arr l, .nth n, q => n = (q : Int) ∧ q < l.length
  | .obj ks l, .child s, q => ks[q]? = some s ∧ q < l.length
  | _, _, _ => False
theorem J.kid_lt : ∀ {j : J} {st : Step} {q : Nat}, j.kid st q → q < j.kids.length
  | .arr l, .nth n, q, h => h.2
  | .obj ks l, .child s, q, h => h.2

theorem results_row_tmp {P : Program} {fn : Func} {p u : Tmp} {ty : TypeId} (h : fn.results = #[.cell p ty, .tmp u]) (tmps : Array Value) (w : World) (g : Nat) (t : TypeId) (cs : Array Value) (fr : Nat × Nat) (d : TypeDesc)
    (hp : tmps.getD p undef = .pointer (some ⟨g, 0, none⟩)) (hg : w.heap[g]? = some (.cells cs t fr))
    (hu : P.underlying ty = some d) (hd : (match d with | .struct _ | .array _ _ => true | _ => false) = true) (hi : (P.info? ty).map (·.size) = some cs.size) :
    (results fn tmps).run P w = .ok (.tuple #[.agg cs, tmps.getD u undef]) w := by
  rw [results_cell_tmp h, hp]
  simp [asAddr, run_loadVar_row w g t ty cs fr d hg hu hd hi, Result.andThen]

def AtPost (w0 : World) (j : J) (q : Nat) (w : World) (e : Ending) (w' : World) : Prop := ∃ (h : q < j.kids.length) (v' : Value), e = .returned (.tuple #[v', .bool true]) ∧ RV w0 (V.ofJ j.kids[q]) v' ∧ Ext w w'

set_option maxRecDepth 20000 in
set_option maxHeartbeats 2000000 in
theorem at_nth (l : List J) (n : Int) (q : Nat) (hsm : l.length ≤ 1000) (hkid : J.kid (.arr l) (.nth n) q) (f : Fr) (b o c : Nat) (v : Value) (w0 w : World) (hK : Keep w0 w) (h : RV w0 (V.ofJ (.arr l)) v) (hf : FAt w b o f) (hok : FrOk w (.nth n) f) :
    Calls Try.prog 36 #[v, .slice (some ⟨b, o, none⟩) 1 c] w (AtPost w0 (.arr l) q w) := by
  unfold V.ofJ RV at h
  obtain ⟨al, lc, ak, kc, rfl, z, hl, hk⟩ := h
  obtain ⟨rfl, hq⟩ := hkid
  obtain ⟨fk, fs, fa, fl, fc⟩ := f
  obtain ⟨h1, h2, nb, h3, h4⟩ := hok
  simp only at h1 h2 h3
  subst h1 h2 h3
  obtain ⟨bb, oo, d0, d1, d2, d3, d4, d5, rfl, E⟩ := RV.elem (k := 0) (n := 0) (f := 0) (s := ByteArray.empty) (ks := []) hl q (by rw [V.ofJs_length]; exact hq)
  rw [V.ofJs_get l q hq] at E
  obtain ⟨sk, sn, sf, ss, sal, sll, slc, sak, skl, skc, rfl, rfl, rfl, rfl, rfl, rfl⟩ := E.rv.shape
  have KK : ∀ (A B : Obj), Keep w ((w.alloc A).alloc B) := fun A B => (Keep.alloc _ _).trans (Keep.alloc _ _)
  have n0 : w.cell? ⟨nb, 0, none⟩ = some (.int .i64 (q : Int)) := by rw [cell_of_row _ _ _ _ _ _ h4]; rfl
  have lt0 := lt_of_cell n0
  have lt1 := lt_of_cell hf.h0
  have lt2 := lt_of_cell (hK _ _ E.h0)
  have e0 := hK _ _ E.h0
  have e1 := hK _ _ E.h1
  have e2 := hK _ _ E.h2
  have e3 := hK _ _ E.h3
  have e4 := hK _ _ E.h4
  have e5 := hK _ _ E.h5
  have f0 := hf.h0
  have f1 := hf.h1
  have f2 := hf.h2
  simp only at lt0 lt1 lt2 f0 f1 f2
  have HE := Lib.hid E.rv
  rw [V.ofJs_length]
  have HU : Hid (∀ w1, Keep w w1 → Calls Try.prog 41 #[.slice (some ⟨b, o, none⟩) 1 c] w1 fun e w' => e = .returned (.slice (some ⟨b, o, none⟩) 1 c) ∧ w' = w1) := fun w1 hk1 =>
    unrooted_any _ 1 c w1 (by unfold reachN; omega) (fun _ => ⟨b, o, 4, rfl, hk1 _ _ hf.h0, by decide, by decide⟩)
  clear hf E h4 hl hk z
  go_enter Try.func36, Try.ntmps36
  go_wp2_with (go_at_call 41; refine (HU.out _ (KK _ _)).mono ?_; rintro e w' ⟨rfl, rfl⟩)
  refine wp_loop_rounds 2 ?_
  rw [rounds_succ]
  go_wp2
  rw [rounds_succ]
  go_wp2
  refine bodyPost_ret (results_row_tmp rfl _ _ (w.heap.size + 1) 26 _ _ _ rfl (by rw [← World.size_alloc]; exact heap_alloc_new _ _) Try.underlying26 rfl (by kernel_rfl)) rfl ?_
  exact ⟨hq, _, rfl, HE.out, ((Ext.refl _).alloc _).alloc _⟩

set_option maxRecDepth 20000 in
set_option maxHeartbeats 2000000 in
theorem at_child (ks : List ByteArray) (l : List J) (s : ByteArray) (q : Nat) (hsm : l.length ≤ 1000) (hnd : ks.Nodup) (hkid : J.kid (.obj ks l) (.child s) q) (f : Fr) (b o c : Nat) (v : Value) (w0 w : World) (hK : Keep w0 w) (h : RV w0 (V.ofJ (.obj ks l)) v) (hf : FAt w b o f) (hok : FrOk w (.child s) f) :
    Calls Try.prog 36 #[v, .slice (some ⟨b, o, none⟩) 1 c] w (AtPost w0 (.obj ks l) q w) := by
  unfold V.ofJ RV at h
  obtain ⟨al, lc, ak, kc, rfl, z, hl, hk⟩ := h
  obtain ⟨hkq, hq⟩ := hkid
  obtain ⟨fk, fs, fa, fl, fc⟩ := f
  obtain ⟨h1, h2⟩ := hok
  simp only at h1 h2
  subst h1 h2
  have hksl : ks.length ≤ reachN := by have := z.hkl; have := z.hkc; omega
  obtain ⟨bb, oo, d0, d1, d2, d3, d4, d5, rfl, E⟩ := RV.elem (k := 0) (n := 0) (f := 0) (s := ByteArray.empty) (ks := []) hl q (by rw [V.ofJs_length]; exact hq)
  rw [V.ofJs_get l q hq] at E
  obtain ⟨sk, sn, sf, ss, sal, sll, slc, sak, skl, skc, rfl, rfl, rfl, rfl, rfl, rfl⟩ := E.rv.shape
  have KK : ∀ (A B : Obj), Keep w ((w.alloc A).alloc B) := fun A B => (Keep.alloc _ _).trans (Keep.alloc _ _)
  have lt1 := lt_of_cell hf.h0
  have lt2 := lt_of_cell (hK _ _ E.h0)
  have e0 := hK _ _ E.h0
  have e1 := hK _ _ E.h1
  have e2 := hK _ _ E.h2
  have e3 := hK _ _ E.h3
  have e4 := hK _ _ E.h4
  have e5 := hK _ _ E.h5
  have f0 := hf.h0
  have f1 := hf.h1
  simp only at lt1 lt2 f0 f1
  have HE := Lib.hid E.rv
  rw [V.ofJs_length]
  have HU : Hid (∀ w1, Keep w w1 → Calls Try.prog 41 #[.slice (some ⟨b, o, none⟩) 1 c] w1 fun e w' => e = .returned (.slice (some ⟨b, o, none⟩) 1 c) ∧ w' = w1) := fun w1 hk1 =>
    unrooted_any _ 1 c w1 (by unfold reachN; omega) (fun _ => ⟨b, o, 3, rfl, hk1 _ _ hf.h0, by decide, by decide⟩)
  have HI : Hid (∀ w1, Keep w w1 → Calls Try.prog 42 #[.slice ak ks.length kc, .string fs] w1 fun e w' => e = .returned (.int .i64 (q : Int)) ∧ w' = w1) := fun w1 hk1 => by
    have := index_strs ak kc ks fs w1 (hk.keep (hK.trans hk1)) hksl
    rw [idx_nodup hkq hnd] at this
    exact this
  clear hf E hl hk z hkq hksl hnd
  go_enter Try.func36, Try.ntmps36
  go_wp2_with (go_at_call 41; refine (HU.out _ (KK _ _)).mono ?_; rintro e w' ⟨rfl, rfl⟩)
  refine wp_loop_rounds 2 ?_
  rw [rounds_succ]
  go_wp2_with fail
  go_region_held3 (fun w' => w'.cell? ⟨w.heap.size, 5, none⟩ = some (.slice ak ks.length kc) ∧ w'.cell? ⟨b, o, none⟩ = some (.int .i64 3) ∧ w'.cell? ⟨b, o + 1, none⟩ = some (.string fs))
    (first
      | go_keep)
    (first
      | (go_at_call 42; refine (HI.out _ (by first | exact KK _ _ | exact (KK _ _).trans (Keep.drew _))).mono ?_; rintro e w5 ⟨rfl, rfl⟩))
  go_wp2
  rw [rounds_succ]
  go_wp2
  refine bodyPost_ret (results_row_tmp rfl _ _ (w.heap.size + 1) 26 _ _ _ rfl (by
    have h9 := fun (A B : Obj) => heap_alloc_new (w.alloc A) B
    simp only [World.size_alloc] at h9
    exact h9 _ _) Try.underlying26 rfl (by kernel_rfl)) rfl ?_
  exact ⟨hq, _, rfl, HE.out, Ext.drew (((Ext.refl _).alloc _).alloc _)⟩

theorem at_one (j : J) (st : Step) (q : Nat) (hsm : j.nodes ≤ 1000) (hj : j.ok) (hkid : j.kid st q) (f : Fr) (b o c : Nat) (v : Value) (w0 w : World) (hK : Keep w0 w) (h : RV w0 (V.ofJ j) v) (hf : FAt w b o f) (hok : FrOk w st f) :
    Calls Try.prog 36 #[v, .slice (some ⟨b, o, none⟩) 1 c] w (AtPost w0 j q w) := by
  cases j <;> cases st <;> try exact hkid.elim
  · rename_i l n
    exact at_nth l n q (by have := J.nodesL_len l; simp only [J.nodes] at hsm; omega) hkid f b o c v w0 w hK h hf hok
  · rename_i ks l s
    unfold J.ok at hj
    exact at_child ks l s q (by have := J.nodesL_len l; simp only [J.nodes] at hsm; omega) hj.1 hkid f b o c v w0 w hK h hf hok
end Go.Proofs.Ytikpedfggbibpaa
