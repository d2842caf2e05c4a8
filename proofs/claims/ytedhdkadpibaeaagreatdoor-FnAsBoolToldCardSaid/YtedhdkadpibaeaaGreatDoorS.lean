/- Walks: big, right. -/
import Derived.Test.YtedhdkadpibaeaaGreatDoorR
namespace Go.Proofs.YtedhdkadpibaeaaGreatDoor
open Go.RowKit Go.Lib
set_option linter.unusedVariables false
set_option linter.unusedSimpArgs false

def J.kids : J → List J
  | .arr l => l
  | .obj _ l => l
  | _ => []
theorem V.ofJ_form (j : J) : ∃ k n f s ks, V.ofJ j = .mk k n f s (V.ofJs j.kids) ks ∧ k ≠ 6 ∧ J.nodesL j.kids < j.nodes := by
  cases j <;> simp [V.ofJ, J.kids, V.ofJs, J.nodes, J.nodesL] <;> omega

theorem Tryz.entersBig (args : Array Value) (w : World) : (callFunc 24 args).run Tryz.prog w = .ok (.enter 24 args) w := enters_of Tryz.func24 (by kernel_rfl) rfl args w
theorem Tryz.entersRight1 (args : Array Value) (w : World) : (callFunc 32 args).run Tryz.prog w = .ok (.enter 32 args) w := enters_of Tryz.func32 (by kernel_rfl) rfl args w
theorem Tryz.entersRight2 (args : Array Value) (w : World) : (callFunc 36 args).run Tryz.prog w = .ok (.enter 36 args) w := enters_of Tryz.func36 (by kernel_rfl) rfl args w

set_option maxHeartbeats 1000000 in
theorem big_any (N : Nat) : ∀ (j : J), j.nodes ≤ N → ∀ (v : Value) (w : World), RV w (V.ofJ j) v → Calls Tryz.prog 24 #[v] w (Gives (.bool false) w) := by
  induction N with
  | zero => intro j hj; have := j.nodes_pos; omega
  | succ N ih =>
  intro j hN v w h
  obtain ⟨k, n, f, s, ks, e, hk6, hnl⟩ := V.ofJ_form j
  rw [e] at h
  unfold RV at h
  obtain ⟨al, lc, ak, kc, rfl, z, hl, hk⟩ := h
  have hll : (V.ofJs j.kids).length ≤ reachN := by have := z.hll; have := z.hlc; omega
  have HC : Hid (∀ w1, Ext w w1 → Calls Tryz.prog 31 #[.slice al (V.ofJs j.kids).length lc, .func (.func 24) #[] #[]] w1 (AnyPost (fun _ => false) (V.ofJs j.kids).length w1)) := fun w1 h1 =>
    containsFunc_any 24 #[] Tryz.entersBig (V.ofJs j.kids) (fun _ => false) al lc w1 (fun hn => by obtain ⟨b, o, e, hr⟩ := hl hn; exact ⟨b, o, e, RVs.keep h1.keep _ hr⟩) hll (fun q hq v w' he hv => by
      have hq' : q < j.kids.length := by rw [V.ofJs_length] at hq; exact hq
      rw [V.ofJs_get _ _ hq'] at hv
      have := J.nodes_mem (List.getElem_mem hq')
      exact ih j.kids[q] (by omega) v w' hv)
  have hk6' : (k == 6) = false := by simp [hk6]
  generalize V.ofJs j.kids = L at *
  clear ih hl hk z hN hnl hk6 e
  go_enter Tryz.func24, Tryz.ntmps24
  go_wp2_with (go_at_call 31; refine (HC.out _ ((Ext.refl _).alloc _)).mono ?_; rintro e w2 ⟨b, rfl, hb, hb2⟩; have HB2 := Lib.hid hb2; have HB := Lib.hid hb; clear hb2 HC hb; cases b)
  · go_wp2
    go_ret
    exact .mk rfl (((Ext.refl _).alloc _).trans HB2.out)
  · obtain ⟨q, _, h⟩ := HB.out.1 (by first | rfl | trivial)
    cases h

def RightAt (j : J) : Prop := ∀ (v : Value) (w : World), RV w (V.ofJ j) v → Calls Tryz.prog 23 #[v] w (Gives (.bool true) w)

theorem right1_of {j : J} (h : RightAt j) (v : Value) (w : World) (hv : RV w (V.ofJ j) v) : Calls Tryz.prog 32 #[v] w (Gives (.bool false) w) := by
  have hsh : ∃ k n f s al ll lc ak kl kc, v = .agg #[.int .i64 k, .int .i64 n, .float .f64 f, .string s, .slice al ll lc, .slice ak kl kc] := by
    generalize V.ofJ j = x at hv
    cases x; unfold RV at hv; obtain ⟨al, lc, ak, kc, e, _⟩ := hv; exact ⟨_, _, _, _, _, _, _, _, _, _, e⟩
  obtain ⟨k, n, f, s, al, ll, lc, ak, kl, kc, rfl⟩ := hsh
  have HC := Lib.hid (h _ _ (RV.keep (Keep.alloc w (Obj.cells #[.int .i64 k, .int .i64 n, .float .f64 f, .string s, .slice al ll lc, .slice ak kl kc] 26)) _ hv))
  clear h hv
  go_enter Tryz.func32, Tryz.ntmps32
  go_wp2_with (go_at_call 23; refine (HC.out).mono ?_; rintro e w2 ⟨rfl, hb2⟩; have HB2 := Lib.hid hb2; clear hb2 HC)
  go_ret
  exact .mk rfl (((Ext.refl _).alloc _).trans HB2.out)
theorem right2_of {j : J} (h : RightAt j) (v : Value) (w : World) (hv : RV w (V.ofJ j) v) : Calls Tryz.prog 36 #[v] w (Gives (.bool false) w) := by
  have hsh : ∃ k n f s al ll lc ak kl kc, v = .agg #[.int .i64 k, .int .i64 n, .float .f64 f, .string s, .slice al ll lc, .slice ak kl kc] := by
    generalize V.ofJ j = x at hv
    cases x; unfold RV at hv; obtain ⟨al, lc, ak, kc, e, _⟩ := hv; exact ⟨_, _, _, _, _, _, _, _, _, _, e⟩
  obtain ⟨k, n, f, s, al, ll, lc, ak, kl, kc, rfl⟩ := hsh
  have HC := Lib.hid (h _ _ (RV.keep (Keep.alloc w (Obj.cells #[.int .i64 k, .int .i64 n, .float .f64 f, .string s, .slice al ll lc, .slice ak kl kc] 26)) _ hv))
  clear h hv
  go_enter Tryz.func36, Tryz.ntmps36
  go_wp2_with (go_at_call 23; refine (HC.out).mono ?_; rintro e w2 ⟨rfl, hb2⟩; have HB2 := Lib.hid hb2; clear hb2 HC)
  go_ret
  exact .mk rfl (((Ext.refl _).alloc _).trans HB2.out)

theorem compact_nodup {ks : List ByteArray} (h : ks.Nodup) : Lib.compact (ks.map toL) = ks.map toL := by
  refine Lib.compact_all _ fun j hj => ?_
  rcases Nat.eq_zero_or_pos j with rfl | h0
  · exact Lib.keeps_lt_one _ _ (by omega)
  · refine Lib.keeps_pos ?_
    simp at hj
    simp only [List.getElem!_toArray]
    rw [getElem!_pos _ _ (by simpa using hj), getElem!_pos _ _ (by simp; omega)]
    simp only [List.getElem_map]
    intro e
    have := toL_inj e
    have := (List.getElem_inj h).1 this
    omega

/-- slices.Compact of texts, of which no two are alike, in a row of the call's own -/
theorem compact_strs (base : Nat) (v : Value) (ks : List ByteArray) (w : World) (ho : OwnStrs w base v ks) (hnd : ks.Nodup) (hn : ks.length * 16 ≤ reachN) :
    Calls Tryz.prog 35 #[v] w fun e w' => e = .returned v ∧ w.grownBy w' v.ownBlock := by
  unfold reachN at hn
  unfold OwnStrs at ho
  rcases ho.2 with ⟨rfl, h0⟩ | ⟨g, cap, cur, rfl, hbase, hb, h1, h2, h3, h4⟩
  · refine (Tryz.slices_Compact_string_empty none 0 w).mono fun e w' ⟨he, hw⟩ => ⟨he, ?_⟩
    rw [hw]; exact ⟨rfl, rfl, rfl, Nat.le_refl _, fun _ _ _ => rfl⟩
  · have hl : (ks.map toL).length = ks.length := by simp
    have H := Tryz.slices_Compact_string g 0 cap (ks.map toL) w (holds_of_block hb (by rw [hl]; rw [Nat.mul_one] at h4; rw [h4, List.map_map]; rfl)) (by rw [hl]; omega) (by rw [hl]; exact h1)
    rw [compact_nodup hnd, hl] at H
    refine H.mono fun e w' ⟨he, q, hw⟩ => ⟨he, ?_⟩
    rw [hw]
    refine ⟨rfl, rfl, rfl, by simp [Sort.putRow, Sort.mapBlock, Sort.ahead], fun k hk hne => ?_⟩
    have : g ≠ k := fun e => hne (by rw [← e]; rfl)
    simp [Sort.putRow, Sort.mapBlock, Sort.ahead, Array.getElem?_modify, this]
end Go.Proofs.YtedhdkadpibaeaaGreatDoor
