/- Walks: differing of arrays. -/
import Derived.Test.YtikpedfggbibpaaZ37
namespace Go.Proofs.Ytikpedfggbibpaa
open Go.RowKit Go.Lib
set_option linter.unusedVariables false
set_option linter.unusedSimpArgs false

def arrPart (N : Nat) (l m : List J) (k : Nat) : List (List Step) := (List.range k).flatMap (fun (i : Nat) => under1 none (.nth (i : Int)) fun g => difF N g (arrGet l i) (arrGet m i))
theorem arrPart_succ (N : Nat) (l m : List J) (k : Nat) : arrPart N l m (k + 1) = arrPart N l m k ++ (difF N none (arrGet l k) (arrGet m k)).map (Step.nth (k : Int) :: ·) := by
  unfold arrPart
  rw [List.range_succ, List.flatMap_append]
  simp [under1_none]
theorem under_app (p : List Step) (st : Step) (l : List (List Step)) : (l.map (st :: ·)).map (p ++ ·) = l.map ((p ++ [st]) ++ ·) := by
  rw [List.map_map]
  refine List.map_congr_left fun q _ => ?_
  simp

set_option maxRecDepth 100000 in
set_option maxHeartbeats 16000000 in
theorem differing_arr (N : Nat) (ih : DfAt N) (l l' : List J) (hn : (J.arr l).nodes + (J.arr l').nodes ≤ N + 1) (hN : N + 1 ≤ 2000) (ha : (J.arr l).ok) (hb : (J.arr l').ok) (han : (J.arr l).nofl) (hbn : (J.arr l').nofl) (p : List Step) (hp : p.length + (N + 1) ≤ 100000)
    (va vb vp : Value) (w : World) (hva : RV w (V.ofJ (.arr l)) va) (hvb : RV w (V.ofJ (.arr l')) vb) (hvp : PathN w vp p) :
    Calls Try.prog 24 #[va, vb, vp] w (DfPost (N + 1) (.arr l) (.arr l') p w) := by
  obtain ⟨pa, pn, pc, rfl⟩ := PathN.pq.shape hvp
  unfold V.ofJ RV at hva hvb
  obtain ⟨al, lc, ak, kc, rfl, z, hl, hk⟩ := hva
  obtain ⟨al', lc', ak', kc', rfl, z', hl', hk'⟩ := hvb
  rw [V.ofJs_length, V.ofJs_length]
  have hl1 : l.length ≤ 2000 := by have := J.nodesL_len l; simp only [J.nodes] at hn; omega
  have hl2 : l'.length ≤ 2000 := by have := J.nodesL_len l'; simp only [J.nodes] at hn; omega
  have HELA : Hid (∀ i, i < l.length → ∃ b o d0 d1 d2 d3 d4 d5, al = some ⟨b, o, none⟩ ∧ ElemAt w b (o + i * 6) (V.ofJ (arrGet l i)) d0 d1 d2 d3 d4 d5) := fun i h => by
    obtain ⟨b, o, d0, d1, d2, d3, d4, d5, e, E⟩ := RV.elem (k := 0) (n := 0) (f := 0) (s := ByteArray.empty) (ks := []) hl i (by rw [V.ofJs_length]; exact h)
    rw [V.ofJs_get l i h, ← arrGet_eq h] at E
    exact ⟨b, o, d0, d1, d2, d3, d4, d5, e, E⟩
  have HELB : Hid (∀ i, i < l'.length → ∃ b o d0 d1 d2 d3 d4 d5, al' = some ⟨b, o, none⟩ ∧ ElemAt w b (o + i * 6) (V.ofJ (arrGet l' i)) d0 d1 d2 d3 d4 d5) := fun i h => by
    obtain ⟨b, o, d0, d1, d2, d3, d4, d5, e, E⟩ := RV.elem (k := 0) (n := 0) (f := 0) (s := ByteArray.empty) (ks := []) hl' i (by rw [V.ofJs_length]; exact h)
    rw [V.ofJs_get l' i h, ← arrGet_eq h] at E
    exact ⟨b, o, d0, d1, d2, d3, d4, d5, e, E⟩
  have HCL0 : Hid (∀ w1, Ext w w1 → Calls Try.prog 68 #[.slice pa pn pc] w1 fun e w' => ∃ v', e = .returned v' ∧ Gath w' w1.heap.size v' p ∧ Ext w1 w') := fun w1 hx => (clone_path p (by omega) _ w1 (hvp.ext' hx)).mono fun e w' h => h.gath
  have HPL : Hid (p.length + N ≤ 99999) := by show p.length + N ≤ 99999; omega
  have HIH0 : Hid (∀ i, i < l.length → i < l'.length → ∀ w1 va vb, RV w1 (V.ofJ (arrGet l i)) va → RV w1 (V.ofJ (arrGet l' i)) vb → ∀ v5, PathN w1 v5 (p ++ [.nth (i : Int)]) → Calls Try.prog 24 #[va, vb, v5] w1 (DfPost N (arrGet l i) (arrGet l' i) (p ++ [.nth (i : Int)]) w1)) := fun i h1 h2 w1 va vb r1 r2 v5 r3 => by
    have t1 := arrGet_lt h1
    have t2 := arrGet_lt h2
    refine ih _ _ (by omega) (arrGet_ok (by unfold J.ok at ha; exact ha) h1) (arrGet_ok (by unfold J.ok at hb; exact hb) h2) (arrGet_nofl (by unfold J.nofl at han; exact han) h1) (arrGet_nofl (by unfold J.nofl at hbn; exact hbn) h2) (by omega) _ (by simp; omega) va vb v5 w1 r1 r2 r3
  have HLN : Hid (∀ i, i < l.length → i < l'.length → (difF N none (arrGet l i) (arrGet l' i)).length ≤ 4000) := fun i h1 h2 => by
    have t1 := arrGet_lt h1
    have t2 := arrGet_lt h2
    have := difF_len_le N (arrGet l i) (arrGet l' i) none (arrGet_ok (by unfold J.ok at ha; exact ha) h1) (arrGet_ok (by unfold J.ok at hb; exact hb) h2)
    omega
  have HDL : Hid ((difF (N + 1) none (.arr l) (.arr l')).length ≤ 4000) := by
    have := difF_len_le (N + 1) (.arr l) (.arr l') none ha hb
    show (difF (N + 1) none (.arr l) (.arr l')).length ≤ 4000
    omega
  have hdif : difF (N + 1) none (.arr l) (.arr l') = arrPart N l l' (min l.length l'.length) ++ (if l.length = l'.length then [] else [[Step.nth ((min l.length l'.length : Nat) : Int)]]) := by
    unfold difF arrPart
    by_cases h : l.length = l'.length <;> simp [h, under1_none]
  have HDF := Lib.hid hdif
  clear hdif hl hl' hk hk' z z' ha hb han hbn ih hn hN hp hvp
  generalize hL1 : l.length = L1 at *
  generalize hL2 : l'.length = L2 at *
  have HL1 := Lib.hid hL1
  have HL2 := Lib.hid hL2
  clear hL1 hL2
  go_enter Try.func24, Try.ntmps24
  go_wp2
  have hmin : (min (L1 : Int) (L2 : Int)) = ((min L1 L2 : Nat) : Int) := by omega
  rw [hmin]
  clear hmin
  have hm1 : min L1 L2 ≤ L1 := Nat.min_le_left _ _
  have hm2 : min L1 L2 ≤ L2 := Nat.min_le_right _ _
  generalize hM : min L1 L2 = M at *
  clear hM
  generalize hw2 : World.alloc (World.alloc w _) _ = w2
  have X2 : Ext w w2 := by rw [← hw2]; exact ((Ext.refl _).alloc _).alloc _
  have t1 : w2.cell? ⟨w.heap.size, 4, none⟩ = some (.slice al L1 lc) := by rw [← hw2]; simp
  have t2 : w2.cell? ⟨w.heap.size + 1, 4, none⟩ = some (.slice al' L2 lc') := by
    rw [← hw2]
    have h9 := fun (A : Obj) (cs : Array Value) (t : TypeId) => cell_of_row ((w.alloc A).alloc (.cells cs t)) (w.heap.size + 1) 4 cs t (0, 0) (by rw [← World.size_alloc w A]; exact heap_alloc_new _ _)
    exact (h9 _ _ _).trans rfl
  have HX2 := Lib.hid X2
  clear hw2 X2
  go_loopw [7, 9] (fun o i wr => ∃ m : Nat, m ≤ M ∧ i = .int .i64 m ∧ ∃ ps : List (List Step), ps.length ≤ m * 4000 ∧ ps.Perm ((arrPart N l l' m).map (p ++ ·)) ∧ PLs PathN wr w2.heap.size o ps ∧ Ext w2 wr) (fun _ i _ => M - (intOf i).toNat)
  case atStart => exact ⟨0, Nat.zero_le _, rfl, [], by simp, by simp [arrPart], PLs.nil _ _ _, Ext.refl _⟩
  case round =>
    obtain ⟨m, hm, rfl, ps, hpl, hperm, hP, hB⟩ := hrel
    have HP := Lib.hid hP
    have HB := Lib.hid hB
    have HPERM := Lib.hid hperm
    have HLE := Lib.hid hpl
    clear hP hB hperm hpl
    by_cases hlt : m < M
    · obtain ⟨b1, o1, d0, d1, d2, d3, d4, d5, rfl, E⟩ := HELA.out m (by omega)
      obtain ⟨b2, o2, g0, g1, g2, g3, g4, g5, rfl, G⟩ := HELB.out m (by omega)
      obtain ⟨ek, en, ef, es, eal, ell, elc, eak, ekl, ekc, rfl, rfl, rfl, rfl, rfl, rfl⟩ := E.rv.shape
      obtain ⟨fk, fn, ff, fs, fal, fll, flc, fak, fkl, fkc, rfl, rfl, rfl, rfl, rfl, rfl⟩ := G.rv.shape
      have HE := Lib.hid E.rv
      have HG := Lib.hid G.rv
      have hM1 : (m : Int) < (L1 : Int) := by omega
      have hM2 : (m : Int) < (L2 : Int) := by omega
      have hM0 : (0 : Int) ≤ (m : Int) := by omega
      have s0 := t1
      have s1 := t2
      have s2 := HX2.out.get E.h0
      have s3 := HX2.out.get E.h1
      have s4 := HX2.out.get E.h2
      have s5 := HX2.out.get E.h3
      have s6 := HX2.out.get E.h4
      have s7 := HX2.out.get E.h5
      have s8 := HX2.out.get G.h0
      have s9 := HX2.out.get G.h1
      have s10 := HX2.out.get G.h2
      have s11 := HX2.out.get G.h3
      have s12 := HX2.out.get G.h4
      have s13 := HX2.out.get G.h5
      have r0 := HB.out.get s0
      have r1 := HB.out.get s1
      have r2 := HB.out.get s2
      have r3 := HB.out.get s3
      have r4 := HB.out.get s4
      have r5 := HB.out.get s5
      have r6 := HB.out.get s6
      have r7 := HB.out.get s7
      have r8 := HB.out.get s8
      have r9 := HB.out.get s9
      have r10 := HB.out.get s10
      have r11 := HB.out.get s11
      have r12 := HB.out.get s12
      have r13 := HB.out.get s13
      have d0 : wr.drew.cell? ⟨w.heap.size, 4, none⟩ = some (.slice (some ⟨b1, o1, none⟩) L1 lc) := r0
      have d1 : wr.drew.cell? ⟨w.heap.size + 1, 4, none⟩ = some (.slice (some ⟨b2, o2, none⟩) L2 lc') := r1
      have d2 : wr.drew.cell? ⟨b1, o1 + m * 6, none⟩ = some (.int .i64 ek) := r2
      have d3 : wr.drew.cell? ⟨b1, o1 + m * 6 + 1, none⟩ = some (.int .i64 en) := r3
      have d4 : wr.drew.cell? ⟨b1, o1 + m * 6 + 2, none⟩ = some (.float .f64 ef) := r4
      have d5 : wr.drew.cell? ⟨b1, o1 + m * 6 + 3, none⟩ = some (.string es) := r5
      have d6 : wr.drew.cell? ⟨b1, o1 + m * 6 + 4, none⟩ = some (.slice eal ell elc) := r6
      have d7 : wr.drew.cell? ⟨b1, o1 + m * 6 + 5, none⟩ = some (.slice eak ekl ekc) := r7
      have d8 : wr.drew.cell? ⟨b2, o2 + m * 6, none⟩ = some (.int .i64 fk) := r8
      have d9 : wr.drew.cell? ⟨b2, o2 + m * 6 + 1, none⟩ = some (.int .i64 fn) := r9
      have d10 : wr.drew.cell? ⟨b2, o2 + m * 6 + 2, none⟩ = some (.float .f64 ff) := r10
      have d11 : wr.drew.cell? ⟨b2, o2 + m * 6 + 3, none⟩ = some (.string fs) := r11
      have d12 : wr.drew.cell? ⟨b2, o2 + m * 6 + 4, none⟩ = some (.slice fal fll flc) := r12
      have d13 : wr.drew.cell? ⟨b2, o2 + m * 6 + 5, none⟩ = some (.slice fak fkl fkc) := r13
      have HCL : Hid (∀ w1, Ext w2 w1 → Calls Try.prog 68 #[.slice pa pn pc] w1 fun e w' => ∃ v', e = .returned v' ∧ Gath w' w1.heap.size v' p ∧ Ext w1 w') := fun w1 hx => HCL0.out w1 (Ext.trans HX2.out hx)
      have HIH : Hid (∀ w1, Ext w2 w1 → ∀ v5, PathN w1 v5 (p ++ [.nth (m : Int)]) → Calls Try.prog 24 #[(.agg #[.int .i64 ek, .int .i64 en, .float .f64 ef, .string es, .slice eal ell elc, .slice eak ekl ekc]), (.agg #[.int .i64 fk, .int .i64 fn, .float .f64 ff, .string fs, .slice fal fll flc, .slice fak fkl fkc]), v5] w1 (DfPost N (arrGet l m) (arrGet l' m) (p ++ [.nth (m : Int)]) w1)) := fun w1 hx v5 h5 =>
        HIH0.out m (by omega) (by omega) w1 _ _ (RV.keep (Ext.trans HX2.out hx).keep _ HE.out) (RV.keep (Ext.trans HX2.out hx).keep _ HG.out) v5 h5
      have HLm : Hid ((difF N none (arrGet l m) (arrGet l' m)).length ≤ 4000) := HLN.out m (by omega) (by omega)
      have HQ : Hid (m ≤ 2000) := by show m ≤ 2000; omega
      clear E G
      go_wp2_with fail
      go_region_held3 (fun w' => w'.cell? ⟨w.heap.size, 4, none⟩ = some (.slice (some ⟨b1, o1, none⟩) L1 lc) ∧ w'.cell? ⟨w.heap.size + 1, 4, none⟩ = some (.slice (some ⟨b2, o2, none⟩) L2 lc') ∧ w'.cell? ⟨b1, o1 + m * 6, none⟩ = some (.int .i64 ek) ∧ w'.cell? ⟨b1, o1 + m * 6 + 1, none⟩ = some (.int .i64 en) ∧ w'.cell? ⟨b1, o1 + m * 6 + 2, none⟩ = some (.float .f64 ef) ∧ w'.cell? ⟨b1, o1 + m * 6 + 3, none⟩ = some (.string es) ∧ w'.cell? ⟨b1, o1 + m * 6 + 4, none⟩ = some (.slice eal ell elc) ∧ w'.cell? ⟨b1, o1 + m * 6 + 5, none⟩ = some (.slice eak ekl ekc) ∧ w'.cell? ⟨b2, o2 + m * 6, none⟩ = some (.int .i64 fk) ∧ w'.cell? ⟨b2, o2 + m * 6 + 1, none⟩ = some (.int .i64 fn) ∧ w'.cell? ⟨b2, o2 + m * 6 + 2, none⟩ = some (.float .f64 ff) ∧ w'.cell? ⟨b2, o2 + m * 6 + 3, none⟩ = some (.string fs) ∧ w'.cell? ⟨b2, o2 + m * 6 + 4, none⟩ = some (.slice fal fll flc) ∧ w'.cell? ⟨b2, o2 + m * 6 + 5, none⟩ = some (.slice fak fkl fkc))
        (first
          | (go_split_ands
             with_reducible exact ⟨k7.get s0, k7.get s1, k7.get s2, k7.get s3, k7.get s4, k7.get s5, k7.get s6, k7.get s7, k7.get s8, k7.get s9, k7.get s10, k7.get s11, k7.get s12, k7.get s13⟩)
          | (go_split_ands
             with_reducible exact ⟨k6.get s0, k6.get s1, k6.get s2, k6.get s3, k6.get s4, k6.get s5, k6.get s6, k6.get s7, k6.get s8, k6.get s9, k6.get s10, k6.get s11, k6.get s12, k6.get s13⟩)
          | (go_split_ands
             with_reducible exact ⟨k5.get s0, k5.get s1, k5.get s2, k5.get s3, k5.get s4, k5.get s5, k5.get s6, k5.get s7, k5.get s8, k5.get s9, k5.get s10, k5.get s11, k5.get s12, k5.get s13⟩)
          | (go_split_ands
             with_reducible exact ⟨(k4.trans (Keep.alloc _ _)).get s0, (k4.trans (Keep.alloc _ _)).get s1, (k4.trans (Keep.alloc _ _)).get s2, (k4.trans (Keep.alloc _ _)).get s3, (k4.trans (Keep.alloc _ _)).get s4, (k4.trans (Keep.alloc _ _)).get s5, (k4.trans (Keep.alloc _ _)).get s6, (k4.trans (Keep.alloc _ _)).get s7, (k4.trans (Keep.alloc _ _)).get s8, (k4.trans (Keep.alloc _ _)).get s9, (k4.trans (Keep.alloc _ _)).get s10, (k4.trans (Keep.alloc _ _)).get s11, (k4.trans (Keep.alloc _ _)).get s12, (k4.trans (Keep.alloc _ _)).get s13⟩)
          | (go_split_ands
             with_reducible exact ⟨k4.get s0, k4.get s1, k4.get s2, k4.get s3, k4.get s4, k4.get s5, k4.get s6, k4.get s7, k4.get s8, k4.get s9, k4.get s10, k4.get s11, k4.get s12, k4.get s13⟩)
          | (go_split_ands
             with_reducible exact ⟨k3.get s0, k3.get s1, k3.get s2, k3.get s3, k3.get s4, k3.get s5, k3.get s6, k3.get s7, k3.get s8, k3.get s9, k3.get s10, k3.get s11, k3.get s12, k3.get s13⟩)
          | (go_split_ands
             with_reducible exact ⟨d0, d1, d2, d3, d4, d5, d6, d7, d8, d9, d10, d11, d12, d13⟩)
          | (go_split_ands
             with_reducible exact ⟨r0, r1, r2, r3, r4, r5, r6, r7, r8, r9, r10, r11, r12, r13⟩)
          | go_keep)
        (first
          | (go_at_call 68; refine (HCL.out _ (Ext.drew HB.out)).mono ?_; rintro e w3 ⟨v3, rfl, hg3, hx3⟩; have G3 := Lib.hid hg3; have X3 := Lib.hid hx3; have k3 : Keep w2 w3 := (Ext.trans (Ext.drew HB.out) hx3).keep; clear hg3 hx3)
          | (go_at_call 69; refine (nth_any (m : Int) w3).mono ?_; rintro e w4 ⟨rfl, hc4, hx4⟩; have C4 := Lib.hid hc4; have X4 := Lib.hid hx4; have k4 : Keep w2 w4 := (Ext.trans (Ext.trans (Ext.drew HB.out) X3.out) hx4).keep; clear hc4 hx4)
          | (refine step_append_frag (.tmp 44) (.tmp 47) rfl rfl wr.drew w4 v3 p (.nth (m : Int)) ⟨4, ByteArray.empty, some ⟨w3.heap.size + 1, 0, none⟩, 1, 1⟩ _ rfl (G3.out.ext' X4.out) ⟨rfl, rfl, _, rfl, C4.out⟩ (Ext.trans X3.out X4.out) (by have := HPL.out; omega) w4.heap.size rfl rfl rfl ?_; intro v5 w5 hg5 hx5; have G5 := Lib.hid hg5; have X05 : Hid (Ext wr w5) := Ext.trans (Ext.drew (Ext.refl wr)) hx5; have X5 : Hid (Ext w2 w5) := Ext.trans (Ext.drew HB.out) hx5; have k5 := X5.out.keep; clear hg5 hx5)
          | (go_at_call 24; refine (HIH.out _ X5.out v5 G5.out.pathN).mono ?_; rintro e w6 ⟨qs, hq6, v6, rfl, hp6, hx6⟩; have Q6 := Lib.hid hq6; have P6 := Lib.hid hp6; have X56 := Lib.hid hx6; have X6 : Hid (Ext w2 w6) := Ext.trans X5.out hx6; have k6 := X6.out.keep; have hl6 : qs.length ≤ 4000 := (by have h8 := hq6.length_eq; rw [List.length_map] at h8; have h9 := HLm.out; omega); have L6 := Lib.hid hl6; clear hq6 hp6 hx6 hl6)
          | (refine step_append_pls (.tmp 32) (.tmp 49) rfl rfl w2 w6 u7 v6 ps qs _ (HP.out.ext PathN.pq (Ext.trans X05.out X56.out)) P6.out X6.out (by have h8 := HLE.out; have h7 := L6.out; have h6 := HQ.out; omega) rfl rfl ?_; intro v7 w7 hp7 hx7; have P7 := Lib.hid hp7; have X7 := Lib.hid hx7; have k7 := hx7.keep; clear hp7 hx7))
      go_wp2_with fail
      go_roundw
      case rel => exact ⟨m + 1, by omega, by go_num, ps ++ qs, by have h8 := HLE.out; have h7 := L6.out; rw [List.length_append]; omega, by rw [arrPart_succ, List.map_append, under_app]; exact HPERM.out.append Q6.out, P7.out, X7.out⟩
      case measure => simp [intOf]; omega
    · have hmM : m = M := by omega
      subst hmM
      have r0 := HB.out.get t1
      have r1 := HB.out.get t2
      clear HELA HELB HIH0 HLN hlt hm
      by_cases hLL : L1 = L2
      · have hne : ((L1 : Int) != (L2 : Int)) = false := by simp [hLL]
        have HLL := Lib.hid hLL
        clear hLL
        go_wp2
        go_ret
        exact ⟨ps, by rw [HDF.out, if_pos HLL.out, List.append_nil]; exact HPERM.out, _, rfl, HP.out.base HX2.out.size, Ext.trans HX2.out HB.out⟩
      · have hne : ((L1 : Int) != (L2 : Int)) = true := by simp; omega
        have HLL := Lib.hid hLL
        clear hLL
        have HPS : Hid (ps.length ≤ 4000) := by
          have h1 := HPERM.out.length_eq
          have h2 := HDL.out
          rw [HDF.out, List.length_append] at h2
          rw [List.length_map] at h1
          show ps.length ≤ 4000
          omega
        go_wp2_with (first
          | (go_at_call 68; refine (HCL0.out _ (Ext.trans HX2.out HB.out)).mono ?_; rintro e w3 ⟨v3, rfl, hg3, hx3⟩; have G3 := Lib.hid hg3; have X3 := Lib.hid hx3; clear hg3 hx3)
          | (go_at_call 69; refine (nth_any (m : Int) w3).mono ?_; rintro e w4 ⟨rfl, hc4, hx4⟩; have C4 := Lib.hid hc4; have X4 := Lib.hid hx4; clear hc4 hx4)
          | (at_builtin; refine wpList_frag (.tmp 60) (.tmp 63) rfl rfl wr w4 v3 p (.nth (m : Int)) ⟨4, ByteArray.empty, some ⟨w3.heap.size + 1, 0, none⟩, 1, 1⟩ _ rfl (G3.out.ext' X4.out) ⟨rfl, rfl, _, rfl, C4.out⟩ (Ext.trans X3.out X4.out) (by have := HPL.out; omega) w4.heap.size rfl rfl rfl ?_; intro g5 c5 w5 hg5 hx5; have G5 := Lib.hid hg5; have X5 := Lib.hid hx5; clear hg5 hx5)
          | (at_builtin; refine wpList_place PathN.pq (.tmp 58) (.tmp 65) rfl rfl w2 w5 u7 (.slice (some ⟨g5, 0, none⟩) (p.length + 1) c5) ps (p ++ [.nth (m : Int)]) (HP.out.ext PathN.pq X5.out) G5.out.pathN (Ext.trans HB.out X5.out) (by have h8 := HPS.out; omega) w5.heap.size rfl rfl rfl ?_; intro g7 c7 w7 hp7 hx7; have P7 := Lib.hid hp7; have X7 := Lib.hid hx7; clear hp7 hx7))
        go_ret
        refine ⟨ps ++ [p ++ [Step.nth (m : Int)]], ?_, _, rfl, P7.out.base HX2.out.size, Ext.trans HX2.out X7.out⟩
        rw [HDF.out, if_neg HLL.out, List.map_append]
        exact HPERM.out.append (List.Perm.refl _)
end Go.Proofs.Ytikpedfggbibpaa
