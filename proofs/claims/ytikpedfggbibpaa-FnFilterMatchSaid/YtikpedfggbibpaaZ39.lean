/- Walks: differing of objects; differing. Walks: object. -/
import Derived.Test.YtikpedfggbibpaaZ38
namespace Go.Proofs.Ytikpedfggbibpaa
open Go.RowKit Go.Lib
set_option linter.unusedVariables false
set_option linter.unusedSimpArgs false

theorem box1_cell (w : World) (cs : Array Value) (t : TypeId) (B : Obj) (i : Nat) : ((w.alloc (.cells cs t)).alloc B).cell? ⟨w.heap.size, i, none⟩ = cs[i]? :=
  (World.cell?_alloc_lt _ _ _ (by simp)).trans (cell_of_row _ w.heap.size i cs t (0, 0) (heap_alloc_new _ _))
theorem box2_cell (w : World) (A : Obj) (cs : Array Value) (t : TypeId) (i : Nat) : ((w.alloc A).alloc (.cells cs t)).cell? ⟨w.heap.size + 1, i, none⟩ = cs[i]? :=
  cell_of_row _ (w.heap.size + 1) i cs t (0, 0) (by rw [← World.size_alloc w A]; exact heap_alloc_new _ _)
def objPart (N : Nat) (ks ks' : List ByteArray) (l l' : List J) (K : List ByteArray) : List (List Step) := K.flatMap fun k => under1 none (.child k) fun g => difF N g (look ks l k) (look ks' l' k)
theorem objPart_succ (N : Nat) (ks ks' : List ByteArray) (l l' : List J) (K : List ByteArray) (m : Nat) (h : m < K.length) : objPart N ks ks' l l' (K.take (m + 1)) = objPart N ks ks' l l' (K.take m) ++ (difF N none (look ks l K[m]) (look ks' l' K[m])).map (Step.child K[m] :: ·) := by
  unfold objPart
  rw [List.take_succ_eq_append_getElem h, List.flatMap_append]
  simp [under1_none]

set_option maxRecDepth 100000 in
set_option maxHeartbeats 16000000 in
theorem differing_obj (N : Nat) (ih : DfAt N) (ks ks' : List ByteArray) (l l' : List J) (hn : (J.obj ks l).nodes + (J.obj ks' l').nodes ≤ N + 1) (hN : N + 1 ≤ 2000) (ha : (J.obj ks l).ok) (hb : (J.obj ks' l').ok) (han : (J.obj ks l).nofl) (hbn : (J.obj ks' l').nofl) (p : List Step) (hp : p.length + (N + 1) ≤ 100000)
    (va vb vp : Value) (w : World) (hva : RV w (V.ofJ (.obj ks l)) va) (hvb : RV w (V.ofJ (.obj ks' l')) vb) (hvp : PathN w vp p) :
    Calls Try.prog 24 #[va, vb, vp] w (DfPost (N + 1) (.obj ks l) (.obj ks' l') p w) := by
  obtain ⟨pa, pn, pc, rfl⟩ := PathN.pq.shape hvp
  have hl1 : l.length ≤ 2000 := by have := J.nodesL_len l; simp only [J.nodes] at hn; omega
  have hl2 : l'.length ≤ 2000 := by have := J.nodesL_len l'; simp only [J.nodes] at hn; omega
  have hoka := ha
  have hokb := hb
  unfold J.ok at hoka hokb
  have HMA : Hid (∀ w1, Ext w w1 → ∀ s, Calls Try.prog 59 #[va, .string s] w1 (ValPost (look ks l s) w1)) := fun w1 hx s => memberOf_any ks l s ha (by omega) va w1 (RV.keep hx.keep _ hva)
  have HMB : Hid (∀ w1, Ext w w1 → ∀ s, Calls Try.prog 59 #[vb, .string s] w1 (ValPost (look ks' l' s) w1)) := fun w1 hx s => memberOf_any ks' l' s hb (by omega) vb w1 (RV.keep hx.keep _ hvb)
  have HAK : Hid (∀ w1, Ext w w1 → Calls Try.prog 70 #[va, vb] w1 fun e w' => KeysPost (ks ++ ks') w1 e w' ∧ Ext w1 w') := fun w1 hx => allKeys_any ks ks' l l' (by have := hoka.2.1; have := hokb.2.1; omega) va vb w1 (RV.keep hx.keep _ hva) (RV.keep hx.keep _ hvb)
  have HCL0 : Hid (∀ w1, Ext w w1 → Calls Try.prog 68 #[.slice pa pn pc] w1 fun e w' => ∃ v', e = .returned v' ∧ Gath w' w1.heap.size v' p ∧ Ext w1 w') := fun w1 hx => (clone_path p (by omega) _ w1 (hvp.ext' hx)).mono fun e w' h => h.gath
  have HPL : Hid (p.length + N ≤ 99999) := by show p.length + N ≤ 99999; omega
  have HIH0 : Hid (∀ s, s ∈ keysU ks ks' → ∀ w1 va vb, RV w1 (V.ofJ (look ks l s)) va → RV w1 (V.ofJ (look ks' l' s)) vb → ∀ v5, PathN w1 v5 (p ++ [.child s]) → Calls Try.prog 24 #[va, vb, v5] w1 (DfPost N (look ks l s) (look ks' l' s) (p ++ [.child s]) w1)) := fun s hs w1 va vb r1 r2 v5 r3 => by
    have t1 := look_lt hoka.2.1 hokb.2.1 hs
    refine ih _ _ (by omega) (look_ok hoka.2.2 s) (look_ok hokb.2.2 s) (look_nofl (by unfold J.nofl at han; exact han) s) (look_nofl (by unfold J.nofl at hbn; exact hbn) s) (by omega) _ (by simp; omega) va vb v5 w1 r1 r2 r3
  have HLN : Hid (∀ s, s ∈ keysU ks ks' → (difF N none (look ks l s) (look ks' l' s)).length ≤ 4000) := fun s hs => by
    have t1 := look_lt hoka.2.1 hokb.2.1 hs
    have := difF_len_le N (look ks l s) (look ks' l' s) none (look_ok hoka.2.2 s) (look_ok hokb.2.2 s)
    omega
  have HND : Hid ((keysU ks ks').Nodup ∧ (keysU ks ks').length ≤ 4000) := ⟨nodup_keysU hoka.1 hokb.1, by
    have := hoka.2.1
    have := hokb.2.1
    have := List.length_filter_le (fun k => !hasK ks k) ks'
    unfold keysU
    rw [List.length_append]
    omega⟩
  have hdif : difF (N + 1) none (.obj ks l) (.obj ks' l') = objPart N ks ks' l l' (keysU ks ks') := by
    unfold difF objPart
    rfl
  have HDF := Lib.hid hdif
  unfold V.ofJ RV at hva hvb
  obtain ⟨al, lc, ak, kc, rfl, -, -, -⟩ := hva
  obtain ⟨al', lc', ak', kc', rfl, -, -, -⟩ := hvb
  rw [V.ofJs_length, V.ofJs_length] at *
  clear hdif ha hb han hbn ih hn hN hp hvp hoka hokb
  generalize l.length = L1 at *
  generalize l'.length = L2 at *
  generalize ks.length = M1 at *
  generalize ks'.length = M2 at *
  go_enter Try.func24, Try.ntmps24
  go_wp2_with (go_at_call 70; refine (HAK.out _ (((Ext.refl _).alloc _).alloc _)).mono ?_; rintro e w2 ⟨⟨aK, cK, K, rfl, hKS, hKn, hKm⟩, hx2⟩; have HKS := Lib.hid hKS; have HKN := Lib.hid hKn; have HKM := Lib.hid hKm; have HX2 : Hid (Ext w w2) := Ext.trans (((Ext.refl _).alloc _).alloc _) hx2; have KX := hx2.keep; clear hKS hKn hKm hx2)
  have s0 : w2.cell? ⟨w.heap.size, 0, none⟩ = some (.int .i64 8) := KX.get ((box1_cell _ _ _ _ 0).trans rfl)
  have s1 : w2.cell? ⟨w.heap.size, 1, none⟩ = some (.int .i64 0) := KX.get ((box1_cell _ _ _ _ 1).trans rfl)
  have s2 : w2.cell? ⟨w.heap.size, 2, none⟩ = some (.float .f64 0) := KX.get ((box1_cell _ _ _ _ 2).trans rfl)
  have s3 : w2.cell? ⟨w.heap.size, 3, none⟩ = some (.string ByteArray.empty) := KX.get ((box1_cell _ _ _ _ 3).trans rfl)
  have s4 : w2.cell? ⟨w.heap.size, 4, none⟩ = some (.slice al L1 lc) := KX.get ((box1_cell _ _ _ _ 4).trans rfl)
  have s5 : w2.cell? ⟨w.heap.size, 5, none⟩ = some (.slice ak M1 kc) := KX.get ((box1_cell _ _ _ _ 5).trans rfl)
  have s6 : w2.cell? ⟨w.heap.size + 1, 0, none⟩ = some (.int .i64 8) := KX.get ((box2_cell _ _ _ _ 0).trans rfl)
  have s7 : w2.cell? ⟨w.heap.size + 1, 1, none⟩ = some (.int .i64 0) := KX.get ((box2_cell _ _ _ _ 1).trans rfl)
  have s8 : w2.cell? ⟨w.heap.size + 1, 2, none⟩ = some (.float .f64 0) := KX.get ((box2_cell _ _ _ _ 2).trans rfl)
  have s9 : w2.cell? ⟨w.heap.size + 1, 3, none⟩ = some (.string ByteArray.empty) := KX.get ((box2_cell _ _ _ _ 3).trans rfl)
  have s10 : w2.cell? ⟨w.heap.size + 1, 4, none⟩ = some (.slice al' L2 lc') := KX.get ((box2_cell _ _ _ _ 4).trans rfl)
  have s11 : w2.cell? ⟨w.heap.size + 1, 5, none⟩ = some (.slice ak' M2 kc') := KX.get ((box2_cell _ _ _ _ 5).trans rfl)
  clear KX HAK
  have hKU : ∀ k, k ∈ K ↔ k ∈ keysU ks ks' := fun k => by rw [HKM.out, mem_keysU, List.mem_append]
  have HKP : Hid (K.Perm (keysU ks ks')) := (List.perm_ext_iff_of_nodup HKN.out HND.out.1).2 hKU
  have hKl : K.length ≤ 4000 := by have h1 := (show K.Perm (keysU ks ks') from HKP.out).length_eq; have h2 := HND.out.2; omega
  have HKU := Lib.hid hKU
  clear hKU
  go_wp2
  go_loopw [7, 11] (fun o i wr => ∃ m : Nat, m ≤ K.length ∧ i = .int .i64 m ∧ ∃ ps : List (List Step), ps.length ≤ m * 4000 ∧ ps.Perm ((objPart N ks ks' l l' (K.take m)).map (p ++ ·)) ∧ PLs PathN wr w2.heap.size o ps ∧ Ext w2 wr) (fun _ i _ => K.length - (intOf i).toNat)
  case atStart => exact ⟨0, Nat.zero_le _, rfl, [], by simp, by simp [objPart], PLs.nil _ _ _, Ext.refl _⟩
  case round =>
    obtain ⟨m, hm, rfl, ps, hpl, hperm, hP, hB⟩ := hrel
    have HP := Lib.hid hP
    have HB := Lib.hid hB
    have HPERM := Lib.hid hperm
    have HLE := Lib.hid hpl
    clear hP hB hperm hpl
    by_cases hlt : m < K.length
    · obtain ⟨bK, oK, rfl, hKc⟩ := HKS.out (by intro e; subst e; simp at hlt)
      have s12 := hKc m hlt
      have hmem : K[m] ∈ keysU ks ks' := (HKU.out _).1 (List.getElem_mem hlt)
      have HSUC := Lib.hid (objPart_succ N ks ks' l l' K m hlt)
      generalize K[m] = kx at *
      have hM1 : (m : Int) < (K.length : Int) := by omega
      have hM0 : (0 : Int) ≤ (m : Int) := by omega
      have r0 := HB.out.get s0
      have r1 := HB.out.get s1
      have r2 := HB.out.get s2
      have r3 := HB.out.get s3
      have r4 := HB.out.get s4
      have r5 := HB.out.get s5
      have r6 := HB.out.get s6
      have r7 := HB.out.get s7
      have r8 := HB.out.get s8
      have r9 := HB.out.get s9
      have r10 := HB.out.get s10
      have r11 := HB.out.get s11
      have r12 := HB.out.get s12
      have d0 : wr.drew.cell? ⟨w.heap.size, 0, none⟩ = some (.int .i64 8) := r0
      have d1 : wr.drew.cell? ⟨w.heap.size, 1, none⟩ = some (.int .i64 0) := r1
      have d2 : wr.drew.cell? ⟨w.heap.size, 2, none⟩ = some (.float .f64 0) := r2
      have d3 : wr.drew.cell? ⟨w.heap.size, 3, none⟩ = some (.string ByteArray.empty) := r3
      have d4 : wr.drew.cell? ⟨w.heap.size, 4, none⟩ = some (.slice al L1 lc) := r4
      have d5 : wr.drew.cell? ⟨w.heap.size, 5, none⟩ = some (.slice ak M1 kc) := r5
      have d6 : wr.drew.cell? ⟨w.heap.size + 1, 0, none⟩ = some (.int .i64 8) := r6
      have d7 : wr.drew.cell? ⟨w.heap.size + 1, 1, none⟩ = some (.int .i64 0) := r7
      have d8 : wr.drew.cell? ⟨w.heap.size + 1, 2, none⟩ = some (.float .f64 0) := r8
      have d9 : wr.drew.cell? ⟨w.heap.size + 1, 3, none⟩ = some (.string ByteArray.empty) := r9
      have d10 : wr.drew.cell? ⟨w.heap.size + 1, 4, none⟩ = some (.slice al' L2 lc') := r10
      have d11 : wr.drew.cell? ⟨w.heap.size + 1, 5, none⟩ = some (.slice ak' M2 kc') := r11
      have d12 : wr.drew.cell? ⟨bK, oK + m, none⟩ = some (.string kx) := r12
      have HIH : Hid (∀ w1 va vb, RV w1 (V.ofJ (look ks l kx)) va → RV w1 (V.ofJ (look ks' l' kx)) vb → ∀ v5, PathN w1 v5 (p ++ [.child kx]) → Calls Try.prog 24 #[va, vb, v5] w1 (DfPost N (look ks l kx) (look ks' l' kx) (p ++ [.child kx]) w1)) := HIH0.out kx hmem
      have HLm : Hid ((difF N none (look ks l kx) (look ks' l' kx)).length ≤ 4000) := HLN.out kx hmem
      have HQ : Hid (m ≤ 4000) := by show m ≤ 4000; omega
      clear hmem hKc
      go_wp2_with fail
      go_region_held3 (fun w' => w'.cell? ⟨w.heap.size, 0, none⟩ = some (.int .i64 8) ∧ w'.cell? ⟨w.heap.size, 1, none⟩ = some (.int .i64 0) ∧ w'.cell? ⟨w.heap.size, 2, none⟩ = some (.float .f64 0) ∧ w'.cell? ⟨w.heap.size, 3, none⟩ = some (.string ByteArray.empty) ∧ w'.cell? ⟨w.heap.size, 4, none⟩ = some (.slice al L1 lc) ∧ w'.cell? ⟨w.heap.size, 5, none⟩ = some (.slice ak M1 kc) ∧ w'.cell? ⟨w.heap.size + 1, 0, none⟩ = some (.int .i64 8) ∧ w'.cell? ⟨w.heap.size + 1, 1, none⟩ = some (.int .i64 0) ∧ w'.cell? ⟨w.heap.size + 1, 2, none⟩ = some (.float .f64 0) ∧ w'.cell? ⟨w.heap.size + 1, 3, none⟩ = some (.string ByteArray.empty) ∧ w'.cell? ⟨w.heap.size + 1, 4, none⟩ = some (.slice al' L2 lc') ∧ w'.cell? ⟨w.heap.size + 1, 5, none⟩ = some (.slice ak' M2 kc') ∧ w'.cell? ⟨bK, oK + m, none⟩ = some (.string kx))
        (first
          | (go_split_ands
             with_reducible exact ⟨k9.get s0, k9.get s1, k9.get s2, k9.get s3, k9.get s4, k9.get s5, k9.get s6, k9.get s7, k9.get s8, k9.get s9, k9.get s10, k9.get s11, k9.get s12⟩)
          | (go_split_ands
             with_reducible exact ⟨k8.get s0, k8.get s1, k8.get s2, k8.get s3, k8.get s4, k8.get s5, k8.get s6, k8.get s7, k8.get s8, k8.get s9, k8.get s10, k8.get s11, k8.get s12⟩)
          | (go_split_ands
             with_reducible exact ⟨k7.get s0, k7.get s1, k7.get s2, k7.get s3, k7.get s4, k7.get s5, k7.get s6, k7.get s7, k7.get s8, k7.get s9, k7.get s10, k7.get s11, k7.get s12⟩)
          | (go_split_ands
             with_reducible exact ⟨(k6.trans (Keep.alloc _ _)).get s0, (k6.trans (Keep.alloc _ _)).get s1, (k6.trans (Keep.alloc _ _)).get s2, (k6.trans (Keep.alloc _ _)).get s3, (k6.trans (Keep.alloc _ _)).get s4, (k6.trans (Keep.alloc _ _)).get s5, (k6.trans (Keep.alloc _ _)).get s6, (k6.trans (Keep.alloc _ _)).get s7, (k6.trans (Keep.alloc _ _)).get s8, (k6.trans (Keep.alloc _ _)).get s9, (k6.trans (Keep.alloc _ _)).get s10, (k6.trans (Keep.alloc _ _)).get s11, (k6.trans (Keep.alloc _ _)).get s12⟩)
          | (go_split_ands
             with_reducible exact ⟨k6.get s0, k6.get s1, k6.get s2, k6.get s3, k6.get s4, k6.get s5, k6.get s6, k6.get s7, k6.get s8, k6.get s9, k6.get s10, k6.get s11, k6.get s12⟩)
          | (go_split_ands
             with_reducible exact ⟨k5.get s0, k5.get s1, k5.get s2, k5.get s3, k5.get s4, k5.get s5, k5.get s6, k5.get s7, k5.get s8, k5.get s9, k5.get s10, k5.get s11, k5.get s12⟩)
          | (go_split_ands
             with_reducible exact ⟨k4.get s0, k4.get s1, k4.get s2, k4.get s3, k4.get s4, k4.get s5, k4.get s6, k4.get s7, k4.get s8, k4.get s9, k4.get s10, k4.get s11, k4.get s12⟩)
          | (go_split_ands
             with_reducible exact ⟨k3.get s0, k3.get s1, k3.get s2, k3.get s3, k3.get s4, k3.get s5, k3.get s6, k3.get s7, k3.get s8, k3.get s9, k3.get s10, k3.get s11, k3.get s12⟩)
          | (go_split_ands
             with_reducible exact ⟨d0, d1, d2, d3, d4, d5, d6, d7, d8, d9, d10, d11, d12⟩)
          | (go_split_ands
             with_reducible exact ⟨r0, r1, r2, r3, r4, r5, r6, r7, r8, r9, r10, r11, r12⟩)
          | go_keep)
        (first
          | (go_at_call 59; refine (HMB.out _ (Ext.trans HX2.out X3.out) kx).mono ?_; rintro e w4 ⟨vb1, rfl, rvb, hx4⟩; have RB1 := Lib.hid rvb; have X4 : Hid (Ext w2 w4) := Ext.trans X3.out hx4; have X34 := Lib.hid hx4; have k4 := X4.out.keep; clear rvb hx4)
          | (go_at_call 59; refine (HMA.out _ (Ext.trans HX2.out (Ext.drew HB.out)) kx).mono ?_; rintro e w3 ⟨va1, rfl, rva, hx3⟩; have RA1 := Lib.hid rva; have X3 : Hid (Ext w2 w3) := Ext.trans (Ext.drew HB.out) hx3; have X03 : Hid (Ext wr w3) := Ext.trans (Ext.drew (Ext.refl wr)) hx3; have k3 := X3.out.keep; clear rva hx3)
          | (go_at_call 68; refine (HCL0.out _ (Ext.trans HX2.out X4.out)).mono ?_; rintro e w5 ⟨v5, rfl, hg5, hx5⟩; have G5 := Lib.hid hg5; have X45 := Lib.hid hx5; have k5 : Keep w2 w5 := (Ext.trans X4.out hx5).keep; clear hg5 hx5)
          | (go_at_call 61; refine (child_any kx w5).mono ?_; rintro e w6 ⟨rfl, hx6⟩; have X56 := Lib.hid hx6; have k6 : Keep w2 w6 := (Ext.trans (Ext.trans X4.out X45.out) hx6).keep; clear hx6)
          | (refine step_append_frag (.tmp 99) (.tmp 105) rfl rfl w4 w6 v5 p (.child kx) ⟨3, kx, none, 0, 0⟩ _ rfl (G5.out.ext' X56.out) ⟨rfl, rfl⟩ (Ext.trans X45.out X56.out) (by have := HPL.out; omega) w6.heap.size rfl rfl rfl ?_; intro v7 w7 hg7 hx7; have G7 := Lib.hid hg7; have X47 := Lib.hid hx7; have X7 : Hid (Ext w2 w7) := Ext.trans X4.out hx7; have k7 := X7.out.keep; clear hg7 hx7)
          | (go_at_call 24; refine (HIH.out _ _ _ (RV.keep (Ext.trans X34.out X47.out).keep _ RA1.out) (RV.keep X47.out.keep _ RB1.out) v7 G7.out.pathN).mono ?_; rintro e w8 ⟨qs, hq8, v8, rfl, hp8, hx8⟩; have Q8 := Lib.hid hq8; have P8 := Lib.hid hp8; have X08 : Hid (Ext wr w8) := Ext.trans X03.out (Ext.trans (Ext.trans X34.out X47.out) hx8); have X8 : Hid (Ext w2 w8) := Ext.trans X7.out hx8; have k8 := X8.out.keep; have hl8 : qs.length ≤ 4000 := (by have h8 := hq8.length_eq; rw [List.length_map] at h8; have h9 := HLm.out; omega); have L8 := Lib.hid hl8; clear hq8 hp8 hx8 hl8)
          | (refine step_append_pls (.tmp 85) (.tmp 107) rfl rfl w2 w8 u7 v8 ps qs _ (HP.out.ext PathN.pq X08.out) P8.out X8.out (by have h8 := HLE.out; have h7 := L8.out; have h6 := HQ.out; omega) rfl rfl ?_; intro v9 w9 hp9 hx9; have P9 := Lib.hid hp9; have X9 := Lib.hid hx9; have k9 := hx9.keep; clear hp9 hx9))
      go_wp2_with fail
      go_roundw
      case rel => exact ⟨m + 1, by omega, by go_num, ps ++ qs, by have h8 := HLE.out; have h7 := L8.out; rw [List.length_append]; omega, by rw [HSUC.out, List.map_append, under_app]; exact HPERM.out.append Q8.out, P9.out, X9.out⟩
      case measure => simp [intOf]; omega
    · have hmM : m = K.length := by omega
      subst hmM
      rw [List.take_length] at HPERM
      clear HIH0 HLN hlt hm
      go_wp2
      go_ret
      refine ⟨ps, ?_, _, rfl, HP.out.base HX2.out.size, Ext.trans HX2.out HB.out⟩
      rw [HDF.out]
      exact HPERM.out.trans ((List.Perm.flatMap_right _ HKP.out).map _)

theorem differing_any : ∀ n, DfAt n
  | 0 => fun a b h => by have := J.nodes_pos a; omega
  | N + 1 => fun a b h ha hb han hbn hN p hp va vb vp w hva hvb hvp => by
    have leaf : leafs a b = true → difF (N + 1) none a b = (if leafEq a b then [] else [[]]) → Calls Try.prog 24 #[va, vb, vp] w (DfPost (N + 1) a b p w) := fun hl hd => by
      refine (differing_leaf a b hl han p va vb vp w hva hvb hvp).mono fun e w' hq => ⟨_, ?_, hq⟩
      rw [hd]
      cases leafEq a b <;> simp
    cases a <;> cases b
    case arr.arr l l' => exact differing_arr N (differing_any N) l l' h hN ha hb han hbn p hp va vb vp w hva hvb hvp
    case obj.obj ks l ks' l' => exact differing_obj N (differing_any N) ks ks' l l' h hN ha hb han hbn p hp va vb vp w hva hvb hvp
    all_goals exact leaf rfl (by simp [difF])
end Go.Proofs.Ytikpedfggbibpaa
namespace Go.Proofs.Ytikpedfggbibpaa
open Go.RowKit Go.Lib
set_option linter.unusedVariables false
set_option linter.unusedSimpArgs false

theorem box4_cell (w : World) (A B C : Obj) (cs : Array Value) (t : TypeId) (i : Nat) : ((((w.alloc A).alloc B).alloc C).alloc (.cells cs t)).cell? ⟨w.heap.size + 1 + 1 + 1, i, none⟩ = cs[i]? :=
  cell_of_row _ _ i cs t (0, 0) (by have := heap_alloc_new (((w.alloc A).alloc B).alloc C) (.cells cs t); simpa using this)
theorem box3_cell (w : World) (A B D : Obj) (cs : Array Value) (t : TypeId) (i : Nat) : ((((w.alloc A).alloc B).alloc (.cells cs t)).alloc D).cell? ⟨w.heap.size + 1 + 1, i, none⟩ = cs[i]? :=
  (World.cell?_alloc_lt _ _ _ (by simp)).trans (cell_of_row _ _ i cs t (0, 0) (by have := heap_alloc_new ((w.alloc A).alloc B) (.cells cs t); simpa using this))
theorem heap4_two (w : World) (A B C D : Obj) : ((((w.alloc A).alloc B).alloc C).alloc D).heap[w.heap.size + 1]? = some B := by
  rw [heap_alloc_old _ _ (by simp), heap_alloc_old _ _ (by simp)]
  have := heap_alloc_new (w.alloc A) B
  simpa using this

set_option maxRecDepth 20000 in
set_option maxHeartbeats 2000000 in
theorem object_any (s : ByteArray) (j : J) (hs : s.size ≤ reachN) (v : Value) (w : World) (h : RV w (V.ofJ j) v) : Calls Try.prog 47 #[.string s, v] w (ValPost (.obj [s] [j]) w) := by
  obtain ⟨al, lc, ak, kc, e⟩ := h.six
  subst e
  have HV := Lib.hid h
  clear h
  have hof : V.ofJ (.obj [s] [j]) = .mk 8 0 0 ByteArray.empty [V.ofJ j] [s] := by simp [V.ofJ, V.ofJs]
  generalize V.ofJ j = x at *
  have HOF := Lib.hid hof
  clear hof
  go_enter Try.func47, Try.ntmps47
  go_wp2
  refine bodyPost_ret (results_cell_row rfl _ _ (w.heap.size + 1) 26 _ _ _ rfl (heap4_two _ _ _ _ _) Try.underlying26 rfl (by kernel_rfl)) rfl ?_
  refine ⟨_, rfl, ?_, ((((Ext.refl _).alloc _).alloc _).alloc _).alloc _⟩
  rw [HOF.out]
  unfold RV
  refine ⟨_, _, _, _, rfl, ⟨by decide, by decide, by decide, by decide, Nat.le_refl 1, (by show 1 * 88 ≤ 140737488351232; decide), Nat.le_refl 1, (by show 1 * 16 ≤ 140737488351232; decide), fun y hy => ?_⟩, fun _ => ⟨_, 0, rfl, ?_⟩, fun _ => ⟨_, 0, rfl, fun i hi => ?_⟩⟩
  · simp only [List.mem_singleton] at hy
    rw [hy]
    exact hs
  · unfold RVs
    refine ⟨⟨_, _, _, _, _, _, (box4_cell _ _ _ _ _ _ 0).trans rfl, (box4_cell _ _ _ _ _ _ 1).trans rfl, (box4_cell _ _ _ _ _ _ 2).trans rfl, (box4_cell _ _ _ _ _ _ 3).trans rfl, (box4_cell _ _ _ _ _ _ 4).trans rfl, (box4_cell _ _ _ _ _ _ 5).trans rfl, ?_⟩, by unfold RVs; trivial⟩
    exact RV.keep (((((Keep.alloc _ _).trans (Keep.alloc _ _)).trans (Keep.alloc _ _)).trans (Keep.alloc _ _))) _ HV.out
  · have : i = 0 := by simp at hi; omega
    subst this
    exact (box3_cell _ _ _ _ _ _ 0).trans rfl

def kA : ByteArray := { data := #[97] }
theorem int_RV (n : Int) (h : (Lit.int .i64 n).wf = true) (w : World) : RV w (V.ofJ (.int n)) (intV n) := by
  unfold V.ofJ RV
  exact ⟨none, 0, none, 0, rfl, ⟨by decide, h, by decide, by decide, by decide, by decide, by decide, by decide, fun x h => by cases h⟩, fun h => absurd rfl h, fun h => absurd rfl h⟩
theorem difF_one : difF ((J.obj [kA] [.int 1]).nodes + (J.obj [kA] [.int 2]).nodes) none (.obj [kA] [.int 1]) (.obj [kA] [.int 2]) = [[.child kA]] := by
  have e : (J.obj [kA] [.int 1]).nodes + (J.obj [kA] [.int 2]).nodes = 4 := by simp [J.nodes, J.nodesL]
  rw [e]
  simp [difF, keysU, hasK, look, under1_none, leafEq]
theorem ok_one (n : Int) (h : (Lit.int .i64 n).wf = true) : (J.obj [kA] [.int n]).ok ∧ (J.obj [kA] [.int n]).nofl ∧ (J.obj [kA] [.int n]).nodes ≤ 1000 := by
  refine ⟨?_, ?_, ?_⟩
  · simp [J.ok, J.oks]
  · simp [J.nofl, J.nofls]
  · simp [J.nodes, J.nodesL]
theorem fresh_path (w : World) (f : Fr) (st : Step) (h : FrOk w st f) : PathAt (w.alloc (.cells f.cells.toArray 38)) (.slice (some ⟨w.heap.size, 0, none⟩) 1 1) [st] := by
  refine ⟨[f], rfl, fun i h1 h2 => ?_, ?_⟩
  · have : i = 0 := by simp at h1; omega
    subst this
    exact h.ext ((Ext.refl w).alloc _)
  · simpa using own_fresh w 0 38 13 f.cells (Nat.zero_le _) rfl

set_option maxRecDepth 20000 in
set_option maxHeartbeats 8000000 in
theorem differs_any (w : World) : Calls Try.prog 20 #[] w (Gives (.bool true) w) := by
  have hw1 : (Lit.int .i64 1).wf = true := by decide
  have hw2 : (Lit.int .i64 2).wf = true := by decide
  have HI := Lib.hid (fun n w1 => integer_any n w1)
  have HOB : Hid (∀ n : Int, (Lit.int .i64 n).wf = true → ∀ w1, Calls Try.prog 47 #[.string kA, intV n] w1 (ValPost (.obj [kA] [.int n]) w1)) := fun n hn w1 => object_any kA (.int n) (by decide) _ w1 (int_RV n hn w1)
  have HID : Hid (∀ w1 va vb, RV w1 (V.ofJ (.obj [kA] [.int 1])) va → RV w1 (V.ofJ (.obj [kA] [.int 2])) vb → Calls Try.prog 21 #[va, vb, .slice none 0 0, .bool false] w1 (IDPost none (.obj [kA] [.int 1]) (.obj [kA] [.int 2]) w1)) := fun w1 va vb h1 h2 =>
    implDiff0 _ _ (ok_one 1 hw1).1 (ok_one 1 hw1).2.1 (ok_one 2 hw2).1 (ok_one 2 hw2).2.1 (ok_one 1 hw1).2.2 (ok_one 2 hw2).2.2 va vb w1 h1 h2
  have HW1 := Lib.hid hw1
  have HW2 := Lib.hid hw2
  clear hw1 hw2
  go_enter Try.func20, Try.ntmps20
  go_wp2_with fail
  refine (HI.out 1 _).mono ?_
  rintro e w1 ⟨rfl, hx1⟩
  have HX1 := Lib.hid hx1
  clear hx1
  go_wp2_with fail
  refine (HOB.out 1 HW1.out _).mono ?_
  rintro e w2 ⟨va, rfl, hva, hx2⟩
  have HX2 := Lib.hid hx2
  have HVA := Lib.hid hva
  clear hx2 hva
  go_wp2_with fail
  refine (HI.out 2 _).mono ?_
  rintro e w3 ⟨rfl, hx3⟩
  have HX3 := Lib.hid hx3
  clear hx3
  go_wp2_with fail
  refine (HOB.out 2 HW2.out _).mono ?_
  rintro e w4 ⟨vb, rfl, hvb, hx4⟩
  have HX4 := Lib.hid hx4
  have HVB := Lib.hid hvb
  clear hx4 hvb
  go_wp2_with fail
  refine (HID.out _ _ _ (RV.keep (Ext.trans HX3.out HX4.out).keep _ HVA.out) HVB.out).mono ?_
  rintro e w5 ⟨v, ps, rfl, hp, hpl, hx5⟩
  rw [difF_one, List.perm_singleton] at hp
  subst hp
  obtain ⟨a5, c5, rfl, hsh⟩ := hpl.shape
  obtain ⟨g, u, rfl, hc, q, hq, hgp⟩ := hsh 0 (by simp)
  have hq' : q = [.child kA] := by simpa using hq.symm
  subst hq'
  have hpa := hgp.2 (by simp)
  obtain ⟨ua, uc, rfl, _⟩ := hpa.sh
  have HPA := Lib.hid hpa
  have HX5 : Hid (Ext w w5) := Ext.trans HX1.out (Ext.trans HX2.out (Ext.trans HX3.out (Ext.trans HX4.out hx5)))
  clear hpl hsh hq hgp hpa hx5 HVA HVB HX1 HX2 HX3 HX4 HOB HID HI
  simp only [List.length_cons, List.length_nil, Nat.zero_add] at hc ⊢
  have hd : w5.drew.cell? ⟨g, 0, none⟩ = some (.slice ua 1 uc) := hc
  have HSP : Hid (∀ w6, Ext w5.drew w6 → Calls Try.prog 60 #[.slice ua 1 uc, .slice (some ⟨w6.heap.size, 0, none⟩) 1 1] (w6.alloc (.cells (Fr.cells ⟨3, kA, none, 0, 0⟩).toArray 38)) (Gives (.bool true) (w6.alloc (.cells (Fr.cells ⟨3, kA, none, 0, 0⟩).toArray 38)))) := fun w6 hx6 => by
    have := samePlace_any [.child kA] [.child kA] (by simp) (by simp) (.slice ua 1 uc) (.slice (some ⟨w6.heap.size, 0, none⟩) 1 1) (w6.alloc (.cells (Fr.cells ⟨3, kA, none, 0, 0⟩).toArray 38)) (HPA.out.ext (Ext.trans (Ext.drew (Ext.refl w5)) (hx6.alloc _)).keepB) (fresh_path w6 ⟨3, kA, none, 0, 0⟩ (.child kA) ⟨rfl, rfl⟩)
    rwa [pathB_iff.2 rfl] at this
  go_wp2_with fail
  go_region_held3 (fun w' => w'.cell? ⟨g, 0, none⟩ = some (.slice ua 1 uc))
    (first
      | with_reducible exact k7.get hd
      | with_reducible exact (k6.trans (Keep.alloc _ _)).get hd
      | with_reducible exact k6.get hd
      | with_reducible exact hc
      | with_reducible exact hd
      | go_keep)
    (first
      | (go_at_call 60; refine (HSP.out w6 X6.out).mono ?_; rintro e w7 ⟨rfl, hx7⟩; have X7 := Lib.hid hx7; have k7 : Keep w5.drew w7 := (Ext.trans (Ext.alloc X6.out _) hx7).keep; clear hx7)
      | (go_at_call 61; refine (child_any kA _).mono ?_; rintro e w6 ⟨rfl, hx6⟩; have X6 : Hid (Ext w5.drew w6) := hx6; have k6 := hx6.keep; clear hx6))
  go_wp2
  go_ret
  exact .mk rfl (Ext.trans HX5.out (Ext.trans (Ext.trans (Ext.drew (Ext.refl w5)) (Ext.alloc X6.out _)) X7.out))
end Go.Proofs.Ytikpedfggbibpaa
