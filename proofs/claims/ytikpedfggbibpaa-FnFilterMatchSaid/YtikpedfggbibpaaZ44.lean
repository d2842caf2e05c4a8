/- Walks: add. Walks: NewFilter, impl.FilterMatch, filters. -/
import Derived.Test.YtikpedfggbibpaaZ42
import Derived.Test.YtikpedfggbibpaaZ43
namespace Go.Proofs.Ytikpedfggbibpaa
open Go.RowKit Go.Lib
open Go.ChangeMaps (setBlock)
set_option linter.unusedVariables false
set_option linter.unusedSimpArgs false

set_option maxRecDepth 100000 in
set_option maxHeartbeats 4000000 in
/-- add of nothing -/
theorem add_empty (m b : Nat) (w : World) (hb : w.heap[b]? = some (.map #[] 0)) : Calls Try.prog 87 #[.map (some m), .map (some b)] w fun e w' => e = .returned (.tuple #[]) ∧ Ext w w' := by
  have hlt : b < w.heap.size := (Array.getElem?_eq_some_iff.1 hb).1
  have hrg := run_range_map (P := Try.prog) w 77 _ _ b #[] 0 Try.underlying77 hb
  have HB := Lib.hid hb
  clear hb
  go_enter Try.func87, Try.ntmps87
  go_wp2
  go_loopw [4] (fun q wr => wr.heap[w.heap.size]? = some (.mapIter (some b) 0 #[] 0) ∧ Ext w wr) (fun _ _ => 0)
  case atStart => exact ⟨heap_alloc_new _ _, (Ext.refl _).alloc _⟩
  case round =>
    obtain ⟨hit, hx⟩ := hrel
    have hbm : wr.heap[b]? = some (.map #[] 0) := (hx.block b hlt).trans HB.out
    have law := run_next_at (P := Try.prog) wr 0 w.heap.size b 0 0 #[] #[] 0 hit hbm (fun x hx => by simp at hx) (Nat.le_refl _)
    rcases law with ⟨h0, hrun⟩ | ⟨e, he, _⟩
    · have hnx : ∀ ty, (Instr.next (.pointer (some ⟨w.heap.size, 0, none⟩)) false ty).run Try.prog wr = _ := fun _ => hrun
      have HX := Lib.hid hx
      clear hx hrun hbm hit hrg
      go_wp2
      go_end0
      exact ⟨rfl, HX.out⟩
    · have := (mem_left he).1
      simp at this
set_option maxHeartbeats 1000000 in
/-- NewFilter of nothing -/
theorem newFilter_empty (b : Nat) (w : World) (hb : w.heap[b]? = some (.map #[] 0)) : Calls Try.prog 55 #[.map (some b)] w fun e w' => e = .returned (.map (some w.heap.size)) ∧ w'.heap[w.heap.size]? = some (.map #[] 0) ∧ w.heap.size < w'.heap.size ∧ Ext w w' := by
  have hmm := @run_makeMap Try.prog
  have hlt : b < w.heap.size := (Array.getElem?_eq_some_iff.1 hb).1
  have HC := Lib.hid (add_empty w.heap.size b (w.alloc (.map #[] 0)) ((heap_alloc_old _ _ hlt).trans hb))
  clear hb
  go_enter Try.func55, Try.ntmps55
  go_wp2_with (go_at_call 87; refine (HC.out).mono ?_; rintro e w1 ⟨rfl, hx⟩; have HX := Lib.hid hx; clear hx HC)
  go_ret
  exact ⟨rfl, (HX.out.block _ (by rw [World.size_alloc]; omega)).trans (heap_alloc_new _ _), by have := HX.out.size; rw [World.size_alloc] at this; omega, ((Ext.refl w).alloc _).trans HX.out⟩

def AddAt (n : Nat) : Prop := ∀ (ks : List ByteArray) (l : List J), (J.obj ks l).nodes ≤ n → GoodF (.obj ks l) → (V.ofJ (.obj ks l)).wt ≤ 900 → ∀ (wB w : World) (A : Lbl) (p : Pth) (m : Nat) (E0 : Pth → J → Prop) (T0 : J) (b : Nat),
  KeepB wB w → wB.heap.size ≤ w.heap.size → RA wB 0 (.obj ks l) (.iface 77 (.map (some b))) → LB wB.heap.size w A → RL w A p T0 (.iface 79 (.map (some m))) → TreeOf E0 T0 → (∀ q x, LV (.obj ks l) q x → ∀ q' x', E0 q' x' → Apart q q') →
  Calls Try.prog 87 #[.map (some m), .map (some b)] w fun e w' => e = .returned (.tuple #[]) ∧ Grew wB.heap.size p m (fun q x => E0 q x ∨ LV (.obj ks l) q x) w A w'
theorem split_at' {α : Type} (s : List α) (c : Nat) (h : c < s.length) (t : List α) : s ++ t = s.take c ++ s[c] :: (s.drop (c + 1) ++ t) := by
  have e := List.take_append_drop c s
  rw [List.drop_eq_getElem_cons h] at e
  have e2 := congrArg (fun x => x ++ t) e
  simp only [List.append_assoc, List.cons_append] at e2
  exact e2.symm
theorem snoc_of {α : Type} {L : List α} (h : L ≠ []) : ∃ s x, L = s ++ [x] := ⟨L.dropLast, L.getLast h, (List.dropLast_concat_getLast h).symm⟩

set_option maxRecDepth 100000 in
set_option maxHeartbeats 16000000 in
theorem add_step (n : Nat) (ih : AddAt n) : AddAt (n + 1) := by
  intro ks l hnd hg hwt wB w A p m E0 T0 b hkb hbs hra hlb hrl ht0 hap
  obtain ⟨g1, g2, g3, g4, g5⟩ := hg.obj_inv
  unfold RA at hra
  obtain ⟨b', es, e9, _, hbm, hrow⟩ := hra
  simp only [Value.iface.injEq, Value.map.injEq, Option.some.injEq, true_and] at e9
  subst e9
  have hltB : b < wB.heap.size := (Array.getElem?_eq_some_iff.1 hbm).1
  have hbw : w.heap[b]? = some (.map es es.size) := (hkb b hltB).trans hbm
  have hrg := run_range_map (P := Try.prog) w 77 _ _ b es es.size Try.underlying77 hbw
  have hwt2 : 1 + ks.length + ksum ks + V.wtL (V.ofJs l) ≤ 900 := by unfold V.ofJ at hwt; simp only [V.wt] at hwt; have : (ByteArray.empty).size = 0 := rfl; omega
  have hnl : J.nodesL l ≤ n := by simp only [J.nodes] at hnd; omega
  have HWT := Lib.hid hwt2
  have HBM := Lib.hid hbm
  have HROW := Lib.hid hrow
  have HG := Lib.hid hg
  have HAP := Lib.hid hap
  have HKB := Lib.hid hkb
  have HBS := Lib.hid hbs
  have HLB := Lib.hid hlb
  have HIH := Lib.hid ih
  have HLEN : Hid (es.toList.length = l.length ∧ ks.length = l.length) := RMs.len hrow
  have HLS : Hid (∀ i, (h : i < l.length) → l[i].nodes ≤ n ∧ (V.ofJ l[i]).wt ≤ V.wtL (V.ofJs l) ∧ GoodF l[i]) := fun i h => by
    refine ⟨Nat.le_trans (J.nodes_mem (List.getElem_mem h)) hnl, wt_mem ?_, g4 i _ (List.getElem?_eq_getElem h)⟩
    rw [← V.ofJs_get l i h]
    exact List.getElem_mem _
  have HKZ : Hid (∀ k ∈ ks, k.size ≤ ksum ks) := fun k hk => ksum_mem hk
  have HI0 : Hid (∀ o, AInv wB.heap.size p m (Es E0 ks l #[]) w A (w.alloc o)) := fun o => (AInv.start o hlb hrl ht0).congr fun q x => (Es.none q x).symm
  clear ih hnd hg hwt hkb hbs hlb hrl ht0 hap g1 g2 g3 g4 g5 hbm hrow hbw hwt2 hnl
  have hmn := fun (w : World) (r : Option Nat) => run_eql_map_nil (P := Try.prog) w 79 _ _ r Try.underlying79
  go_enter Try.func87, Try.ntmps87
  go_wp2
  go_loopw [4] (fun q wr => ∃ seen : Array Nat, wr.heap[w.heap.size]? = some (.mapIter (some b) es.size seen es.size) ∧ AInv wB.heap.size p m (Es E0 ks l seen) w A wr)
    (fun _ wr => (leftOf es (wr.iterSeen w.heap.size)).size)
  case atStart => exact ⟨#[], heap_alloc_new _ _, HI0.out _⟩
  case round =>
    obtain ⟨seen, hit, hinv⟩ := hrel
    clear hrg
    have hbm : wr.heap[b]? = some (.map es es.size) := by
      obtain ⟨A', T', f1, _⟩ := hinv
      exact (FrP.low f1 HLB.out HKB.out HBS.out b hltB).trans HBM.out
    have hold : ∀ x ∈ es.toList, x.born < es.size := fun x hx => by
      obtain ⟨j, hj, hj'⟩ := List.mem_iff_getElem.1 hx
      obtain ⟨e', k', a, _, _, d, _⟩ := RMs.get HROW.out j (by have := HLEN.out.1; omega)
      rw [List.getElem?_eq_getElem hj, hj'] at a
      cases a
      simp at hj
      omega
    have law := run_next_at (P := Try.prog) wr 0 w.heap.size b es.size es.size seen es es.size hit hbm hold (Nat.le_refl _)
    rcases law with ⟨h0, hrun⟩ | ⟨e, he, w1, hw1, hrun⟩
    · have hnx : ∀ ty, (Instr.next (.pointer (some ⟨w.heap.size, 0, none⟩)) false ty).run Try.prog wr = _ := fun _ => hrun
      have HEND : Hid (Grew wB.heap.size p m (fun q x => E0 q x ∨ LV (.obj ks l) q x) w A wr) := hinv.done.congr fun q x => Es.all (fun i hi => by
        obtain ⟨e', k', a, _, _, d, _⟩ := RMs.get HROW.out i hi
        have := all_seen es seen h0 e' (List.mem_of_getElem? a)
        rw [d, Nat.zero_add] at this
        exact this) q x
      clear hinv hold hrun hbm hit
      go_wp2
      go_end0
      exact ⟨rfl, HEND.out⟩
    · have hmem := mem_left he
      obtain ⟨j, hj⟩ := List.mem_iff_getElem?.1 hmem.1
      have hjl : j < l.length := by have := (List.getElem?_eq_some_iff.1 hj).1; have := HLEN.out.1; omega
      obtain ⟨e', k, a1, a2, a3, a4, a5⟩ := RMs.get HROW.out j hjl
      rw [hj] at a1
      cases a1
      have hg2 := grown_setBlock hw1 (.mapIter (some b) es.size (seen.push e.born) es.size) (g := w.heap.size)
      have hit2 : (setBlock w1 w.heap.size (.mapIter (some b) es.size (seen.push e.born) es.size)).heap[w.heap.size]? = some (.mapIter (some b) es.size (seen.push e.born) es.size) := by
        rcases hw1 with rfl | rfl
        · exact setBlock_same hit
        · exact setBlock_same (w := wr.drew) hit
      have hlt9 := left_shrinks es seen e he
      generalize setBlock w1 w.heap.size (.mapIter (some b) es.size (seen.push e.born) es.size) = w2 at hit2 hg2 hrun
      have hbm2 : w2.heap[b]? = some (.map es es.size) := (hg2.block b (Array.getElem?_eq_some_iff.1 hbm).1 (by have := HBS.out; simp; omega)).trans hbm
      have hen := run_entry_at (P := Try.prog) w2 w.heap.size b es.size seen es es.size e hit2 hbm2 hmem.1 (by
        rw [RMs.borns HROW.out]
        exact List.nodup_range')
      have hnx : ∀ ty, (Instr.next (.pointer (some ⟨w.heap.size, 0, none⟩)) false ty).run Try.prog wr = .ok (.tuple #[.bool true, .string k, e.val]) w2 := fun _ => by rw [← a3]; exact hrun
      rw [a3] at hen
      have hns : seen.contains j = false := by have := hmem.2; rw [a4, Nat.zero_add] at this; simpa using this
      have hkm : k ∈ ks := List.mem_of_getElem? a2
      have hkz : k.size ≤ 900 := by have := HKZ.out k hkm; have := HWT.out; omega
      obtain ⟨s1, s2, s3⟩ := HLS.out j hjl
      have hly : l[j]? = some l[j] := List.getElem?_eq_getElem hjl
      have HBORN : Hid (e.born = j) := show e.born = j from by rw [a4]; omega
      have HAPY : Hid (∀ r x, LV l[j] r x → ∀ q' x', Es E0 ks l seen q' x' → Apart (kcut k ++ r) q') := fun r x hr => Es.apart HG.out HAP.out a2 hly hns hr
      have HPUSH : Hid (∀ q x, Es E0 ks l (seen.push e.born) q x ↔ Es E0 ks l seen q x ∨ ∃ r, q = kcut k ++ r ∧ LV l[j] r x) := fun q x => by rw [HBORN.out]; exact Es.push a2 hly q x
      have HRV := Lib.hid a5
      have HSPL := Lib.hid (zzSplit_any k (by omega) w2)
      obtain ⟨s0, kl, hK⟩ := snoc_of (kcut_ne k)
      have HKC := Lib.hid hK
      have HS3 := Lib.hid s3
      have HIT2 := Lib.hid hit2
      have HIT0 := Lib.hid hit
      have HG2 := Lib.hid hg2
      have HINV := Lib.hid hinv
      have HL9 := Lib.hid hlt9
      have HS1 := Lib.hid s1
      have HS2 := Lib.hid s2
      have hklen : (kcut k).length = s0.length + 1 := by rw [hK]; simp
      rw [hklen] at HSPL
      have hs0 : (s0.length : Int) ≤ 1000 := by have := kcut_len k; omega
      have hs1 : (0 : Int) ≤ (s0.length : Int) := by omega
      clear he hrun hw1 hit hit2 hinv hbm hbm2 hold hmem a2 a3 a4 a5 hlt9 hg2 hns hkm hly s1 s2 s3 hK hklen hj
      generalize l[j] = y at *
      generalize e.val = ev at *
      go_wp2_with (go_at_call 102; refine (HSPL.out).mono ?_; rintro e0 w3 ⟨gP, cP, rfl, hks3, hc3, hgP, hx3⟩; have HK3 := Lib.hid hks3; have hc4 : (s0.length : Int) ≤ (cP : Int) := (by omega); have hc5 : 0 < cP := (by omega); have HC3 := Lib.hid hc3; have HGP := Lib.hid hgP; have HX3 := Lib.hid hx3; clear hks3 hc3 hgP hx3 HSPL)
      obtain ⟨A', hb3, hb2, hA0, hlt2, hf3, hlg, hst0, hback⟩ := AInv.round HINV.out HG2.out HX3.out
      have hpk : ∀ W, FrP (Out A' p) w3 W → (∀ i, (h : i < s0.length) → W.cell? ⟨gP, i, none⟩ = some (.string s0[i])) ∧ W.cell? ⟨gP, s0.length, none⟩ = some (.string kl) := fun W hW => by
        obtain ⟨bq, oq, eq, hcq⟩ := HK3.out (kcut_ne k)
        simp only [Option.some.injEq, Addr.mk.injEq, and_true] at eq
        obtain ⟨rfl, rfl⟩ := eq
        have hgl : gP < w3.heap.size := lt_of_cell (hcq 0 (by rw [HKC.out]; simp))
        have hkeep : ∀ i u, w3.cell? ⟨gP, i, none⟩ = some u → W.cell? ⟨gP, i, none⟩ = some u := fun i u hu => by
          rw [World.cell?_of_block (hW.block gP hgl (Out.fresh hb2 HGP.out))]
          exact hu
        have hall : ∀ i u, (s0 ++ [kl])[i]? = some u → W.cell? ⟨gP, i, none⟩ = some (.string u) := fun i u hu => by
          rw [← HKC.out] at hu
          obtain ⟨h1, h2⟩ := List.getElem?_eq_some_iff.1 hu
          have := hcq i h1
          rw [Nat.zero_add, h2] at this
          exact hkeep i _ this
        exact ⟨fun i h => hall i _ (by rw [List.getElem?_append_left h, List.getElem?_eq_getElem h]), hall _ _ (by rw [List.getElem?_append_right (Nat.le_refl _)]; simp)⟩
      have HPK := Lib.hid hpk
      obtain ⟨r0, x0, hr0⟩ := HS3.out.one
      have HQ0 : Hid (∀ q' x', Es E0 ks l seen q' x' → Apart (s0 ++ kl :: r0) q') := fun q' x' h => by
        have := HAPY.out r0 x0 hr0 q' x' h
        rw [HKC.out] at this
        simpa using this
      have HST0 := Lib.hid hst0
      have HBACK := Lib.hid hback
      have HB3 := Lib.hid hb3
      have HF3 := Lib.hid hf3
      have HKB3 : Hid (KeepB wB w3) := FrP.low hf3 HLB.out HKB.out HBS.out
      have HBS3 : Hid (wB.heap.size ≤ w3.heap.size) := Nat.le_trans HBS.out hf3.size
      have HIT3 : Hid (w3.heap[w.heap.size]? = some (.mapIter (some b) es.size (seen.push e.born) es.size)) := (HX3.out.block _ hlt2).trans HIT2.out
      clear hst0 hback hb3 hb2 hA0 hlt2 hf3 hlg hpk hr0
      obtain ⟨wo, rfl⟩ : ∃ wo : World, wo = wr := ⟨_, rfl⟩
      go_loopw [7, 35] (fun t7 i wr => ∃ (A2 : Lbl) (mm : Nat) (Ec : Pth → J → Prop) (c : Nat), t7 = .map (some mm) ∧ i = .int .i64 c ∧ c ≤ s0.length ∧ St wB.heap.size p m (Es E0 ks l seen) w3 A' wr A2 (s0.take c) mm Ec) (fun _ i _ => s0.length - (intOf i).toNat)
      case atStart => exact ⟨A', m, _, 0, rfl, rfl, Nat.zero_le _, by simpa using HST0.out⟩
      case round =>
        obtain ⟨A2, mm, Ec, c, rfl, rfl, hcl, hst⟩ := hrel
        clear hen hnx
        by_cases hlt : c < s0.length
        · have hcell := (HPK.out _ hst.fr).1 c hlt
          have hin := St.into hst s0[c] (s0 ++ kl :: r0) HQ0.out ⟨s0.drop (c + 1) ++ kl :: r0, split_at' s0 c hlt _⟩
          rw [← List.take_succ_eq_append_getElem hlt] at hin
          generalize s0[c] = kc at *
          have hc1 : (c : Int) < (s0.length : Int) := by omega
          have hc0 : (0 : Int) ≤ (c : Int) := by omega
          clear hst
          rcases hin with ⟨m', hlk, hst2⟩ | ⟨hlk, hmk⟩
          · have HST2 := Lib.hid hst2
            clear hst2
            go_wp2
            go_roundw
            case rel => exact ⟨A2, m', _, c + 1, rfl, by go_num, by omega, HST2.out⟩
            case measure => simp [intOf]; omega
          · obtain ⟨w4, A4, hmu, hst4⟩ := hmk (wr.alloc (.map #[] 0)) wr.heap.size ((Ext.refl wr).alloc _) (Nat.le_refl _) (by rw [World.size_alloc]; omega) (heap_alloc_new _ _)
            have hmm := @run_makeMap Try.prog
            have HST4 := Lib.hid hst4
            clear hst4 hmk
            go_wp2
            go_roundw
            case rel => exact ⟨A4, wr.heap.size, _, c + 1, rfl, by go_num, by omega, HST4.out⟩
            case measure => simp [intOf]; omega
        · have hce : c = s0.length := by omega
          subst hce
          rw [List.take_length] at hst
          have hcell := (HPK.out _ hst.fr).2
          have HSTE := Lib.hid hst
          clear hst hlt
          have hra := HRV.out
          have HLEAF : Hid (y.isLeaf = true → ∀ w5 v, Ext wr w5 → RL w5 A2 p y v → ∃ w6, (Instr.mapUpdate 79 (.map (some mm)) (.string kl) v).run Try.prog w5 = .ok () w6 ∧ AInv wB.heap.size p m (Es E0 ks l (seen.push e.born)) w A w6 ∧ w6.heap[w.heap.size]? = some (.mapIter (some b) es.size (seen.push e.born) es.size)) := fun hl w5 v hx hv => by
            obtain ⟨w6, h1, h2⟩ := St.leaf (HSTE.out.ext hx) kl y v hl hv (fun q' x' h => by
              have := HAPY.out [] y (LV.leaf y hl) q' x' h
              rw [HKC.out, List.append_nil] at this
              exact this)
            obtain ⟨h3, h4⟩ := HBACK.out w6 _ h2
            refine ⟨w6, h1, h3.congr fun q x => ?_, h4.trans HIT3.out⟩
            rw [HPUSH.out q x, HKC.out]
            constructor
            · rintro (h | ⟨rfl, rfl⟩)
              · exact Or.inl h
              · exact Or.inr ⟨[], by rw [List.append_nil], LV.leaf _ hl⟩
            · rintro (h | ⟨r, rfl, h⟩)
              · exact Or.inl h
              · obtain ⟨rfl, rfl⟩ := (LV.leaf_iff hl r x).1 h
                exact Or.inr ⟨by rw [List.append_nil], rfl⟩
          have hks9 : (s0.length : Int) < (s0.length : Int) + 1 := by omega
          cases y with
          | null =>
            unfold RA at hra
            subst hra
            obtain ⟨w6, hmu, hai, hit6⟩ := HLEAF.out rfl wr _ (Ext.refl wr) (show RL wr A2 p (.null) (.nilIface) from by unfold RL; rfl)
            have HAI := Lib.hid hai
            have HIT6 := Lib.hid hit6
            clear hai hit6
            go_wp2
            go_roundw
            case rel => exact ⟨seen.push e.born, HIT6.out, HAI.out⟩
            case measure =>
              rw [iterSeen_of HIT6.out, iterSeen_of HIT0.out]
              exact HL9.out
          | bool bb =>
            unfold RA at hra
            subst hra
            obtain ⟨w6, hmu, hai, hit6⟩ := HLEAF.out rfl wr _ (Ext.refl wr) (show RL wr A2 p (.bool bb) (.iface 4 (.bool bb)) from by unfold RL; rfl)
            have HAI := Lib.hid hai
            have HIT6 := Lib.hid hit6
            clear hai hit6
            go_wp2
            go_roundw
            case rel => exact ⟨seen.push e.born, HIT6.out, HAI.out⟩
            case measure =>
              rw [iterSeen_of HIT6.out, iterSeen_of HIT0.out]
              exact HL9.out
          | str ss =>
            unfold RA at hra
            subst hra
            obtain ⟨w6, hmu, hai, hit6⟩ := HLEAF.out rfl wr _ (Ext.refl wr) (show RL wr A2 p (.str ss) (.iface 9 (.string ss)) from by unfold RL; rfl)
            have HAI := Lib.hid hai
            have HIT6 := Lib.hid hit6
            clear hai hit6
            go_wp2
            go_roundw
            case rel => exact ⟨seen.push e.born, HIT6.out, HAI.out⟩
            case measure =>
              rw [iterSeen_of HIT6.out, iterSeen_of HIT0.out]
              exact HL9.out
          | int nn =>
            unfold RA at hra
            subst hra
            have HAS : Hid (Calls Try.prog 83 #[.iface 2 (.int .i64 nn)] wr (Gives (.tuple #[.int .i64 nn, .bool true]) wr)) := asInt_any 0 (.int nn) (by unfold J.nofl; trivial) _ wr (by unfold RA; rfl)
            go_wp2_with (go_at_call 83; refine (HAS.out).mono ?_; rintro e0 w5 ⟨rfl, hx5⟩; obtain ⟨w6, hmu, hai, hit6⟩ := HLEAF.out rfl w5 (.iface 2 (.int .i64 nn)) hx5 (show RL w5 A2 p (.int nn) (.iface 2 (.int .i64 nn)) from (by unfold RL; rfl)); have HAI := Lib.hid hai; have HIT6 := Lib.hid hit6; clear hai hit6 hx5 HAS)
            go_roundw
            case rel => exact ⟨seen.push e.born, HIT6.out, HAI.out⟩
            case measure =>
              rw [iterSeen_of HIT6.out, iterSeen_of HIT0.out]
              exact HL9.out
          | flt bb => unfold RA at hra; have := HS3.out; cases this with | leaf _ h => cases h
          | arr bb => have := HS3.out; cases this with | leaf _ h => cases h
          | obj ks' l' =>
            have hra2 := hra
            unfold RA at hra
            obtain ⟨b2, es2, rfl, _⟩ := hra
            have HADD : Hid (∀ W A3 m3 Ec3, St wB.heap.size p m (Es E0 ks l seen) w3 A' W A3 (s0 ++ [kl]) m3 Ec3 → Calls Try.prog 87 #[.map (some m3), .map (some b2)] W fun e0 w' => e0 = .returned (.tuple #[]) ∧ AInv wB.heap.size p m (Es E0 ks l (seen.push e.born)) w A w' ∧ w'.heap[w.heap.size]? = some (.mapIter (some b) es.size (seen.push e.born) es.size)) := fun W A3 m3 Ec3 hst => by
              obtain ⟨lb, ⟨T, hT1, hT2⟩, hec⟩ := hst.sub
              have hfr := hst.fr
              refine (HIH.out ks' l' HS1.out HS3.out (by have := HWT.out; have := HS2.out; omega) wB W A3 (p ++ (s0 ++ [kl])) m3 Ec3 T b2 (FrP.low hfr HB3.out HKB3.out HBS3.out) (Nat.le_trans HBS3.out hfr.size) hra2 lb hT1 hT2 fun q x hq q' x' hq' => ?_).mono fun e0 w' ⟨he, hgr⟩ => ?_
              · have := HAPY.out q x hq _ x' ((hec q' x').1 hq')
                rw [HKC.out] at this
                exact Apart.app.1 this
              · obtain ⟨h3, h4⟩ := HBACK.out w' _ (hst.back hgr HS3.out.one)
                refine ⟨he, h3.congr fun q x => ?_, h4.trans HIT3.out⟩
                rw [HPUSH.out q x, HKC.out]
            have hin := St.into HSTE.out kl (s0 ++ kl :: r0) HQ0.out ⟨r0, rfl⟩
            clear hra2 HLEAF
            rcases hin with ⟨m', hlk, hst2⟩ | ⟨hlk, hmk⟩
            · have HCA := Lib.hid (HADD.out wr A2 m' _ hst2)
              clear hst2
              go_wp2_with (go_at_call 87; refine (HCA.out).mono ?_; rintro e0 w6 ⟨rfl, hai, hit6⟩; have HAI := Lib.hid hai; have HIT6 := Lib.hid hit6; clear hai hit6 HCA)
              go_roundw
              case rel => exact ⟨seen.push e.born, HIT6.out, HAI.out⟩
              case measure =>
                rw [iterSeen_of HIT6.out, iterSeen_of HIT0.out]
                exact HL9.out
            · have hnf := newFilter_empty wr.heap.size (wr.alloc (.map #[] 0)) (heap_alloc_new wr _)
              rw [World.size_alloc] at hnf
              have HNF := Lib.hid hnf
              clear hnf
              have hmm := @run_makeMap Try.prog
              have HMK := Lib.hid hmk
              clear hmk
              go_wp2_with (first
                | (go_at_call 87; refine (HCA.out).mono ?_; rintro e0 w7 ⟨rfl, hai, hit6⟩; have HAI := Lib.hid hai; have HIT6 := Lib.hid hit6; clear hai hit6 HCA)
                | (go_at_call 55; refine (HNF.out).mono ?_; rintro e0 w5 ⟨rfl, hm5, hl5, hx5⟩; obtain ⟨w6, A6, hmu, hst6⟩ := HMK.out w5 (wr.heap.size + 1) (((Ext.refl wr).alloc _).trans hx5) (by omega) hl5 hm5; have HCA := Lib.hid (HADD.out w6 A6 _ _ hst6); clear hst6 hm5 hl5 hx5 HNF HMK))
              go_roundw
              case rel => exact ⟨seen.push e.born, HIT6.out, HAI.out⟩
              case measure =>
                rw [iterSeen_of HIT6.out, iterSeen_of HIT0.out]
                exact HL9.out
theorem add_all : ∀ n, AddAt n
  | 0 => fun ks l h => by have := (J.obj ks l).nodes_pos; omega
  | n + 1 => add_step n (add_all n)
end Go.Proofs.Ytikpedfggbibpaa
namespace Go.Proofs.Ytikpedfggbibpaa
open Go.RowKit Go.Lib
set_option linter.unusedVariables false
set_option linter.unusedSimpArgs false

/-- what NewFilter leaves: a Filter that is the tree of the leaves -/
def NfPost (f : J) (w : World) (e : Ending) (w' : World) : Prop :=
  ∃ (m : Nat) (kt : List ByteArray) (lt : List J), e = .returned (.map (some m)) ∧ RF w' (.obj kt lt) (.iface 79 (.map (some m))) ∧ TreeOf (LV f) (.obj kt lt) ∧ Ext w w'
set_option maxHeartbeats 1000000 in
theorem newFilter_any (ks : List ByteArray) (l : List J) (hg : GoodF (.obj ks l)) (hwt : (V.ofJ (.obj ks l)).wt ≤ 900) (b : Nat) (w : World) (h : RA w 0 (.obj ks l) (.iface 77 (.map (some b)))) :
    Calls Try.prog 55 #[.map (some b)] w (NfPost (.obj ks l) w) := by
  have hmm := @run_makeMap Try.prog
  have hs1 : (w.alloc (.map #[] 0)).heap.size = w.heap.size + 1 := World.size_alloc _ _
  have hlb : LB w.heap.size (w.alloc (.map #[] 0)) fun b => if b = w.heap.size then some [] else none := fun b q e => by
    by_cases hb : b = w.heap.size
    · subst hb
      exact ⟨Nat.le_refl _, by omega⟩
    · simp [hb] at e
  have HC := Lib.hid (add_all (J.obj ks l).nodes ks l (Nat.le_refl _) hg hwt w (w.alloc (.map #[] 0)) (fun b => if b = w.heap.size then some [] else none) [] w.heap.size (fun _ _ => False) (.obj [] []) b
    ((Ext.refl w).alloc _).keepB (by omega) h hlb (by unfold RL; exact ⟨w.heap.size, #[], rfl, by simp, heap_alloc_new _ _, by unfold RLs; exact ⟨rfl, rfl⟩⟩)
    (TreeOf.obj _ _ _ (by simp) rfl (fun p x h => h.elim) (fun k hk => by simp at hk) (fun k hk => by simp at hk)) (fun q x _ q' x' h => h.elim))
  have HS1 := Lib.hid hs1
  clear h hg hwt hlb hs1
  go_enter Try.func55, Try.ntmps55
  go_wp2_with (go_at_call 87; refine (HC.out).mono ?_; rintro e w1 ⟨rfl, hx⟩; have HX := Lib.hid hx; clear hx HC)
  go_ret
  obtain ⟨A', T, h1, h2, h3, h4, h5⟩ := HX.out
  obtain ⟨es, kt, lt, rfl, _⟩ := h4.isObj
  refine ⟨w.heap.size, kt, lt, rfl, RL.rf _ h4, h5.congr fun q x => by simp, ?_⟩
  refine ⟨h1.os, h1.tape, h1.output, by have := h1.size; have := HS1.out; omega, fun k hk => ?_⟩
  refine (h1.block k (by have := HS1.out; omega) fun q e => ?_).trans (heap_alloc_old _ _ hk)
  have : k ≠ w.heap.size := by omega
  simp [this] at e

theorem RA.toObj {w : World} {lo : Nat} {ks : List ByteArray} {l : List J} {v : Value} (h : RA w lo (.obj ks l) v) : ∃ b, v = .iface 77 (.map (some b)) := by
  unfold RA at h
  obtain ⟨m, es, e, _⟩ := h
  exact ⟨m, e⟩
theorem RA.low {w : World} {lo : Nat} {j : J} {v : Value} (h : RA w lo j v) : RA w 0 j v := RA.keep (fun _ _ _ => rfl) (Nat.zero_le _) j h
set_option maxRecDepth 100000 in
set_option maxHeartbeats 8000000 in
theorem implMatch_any (ks : List ByteArray) (l : List J) (v : J) (hg : GoodF (.obj ks l)) (hf : (J.obj ks l).ok) (hfw : (V.ofJ (.obj ks l)).wt ≤ 900) (hv : v.ok) (hvn : v.nofl) (hvw : (V.ofJ v).wt ≤ 900) (T : J) (hT : TreeOf (LV (.obj ks l)) T) (vf vv : Value) (w : World) (h1 : RV w (V.ofJ (.obj ks l)) vf) (h2 : RV w (V.ofJ v) vv) :
    Calls Try.prog 18 #[vf, vv] w (Gives (.tuple #[.bool (suitF 2000 T v), .bool false]) w) := by
  have hfn := nodes_wt (.obj ks l)
  have hvn2 := nodes_wt v
  have HS1 : Hid (∀ w1, Keep w w1 → Calls Try.prog 52 #[vf, .int .i64 0] w1 (Gives (.bool true) w1)) := fun w1 hk => simple_any _ hf 0 (by omega) vf w1 (RV.keep hk _ h1)
  have HS2 : Hid (∀ w1, Keep w w1 → Calls Try.prog 52 #[vv, .int .i64 0] w1 (Gives (.bool true) w1)) := fun w1 hk => simple_any _ hv 0 (by omega) vv w1 (RV.keep hk _ h2)
  have HRD : Hid (∀ w1, Keep w w1 → Calls Try.prog 54 #[vf, .string { data := #[] }] w1 fun e w' => ∃ v', e = .returned v' ∧ OwnStrs w' w1.heap.size v' (RDs ks l { data := #[] }) ∧ Ext w1 w') := fun w1 hk =>
    roads_any (J.obj ks l).nodes ks l (Nat.le_refl _) hg { data := #[] } (by have : (ByteArray.mk #[]).size = 0 := rfl; omega) vf w1 (RV.keep hk _ h1)
  have HCL : Hid (∀ base v' w1, OwnStrs w1 base v' (RDs ks l { data := #[] }) → Calls Try.prog 53 #[v'] w1 fun e w' => e = .returned (.bool false) ∧ w1.grownBy w' v'.ownBlock) := fun base v' w1 ho =>
    clashes_any base v' _ w1 ho (by
      have h3 := RDs_len ks l { data := #[] }
      have h4 : J.nodesL l ≤ 900 := by simp only [J.nodes] at hfn; omega
      unfold reachN
      omega) (by
      have := RD_pair hg { data := #[] }
      unfold RD at this
      exact this)
  have HP1 : Hid (∀ w1, Keep w w1 → Calls Try.prog 40 #[vf] w1 (PlainPost (.obj ks l) w1)) := fun w1 hk => plain_any _ _ (Nat.le_refl _) hf vf w1 (RV.keep hk _ h1)
  have HP2 : Hid (∀ w1, Keep w w1 → Calls Try.prog 40 #[vv] w1 (PlainPost v w1)) := fun w1 hk => plain_any _ _ (Nat.le_refl _) hv vv w1 (RV.keep hk _ h2)
  have HNF : Hid (∀ w1 b, RA w1 0 (.obj ks l) (.iface 77 (.map (some b))) → Calls Try.prog 55 #[.map (some b)] w1 (NfPost (.obj ks l) w1)) := fun w1 b h => newFilter_any ks l hg hfw b w1 h
  have HFM : Hid (∀ w1 kt lt m vd, TreeOf (LV (.obj ks l)) (.obj kt lt) → RF w1 (.obj kt lt) (.iface 79 (.map (some m))) → RA w1 0 v vd → Calls Try.prog 56 #[.map (some m), vd] w1 (Gives (.bool (suitF 2000 T v)) w1)) := fun w1 kt lt m vd ht hr hd => by
    have hn : (J.obj kt lt).nodes ≤ 900 := by
      refine Nat.le_trans (tree_nodes ht (PF (.obj ks l)) hg.one fun q x h s r e => LV.inits h s r e) ?_
      exact Nat.le_trans (PF_wt _) hfw
    rw [suit_congr 2000 _ T (.obj kt lt) v hT ht]
    exact filterMatch_any kt lt v 2000 (by omega) (Nat.le_refl _) ht.okj.1 hv hvn m vd w1 hr hd
  clear hfn hvn2 hg hf hfw hv hvn hvw hT
  generalize hR : suitF 2000 T v = R at *
  clear hR
  generalize RDs ks l { data := #[] } = LR at *
  have hk8 : ∃ al lc ak kc, vf = .agg #[.int .i64 8, .int .i64 0, .float .f64 0, .string ByteArray.empty, .slice al l.length lc, .slice ak ks.length kc] := by
    unfold V.ofJ RV at h1
    obtain ⟨al, lc, ak, kc, e, _⟩ := h1
    rw [V.ofJs_length] at e
    exact ⟨al, lc, ak, kc, e⟩
  obtain ⟨al, lc, ak, kc, rfl⟩ := hk8
  obtain ⟨tal, tlc, tak, tkc, rfl⟩ := h2.six
  clear h1 h2
  obtain ⟨wb, hwb⟩ : ∃ wb, wb = (w.alloc (.cells #[.int .i64 8, .int .i64 0, .float .f64 0, .string ByteArray.empty, .slice al l.length lc, .slice ak ks.length kc] 26)).alloc (.cells #[.int .i64 (V.ofJ v).kind, .int .i64 (V.ofJ v).n, .float .f64 (V.ofJ v).f, .string (V.ofJ v).s, .slice tal (V.ofJ v).l.length tlc, .slice tak (V.ofJ v).keys.length tkc] 26) := ⟨_, rfl⟩
  have XB : Hid (Ext w wb) := by rw [hwb]; exact ((Ext.refl w).alloc _).alloc _
  have TB : Hid (Two w wb (.int .i64 8) (.int .i64 0) (.float .f64 0) (.string ByteArray.empty) (.slice al l.length lc) (.slice ak ks.length kc) (.int .i64 (V.ofJ v).kind) (.int .i64 (V.ofJ v).n) (.float .f64 (V.ofJ v).f) (.string (V.ofJ v).s) (.slice tal (V.ofJ v).l.length tlc) (.slice tak (V.ofJ v).keys.length tkc)) := by rw [hwb]; exact Two.of (Keep.refl _)
  go_enter Try.func18, Try.ntmps18
  go_wp2_with fail
  rw [← hwb]
  clear hwb
  refine (HS1.out _ XB.out.keep).mono ?_
  rintro e w1 ⟨rfl, hx1⟩
  have X1 := Lib.hid hx1
  obtain ⟨a0, a1, a2, a3, a4, a5, e0, e1, e2, e3, e4, e5⟩ := TB.out.keep hx1.keep
  clear hx1
  go_wp2_with fail
  refine (HS2.out _ (XB.out.trans X1.out).keep).mono ?_
  rintro e w2 ⟨rfl, hx2⟩
  have X2 := Lib.hid (Ext.trans X1.out hx2)
  clear a0 a1 a2 a3 a4 a5 e0 e1 e2 e3 e4 e5 X1 hx2
  obtain ⟨a0, a1, a2, a3, a4, a5, e0, e1, e2, e3, e4, e5⟩ := TB.out.keep X2.out.keep
  go_wp2_with fail
  refine (HRD.out _ (XB.out.trans X2.out).keep).mono ?_
  rintro e w3 ⟨v3, rfl, ho3, hx3⟩
  obtain ⟨a9, c9, rfl, hc9⟩ := own_sh ho3
  have HO3 := Lib.hid ho3
  have X3 := Lib.hid (Ext.trans X2.out hx3)
  have S3 : Hid (wb.heap.size ≤ w2.heap.size) := X2.out.size
  clear a0 a1 a2 a3 a4 a5 e0 e1 e2 e3 e4 e5 X2 hx3 ho3 hc9
  go_wp2_with fail
  refine (HCL.out _ _ _ HO3.out).mono ?_
  rintro e w4 ⟨rfl, hg4⟩
  have X4 : Hid (Ext wb w4) := X3.out.grown hg4 X3.out.size (fun k hk => Nat.le_trans S3.out (HO3.out.lt k hk).1)
  clear hg4 X3 S3 HO3
  obtain ⟨a0, a1, a2, a3, a4, a5, e0, e1, e2, e3, e4, e5⟩ := TB.out.keep X4.out.keep
  go_wp2_with fail
  refine (HP1.out _ (XB.out.trans X4.out).keep).mono ?_
  rintro e w5 ⟨vp, rfl, hra, hx5⟩
  obtain ⟨b, rfl⟩ := hra.toObj
  have HRA := Lib.hid hra.low
  have X5 := Lib.hid (Ext.trans X4.out hx5)
  clear a0 a1 a2 a3 a4 a5 e0 e1 e2 e3 e4 e5 X4 hx5 hra
  obtain ⟨a0, a1, a2, a3, a4, a5, e0, e1, e2, e3, e4, e5⟩ := TB.out.keep X5.out.keep
  clear a0 a1 a2 a3 a4 a5
  go_wp2_with fail
  have d0 : w5.drew.cell? ⟨w.heap.size + 1, 0, none⟩ = some (.int .i64 (V.ofJ v).kind) := e0
  have d1 : w5.drew.cell? ⟨w.heap.size + 1, 1, none⟩ = some (.int .i64 (V.ofJ v).n) := e1
  have d2 : w5.drew.cell? ⟨w.heap.size + 1, 2, none⟩ = some (.float .f64 (V.ofJ v).f) := e2
  have d3 : w5.drew.cell? ⟨w.heap.size + 1, 3, none⟩ = some (.string (V.ofJ v).s) := e3
  have d4 : w5.drew.cell? ⟨w.heap.size + 1, 4, none⟩ = some (.slice tal (V.ofJ v).l.length tlc) := e4
  have d5 : w5.drew.cell? ⟨w.heap.size + 1, 5, none⟩ = some (.slice tak (V.ofJ v).keys.length tkc) := e5
  have HRAD : Hid (RA w5.drew 0 (.obj ks l) (.iface 77 (.map (some b)))) := RA.keep (w := w5) (w' := w5.drew) (lo := 0) (fun _ _ _ => rfl) (Nat.le_refl _) _ HRA.out
  have KW5 : Hid (Keep w w5) := (XB.out.trans X5.out).keep
  go_region_held3 (fun w' => w'.cell? ⟨w.heap.size + 1, 0, none⟩ = some (.int .i64 (V.ofJ v).kind) ∧ w'.cell? ⟨w.heap.size + 1, 1, none⟩ = some (.int .i64 (V.ofJ v).n) ∧ w'.cell? ⟨w.heap.size + 1, 2, none⟩ = some (.float .f64 (V.ofJ v).f) ∧ w'.cell? ⟨w.heap.size + 1, 3, none⟩ = some (.string (V.ofJ v).s) ∧ w'.cell? ⟨w.heap.size + 1, 4, none⟩ = some (.slice tal (V.ofJ v).l.length tlc) ∧ w'.cell? ⟨w.heap.size + 1, 5, none⟩ = some (.slice tak (V.ofJ v).keys.length tkc))
    (first
      | (go_split_ands
         with_reducible exact ⟨k8.get e0, k8.get e1, k8.get e2, k8.get e3, k8.get e4, k8.get e5⟩)
      | (go_split_ands
         with_reducible exact ⟨k7.get e0, k7.get e1, k7.get e2, k7.get e3, k7.get e4, k7.get e5⟩)
      | (go_split_ands
         with_reducible exact ⟨k6.get e0, k6.get e1, k6.get e2, k6.get e3, k6.get e4, k6.get e5⟩)
      | (go_split_ands
         with_reducible exact ⟨d0, d1, d2, d3, d4, d5⟩)
      | go_keep)
    (first
      | (go_at_call 56; refine (HFM.out _ kt lt mF vd HTR.out (by first | exact RF.keep X67.out.keepB _ HRF.out | exact HRF.out) (by first | exact RA.keep (X76.out.keepB.from 0) (Nat.le_refl _) _ HRD7.out | exact HRD7.out)).mono ?_; rintro e w8 ⟨rfl, hx8⟩
         have X58 : Hid (Ext w5 w8) := by first | exact X57.out.trans hx8 | exact X56.out.trans hx8
         have k8 := X58.out.keep
         clear hx8)
      | (go_at_call 55; refine (HNF.out _ b (by first | exact HRAD.out | exact RA.keep (X57.out.keepB.from 0) (Nat.le_refl _) _ HRA.out)).mono ?_; rintro e w6 ⟨mF, kt, lt, rfl, hrf, htr, hx6⟩
         have X56 : Hid (Ext w5 w6) := by first | exact Ext.trans (Ext.drew (Ext.refl w5)) hx6 | exact X57.out.trans hx6
         first
           | (have X76 : Hid (Ext w7 w6) := hx6)
           | skip
         have k6 := X56.out.keep
         have HRF := Lib.hid hrf
         have HTR := Lib.hid htr
         clear hrf htr hx6)
      | (go_at_call 40; refine (HP2.out _ (by first | exact KW5.out.trans (Keep.drew _) | exact KW5.out.trans X56.out.keep)).mono ?_; rintro e w7 ⟨vd, rfl, hrd, hx7⟩
         have X57 : Hid (Ext w5 w7) := by first | exact Ext.trans (Ext.drew (Ext.refl w5)) hx7 | exact X56.out.trans hx7
         first
           | (have X67 : Hid (Ext w6 w7) := hx7)
           | skip
         have k7 := X57.out.keep
         have HRD7 := Lib.hid hrd.low
         clear hrd hx7))
  all_goals go_wp2_with fail
  all_goals go_ret2
  all_goals exact .mk rfl (XB.out.trans (X5.out.trans X58.out))
end Go.Proofs.Ytikpedfggbibpaa
