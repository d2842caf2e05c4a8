/- Walks: diff of two objects. -/
import Derived.Test.YtikpedfggbibpaaZ29
import Derived.Test.YtikpedfggbibpaaZ30
namespace Go.Proofs.Ytikpedfggbibpaa
open Go.RowKit Go.Lib
open Go.ChangeMaps (setBlock)
set_option linter.unusedVariables false
set_option linter.unusedSimpArgs false

/-- a world's first blocks -/
def cutW (w : World) (B : Nat) : World := { w with heap := w.heap.extract 0 B }
theorem cutW_size {w : World} {B : Nat} (h : B ≤ w.heap.size) : (cutW w B).heap.size = B := by simp [cutW]; omega
theorem cutW_ext {w : World} {B : Nat} (h : B ≤ w.heap.size) : Ext (cutW w B) w := ⟨rfl, rfl, rfl, by rw [cutW_size h]; exact h, fun k hk => by
  rw [cutW_size h] at hk
  have : k < w.heap.size := by omega
  simp only [cutW, Array.getElem?_extract]
  rw [if_pos (by omega), Nat.zero_add]⟩
theorem cutW_trans {a b c : World} {B : Nat} (h : Ext a b) (hb : B ≤ b.heap.size) (ha : a.heap.size ≤ B) (k : Ext (cutW b B) c) : Ext a c := by
  have hB := cutW_ext hb
  have h1 : Below a.heap.size a (cutW b B) := ⟨h.os, h.tape, h.output, by rw [cutW_size hb]; exact ha, fun i hi => (hB.block i (by rw [cutW_size hb]; omega)).symm.trans (h.block i hi)⟩
  exact h1.trans (k.mono (by rw [cutW_size hb]; exact ha))

def SeenOk (S : List ByteArray) (seen : Array Nat) : Prop := seen.toList.Nodup ∧ ∀ j ∈ seen.toList, j < S.length
theorem SeenOk.push {S : List ByteArray} {seen : Array Nat} {j : Nat} (h : SeenOk S seen) (hj : j < S.length) (hn : seen.contains j = false) : SeenOk S (seen.push j) := by
  refine ⟨?_, fun i hi => ?_⟩
  · rw [Array.toList_push, List.nodup_append]
    refine ⟨h.1, by simp, fun x hx y hy e => ?_⟩
    simp only [List.mem_singleton] at hy
    subst hy e
    have hh : seen.contains x = true := by simpa using hx
    rw [hh] at hn
    cases hn
  · rw [Array.toList_push, List.mem_append] at hi
    rcases hi with hi | hi
    · exact h.2 i hi
    · simp only [List.mem_singleton] at hi
      omega
def objPre (F : ByteArray → List (List Step)) (S : List ByteArray) (seen : Array Nat) : List (List Step) := seen.toList.flatMap fun j => F (S.getD j ByteArray.empty)
theorem objPre_push (F : ByteArray → List (List Step)) (S : List ByteArray) (seen : Array Nat) (j : Nat) (k : ByteArray) (h : S[j]? = some k) : objPre F S (seen.push j) = objPre F S seen ++ F k := by
  unfold objPre
  rw [Array.toList_push, List.flatMap_append, List.flatMap_singleton]
  simp [List.getD, h]
theorem objPre_all (F : ByteArray → List (List Step)) (S : List ByteArray) (seen : Array Nat) (h : SeenOk S seen) (ha : ∀ j, j < S.length → seen.contains j = true) : (objPre F S seen).Perm (S.flatMap F) := by
  have hp : seen.toList.Perm (List.range S.length) := (List.perm_ext_iff_of_nodup h.1 List.nodup_range).2 fun j => by
    rw [List.mem_range]
    constructor
    · exact h.2 j
    · intro hj
      have := ha j hj
      simpa using this
  have e : (List.range S.length).flatMap (fun j => F (S.getD j ByteArray.empty)) = S.flatMap F := by
    clear hp ha h seen
    have : ∀ (S : List ByteArray), (List.range S.length).map (fun j => S.getD j ByteArray.empty) = S := by
      intro S
      apply List.ext_getElem?
      intro i
      by_cases hi : i < S.length
      · simp [hi, List.getD]
      · simp [hi]
    have h2 := congrArg (fun q => List.flatMap F q) (this S)
    simp only [List.flatMap_map] at h2
    exact h2
  unfold objPre
  rw [← e]
  exact hp.flatMap_right _
theorem objPre_len (F : ByteArray → List (List Step)) (S : List ByteArray) (seen : Array Nat) (h : SeenOk S seen) : (objPre F S seen).length ≤ (S.flatMap F).length := by
  have e : (List.range S.length).flatMap (fun j => F (S.getD j ByteArray.empty)) = S.flatMap F := by
    have : ∀ (S : List ByteArray), (List.range S.length).map (fun j => S.getD j ByteArray.empty) = S := by
      intro S
      apply List.ext_getElem?
      intro i
      by_cases hi : i < S.length
      · simp [hi, List.getD]
      · simp [hi]
    have h2 := congrArg (fun q => List.flatMap F q) (this S)
    simp only [List.flatMap_map] at h2
    exact h2
  unfold objPre
  rw [← e]
  have hp : (List.range S.length).Perm (seen.toList ++ (List.range S.length).filter fun j => !seen.contains j) := by
    refine (List.perm_ext_iff_of_nodup List.nodup_range ?_).2 fun j => ?_
    · rw [List.nodup_append]
      refine ⟨h.1, (List.filter_sublist).nodup List.nodup_range, fun x hx y hy e => ?_⟩
      subst e
      have h1 := (List.mem_filter.1 hy).2
      have h2 : seen.contains x = true := by simpa using hx
      rw [h2] at h1
      cases h1
    · rw [List.mem_append, List.mem_filter, List.mem_range]
      constructor
      · intro hj
        cases hc : seen.contains j
        · exact Or.inr ⟨hj, rfl⟩
        · exact Or.inl (by simpa using hc)
      · rintro (hj | hj)
        · exact h.2 j hj
        · exact hj.1
  have h3 := (hp.flatMap_right fun j => F (S.getD j ByteArray.empty)).length_eq
  rw [List.flatMap_append, List.length_append] at h3
  omega

theorem perm_obj {n : Nat} {g : Ig} {ks ks' : List ByteArray} {l l' : List J} {S : List ByteArray} {seen : Array Nat} {j : Nat} {k : ByteArray} {A A' D : List DI} (hk : S[j]? = some k)
    (h : (A.map (·.2.2)).Perm (objPre (fun k => under1 g (.child k) fun g' => difF n g' (look ks l k) (look ks' l' k)) S seen)) (hsk : igSkip g (.child k) = false) (hD : (D.map (·.2.2)).Perm (difF n (igSub g (.child k)) (look ks l k) (look ks' l' k)))
    (hp : A'.map (·.2.2) = A.map (·.2.2) ++ D.map (fun d => Step.child k :: d.2.2)) : (A'.map (·.2.2)).Perm (objPre (fun k => under1 g (.child k) fun g' => difF n g' (look ks l k) (look ks' l' k)) S (seen.push j)) := by
  rw [hp, objPre_push _ _ _ _ _ hk]
  refine h.append ?_
  unfold under1
  rw [hsk]
  have := hD.map (Step.child k :: ·)
  rw [List.map_map] at this
  simpa [Function.comp_def] using this

set_option maxRecDepth 100000 in
set_option maxHeartbeats 16000000 in
theorem diff_obj (n : Nat) (ih : DiffAt n) (ks : List ByteArray) (l : List J) (ks' : List ByteArray) (l' : List J) (hN : (J.obj ks l).nodes + (J.obj ks' l').nodes ≤ n + 1) (hok1 : (J.obj ks l).ok) (hnf1 : J.nofls l) (hok2 : (J.obj ks' l').ok) (hnf2 : J.nofls l') (hsm1 : (J.obj ks l).nodes ≤ 1000) (hsm2 : (J.obj ks' l').nodes ≤ 1000)
    (g : Ig) (hg : IgOk g) (hev : g = none ∨ evenF (n + 1) (.obj ks l) (.obj ks' l')) (va vb vg : Value) (w : World) (h1 : RA w 0 (.obj ks l) va) (h2 : RA w 0 (.obj ks' l') vb) (h3 : IgAt w vg g) :
    Calls Try.prog 92 #[va, vb, .bool false, vg] w (DiffPost (n + 1) g (.obj ks l) (.obj ks' l') w) := by
  unfold RA at h1 h2
  obtain ⟨bm, es, rfl, _, hbm, hrow1⟩ := h1
  obtain ⟨bm2, es2, rfl, _, hbm2, hrow2⟩ := h2
  have hlt1 : bm < w.heap.size := (Array.getElem?_eq_some_iff.1 hbm).1
  have hlt2 : bm2 < w.heap.size := (Array.getElem?_eq_some_iff.1 hbm2).1
  have HLT1 : Hid (bm < w.heap.size) := hlt1
  have HLT2 : Hid (bm2 < w.heap.size) := hlt2
  have HBM := Lib.hid hbm
  have HBM2 := Lib.hid hbm2
  have HR1 := Lib.hid hrow1
  have HR2 := Lib.hid hrow2
  have IH := Lib.hid ih
  have HN := Lib.hid hN
  have HO1 : Hid (ks.Nodup ∧ ks.length = l.length ∧ J.oks l) := by unfold J.ok at hok1; exact hok1
  have HO2 : Hid (ks'.Nodup ∧ ks'.length = l'.length ∧ J.oks l') := by unfold J.ok at hok2; exact hok2
  have HOK1 := Lib.hid hok1
  have HOK2 := Lib.hid hok2
  have HF1 := Lib.hid hnf1
  have HF2 := Lib.hid hnf2
  have HS1 := Lib.hid hsm1
  have HS2 := Lib.hid hsm2
  have HG := Lib.hid hg
  have HEV := Lib.hid hev
  have HIG := Lib.hid h3
  obtain ⟨ag, ng, cg, rfl, hng, hn0⟩ := h3.slice
  have HN0 := Lib.hid hn0
  have HNGL := Lib.hid hng
  have hbm1 : (w.alloc (.map #[] 0)).heap[bm]? = some (.map es es.size) := (heap_alloc_old _ _ hlt1).trans hbm
  have hrg := run_range_map (P := Try.prog) (w.alloc (.map #[] 0)) 77 _ _ bm es es.size Try.underlying77 hbm1
  have hmm := @run_makeMap Try.prog
  clear hrow1 hrow2 ih hN hok1 hok2 hnf1 hnf2 hsm1 hsm2 hg hev h3 hn0 hng hbm hbm2 hbm1
  go_enter Try.func92, Try.ntmps92
  go_wp2
  go_loopw [] (fun wr => ∃ seen : Array Nat, ∃ S : List ByteArray, wr.heap[w.heap.size + 1]? = some (.mapIter (some bm) es.size seen es.size) ∧ KM wr w.heap.size S ∧ (∀ k ∈ S, k ∈ ks) ∧ (∀ q k, ks[q]? = some k → seen.contains q = true → k ∈ S) ∧ Ext w wr)
    (fun wr => (leftOf es (wr.iterSeen (w.heap.size + 1))).size)
  case atStart => exact ⟨#[], [], by have := heap_alloc_new (w.alloc (.map #[] 0)) (.mapIter (some bm) es.size #[] es.size); rw [World.size_alloc] at this; exact this, ⟨(heap_alloc_old _ _ (by simp)).trans (heap_alloc_new w _), by simp⟩, by simp, fun q k _ h => by simp at h, ((Ext.refl w).alloc _).alloc _⟩
  case round =>
    obtain ⟨seen, S, hit, hkm, hSk, hSs, hb⟩ := hrel
    have hbmr : wr.heap[bm]? = some (.map es es.size) := (hb.block bm hlt1).trans HBM.out
    have hold : ∀ x ∈ es.toList, x.born < es.size := fun x hx => by
      obtain ⟨j, hj, hj'⟩ := List.mem_iff_getElem.1 hx
      have hl := RMs.len HR1.out
      obtain ⟨e', k', a, _, _, d, _⟩ := RMs.get HR1.out j (by omega)
      rw [List.getElem?_eq_getElem hj, hj'] at a
      cases a
      simp at hj
      omega
    have law := run_next_at (P := Try.prog) wr 0 (w.heap.size + 1) bm es.size es.size seen es es.size hit hbmr hold (Nat.le_refl _)
    have HKM := Lib.hid hkm
    have HSK := Lib.hid hSk
    have HSS := Lib.hid hSs
    have HB := Lib.hid hb
    have HIT := Lib.hid hit
    clear hkm hSk hSs hb hit
    rcases law with ⟨h0, hrun⟩ | ⟨e, he, w1, hw1, hrun⟩
    · have hnx : ∀ ty, (Instr.next (.pointer (some ⟨w.heap.size + 1, 0, none⟩)) false ty).run Try.prog wr = _ := fun _ => hrun
      have HALL : Hid (∀ k, k ∈ ks → k ∈ S) := fun k hk => by
        obtain ⟨q, hq, hqk⟩ := List.getElem_of_mem hk
        have hq? : ks[q]? = some k := by rw [List.getElem?_eq_getElem hq, hqk]
        have hl := RMs.len HR1.out
        obtain ⟨e', k', a, b, _, d, _⟩ := RMs.get HR1.out q (by omega)
        have := all_seen es seen h0 e' (List.mem_of_getElem? a)
        rw [d, Nat.zero_add] at this
        exact HSS.out q k hq? this
      have hbm2r : wr.heap[bm2]? = some (.map es2 es2.size) := (HB.out.block bm2 hlt2).trans HBM2.out
      have hrg2 := run_range_map (P := Try.prog) wr 77 _ _ bm2 es2 es2.size Try.underlying77 hbm2r
      clear hold hrun hbmr hbm2r hrg hmm h0
      go_wp2
      obtain ⟨wo, rfl⟩ : ∃ wo : World, wo = wr := ⟨_, rfl⟩
      go_loopw [] (fun wr => ∃ seen : Array Nat, ∃ S : List ByteArray, wr.heap[wo.heap.size]? = some (.mapIter (some bm2) es2.size seen es2.size) ∧ KM wr w.heap.size S ∧ (∀ k ∈ S, k ∈ ks ∨ k ∈ ks') ∧ (∀ k ∈ ks, k ∈ S) ∧ (∀ q k, ks'[q]? = some k → seen.contains q = true → k ∈ S) ∧ Ext w wr)
        (fun wr => (leftOf es2 (wr.iterSeen wo.heap.size)).size)
      case atStart => exact ⟨#[], S, heap_alloc_new _ _, ⟨(heap_alloc_old _ _ (Array.getElem?_eq_some_iff.1 HKM.out.1).1).trans HKM.out.1, HKM.out.2⟩, fun k hk => Or.inl (HSK.out k hk), HALL.out, fun q k _ h => by simp at h, HB.out.alloc _⟩
      case round =>
        have HWO : Hid (w.heap.size < wo.heap.size) := (Array.getElem?_eq_some_iff.1 HKM.out.1).1
        clear HKM HSK HSS HALL HIT hnx hrg2
        obtain ⟨seen, S, hit, hkm, hSk, hSa, hSs, hb⟩ := hrel
        have hbmr : wr.heap[bm2]? = some (.map es2 es2.size) := (hb.block bm2 hlt2).trans HBM2.out
        have hold : ∀ x ∈ es2.toList, x.born < es2.size := fun x hx => by
          obtain ⟨j, hj, hj'⟩ := List.mem_iff_getElem.1 hx
          have hl := RMs.len HR2.out
          obtain ⟨e', k', a, _, _, d, _⟩ := RMs.get HR2.out j (by omega)
          rw [List.getElem?_eq_getElem hj, hj'] at a
          cases a
          simp at hj
          omega
        have law := run_next_at (P := Try.prog) wr 0 wo.heap.size bm2 es2.size es2.size seen es2 es2.size hit hbmr hold (Nat.le_refl _)
        have HKM := Lib.hid hkm
        have HSK := Lib.hid hSk
        have HSA := Lib.hid hSa
        have HSS := Lib.hid hSs
        have HB2 := Lib.hid hb
        have HIT := Lib.hid hit
        clear hkm hSk hSs hSa hb hit
        rcases law with ⟨h0, hrun⟩ | ⟨e, he, w1, hw1, hrun⟩
        · have hnx : ∀ ty, (Instr.next (.pointer (some ⟨wo.heap.size, 0, none⟩)) false ty).run Try.prog wr = _ := fun _ => hrun
          have HPU : Hid (S.Perm (keysU ks ks')) := (List.perm_ext_iff_of_nodup HKM.out.2 (nodup_keysU HO1.out.1 HO2.out.1)).2 fun k => by
            rw [mem_keysU]
            constructor
            · exact HSK.out k
            · rintro (hk | hk)
              · exact HSA.out k hk
              · obtain ⟨q, hq, hqk⟩ := List.getElem_of_mem hk
                have hq? : ks'[q]? = some k := by rw [List.getElem?_eq_getElem hq, hqk]
                have hl := RMs.len HR2.out
                obtain ⟨e', k', a, b, _, d, _⟩ := RMs.get HR2.out q (by omega)
                have := all_seen es2 seen h0 e' (List.mem_of_getElem? a)
                rw [d, Nat.zero_add] at this
                exact HSS.out q k hq? this
          have hrg3 := run_range_map (P := Try.prog) wr 130 _ _ w.heap.size (ents S) S.length Try.underlying130 HKM.out.1
          clear hold hrun hbmr h0 HSK HSA HSS HIT
          go_wp2
          obtain ⟨w5, rfl⟩ : ∃ w5 : World, w5 = wr := ⟨_, rfl⟩
          have HW5 : Hid (w.heap.size < w5.heap.size) := (Array.getElem?_eq_some_iff.1 HKM.out.1).1
          go_loopw [8] (fun v wr => ∃ seen : Array Nat, ∃ A : List DI, wr.heap[w5.heap.size]? = some (.mapIter (some w.heap.size) S.length seen S.length) ∧ SeenOk S seen ∧ DP wr (w5.heap.size + 1) v A [] [] none ∧ (A.map (·.2.2)).Perm (objPre (fun k => under1 g (.child k) fun g' => difF n g' (look ks l k) (look ks' l' k)) S seen) ∧ Ext w5 wr)
            (fun _ wr => (leftOf (ents S) (wr.iterSeen w5.heap.size)).size)
          case atStart => exact ⟨#[], [], heap_alloc_new _ _, ⟨by simp, by simp⟩, DP.nil _ _, by simp [objPre], (Ext.refl w5).alloc _⟩
          case round =>
            obtain ⟨seen, A, hit, hso, hdp, hperm, hx⟩ := hrel
            clear hnx hrg3
            obtain ⟨wo4, rfl⟩ : ∃ wo4 : World, wo4 = wo := ⟨_, rfl⟩
            have hbmr : wr.heap[w.heap.size]? = some (.map (ents S) S.length) := (hx.block _ HW5.out).trans HKM.out.1
            have hold : ∀ x ∈ (ents S).toList, x.born < S.length := fun x hx => by
              obtain ⟨j, k, h1, _, _, _, h2⟩ := ents_mem hx
              rw [h2]
              exact (List.getElem?_eq_some_iff.1 h1).1
            have law := run_next_at (P := Try.prog) wr 0 w5.heap.size w.heap.size S.length S.length seen (ents S) S.length hit hbmr hold (Nat.le_refl _)
            have HSO := Lib.hid hso
            have HDP := Lib.hid hdp
            have HPM := Lib.hid hperm
            have HX := Lib.hid hx
            have HIT := Lib.hid hit
            have HFL : Hid ((S.flatMap (fun k => under1 g (.child k) fun g' => difF n g' (look ks l k) (look ks' l' k))).Perm (difF (n + 1) g (.obj ks l) (.obj ks' l'))) := by
              refine Lib.hid ?_
              simp only [difF]
              exact HPU.out.flatMap_right _
            have hAlen : A.length ≤ 2000 := by
              have h1 := hperm.length_eq
              rw [List.length_map] at h1
              have h2 := objPre_len (fun k => under1 g (.child k) fun g' => difF n g' (look ks l k) (look ks' l' k)) S seen hso
              have h3 := HFL.out.length_eq
              have h4 := difF_len_le (n + 1) (.obj ks l) (.obj ks' l') g HOK1.out HOK2.out
              have h5 := HS1.out
              have h6 := HS2.out
              omega
            have HALN := Lib.hid hAlen
            clear hso hdp hperm hx hit hAlen
            rcases law with ⟨h0, hrun⟩ | ⟨e, he, w1, hw1, hrun⟩
            · have hnx : ∀ ty, (Instr.next (.pointer (some ⟨w5.heap.size, 0, none⟩)) false ty).run Try.prog wr = _ := fun _ => hrun
              have HPF : Hid ((A.map (·.2.2)).Perm (difF (n + 1) g (.obj ks l) (.obj ks' l'))) := HPM.out.trans ((objPre_all _ S seen HSO.out (fun j hj => by
                have h1 := ents_get S j
                rw [List.getElem?_eq_getElem hj] at h1
                have := all_seen (ents S) seen h0 _ (List.mem_of_getElem? h1)
                exact this)).trans HFL.out)
              clear hold hrun hbmr h0
              go_wp2
              go_ret
              exact ⟨_, A, rfl, HPF.out, HDP.out.base (by have := HW5.out; omega), Ext.trans HB2.out HX.out⟩
            · have hmem := mem_left he
              obtain ⟨j, k, hk?, _, a3, a4, a5⟩ := ents_mem hmem.1
              have hcn := hmem.2
              have hlt9 := left_shrinks (ents S) seen e he
              have hw1 : Ext w5 w1 ∧ w1.heap = wr.heap ∧ DP w1 (w5.heap.size + 1) u8 A [] [] none := by
                rcases hw1 with rfl | rfl
                · exact ⟨HX.out, rfl, HDP.out⟩
                · exact ⟨Ext.drew HX.out, rfl, ⟨HDP.out.nd, HDP.out.all, HDP.out.row, HDP.out.ne⟩⟩
              have hit1 : w1.heap[w5.heap.size]? = some (.mapIter (some w.heap.size) S.length seen S.length) := by rw [hw1.2.1]; exact HIT.out
              have hit2 : (setBlock w1 w5.heap.size (.mapIter (some w.heap.size) S.length (seen.push e.born) S.length)).heap[w5.heap.size]? = some (.mapIter (some w.heap.size) S.length (seen.push e.born) S.length) := setBlock_same hit1
              have hb2 := ext_setBlock (r := w5.heap.size) hw1.1 (Nat.le_refl _) (.mapIter (some w.heap.size) S.length (seen.push e.born) S.length)
              have hdp2 := hw1.2.2.iter hit1 (.mapIter (some w.heap.size) S.length (seen.push e.born) S.length)
              generalize setBlock w1 w5.heap.size (.mapIter (some w.heap.size) S.length (seen.push e.born) S.length) = w2 at hit2 hb2 hrun hdp2
              have hen := run_entry_at (P := Try.prog) w2 w5.heap.size w.heap.size S.length seen (ents S) S.length e hit2 ((hb2.block _ HW5.out).trans HKM.out.1) hmem.1 (ents_borns S)
              have hnx : ∀ ty, (Instr.next (.pointer (some ⟨w5.heap.size, 0, none⟩)) false ty).run Try.prog wr = .ok (.tuple #[.bool true, .string k, .bool true]) w2 := fun _ => by have h9 := hrun; rw [a3, a4] at h9; exact h9
              rw [a3, a4] at hen
              have hw2s : w5.heap.size + 1 ≤ w2.heap.size := (Array.getElem?_eq_some_iff.1 hit2).1
              obtain ⟨wo, hwo⟩ : ∃ wo : World, wo = cutW w2 (w5.heap.size + 1) := ⟨_, rfl⟩
              have HWE := Lib.hid hwo
              have HWS : Hid (wo.heap.size = w5.heap.size + 1) := by rw [hwo]; exact cutW_size hw2s
              have HWB : Hid (Ext wo w2) := by rw [hwo]; exact cutW_ext hw2s
              have HW2S := Lib.hid hw2s
              have HDP2 : Hid (DP w2 wo.heap.size u8 A [] [] none) := by rw [HWS.out]; exact hdp2
              have HX2 := Lib.hid hb2
              have HIT2 := Lib.hid hit2
              have HL9 := Lib.hid hlt9
              have HSO2 : Hid (SeenOk S (seen.push e.born)) := by rw [a5] at hcn ⊢; exact HSO.out.push (List.getElem?_eq_some_iff.1 hk?).1 hcn
              have HKJ : Hid (S[e.born]? = some k) := by rw [a5]; exact hk?
              have HKU : Hid (k ∈ keysU ks ks') := HPU.out.mem_iff.1 (List.mem_of_getElem? hk?)
              generalize e.born = eb at *
              have HII : Hid (Calls Try.prog 104 #[.string k, .slice ag ng cg] w2 fun e w' => e = .returned (.bool (igSkip g (.child k))) ∧ w2 = w') := (ignoreKey_any k _ g w2 (HIG.out.keep (Ext.trans HB2.out hb2).keep)).mono fun _ _ h => ⟨h.1, h.2.symm⟩
              clear he hrun hw1 hit1 hit2 hb2 hdp2 hbmr hold hmem a3 a4 a5 hlt9 hcn hk? hw2s hwo hlt1 hlt2
              generalize hsk : igSkip g (.child k) = sk at HII
              have HSKF := Lib.hid hsk
              clear hsk
              cases sk with
              | true =>
                go_wp2_with (go_at_call 104; refine (HII.out).mono ?_; rintro e0 w9 ⟨rfl, rfl⟩)
                go_roundw
                case rel => exact ⟨_, A, HIT2.out, HSO2.out, by rw [← HWS.out]; exact HDP2.out, by rw [objPre_push _ _ _ _ _ HKJ.out]; simpa [under1, HSKF.out] using HPM.out, HX2.out⟩
                case measure =>
                  rw [iterSeen_of HIT2.out, iterSeen_of HIT.out]
                  exact HL9.out
              | false =>
                by_cases hgn : igIsNone g = true
                · have hng0 : ¬ 0 < ng := by
                    have : g = none := by cases g with
                      | none => rfl
                      | some _ => cases hgn
                    have := HN0.out.2 this
                    omega
                  have hig : IgAt w2 (.slice none 0 0) (igSub g (.child k)) := by
                    cases g with
                    | none => exact ⟨none, 0, rfl⟩
                    | some _ => cases hgn
                  have HIG2 := Lib.hid hig
                  clear hig hgn
                  have hXW : Ext w w2 := Ext.trans HB2.out (Ext.trans HX2.out (Ext.refl w2))
                  obtain ⟨x1, hlk1, hr1⟩ := lookup_RM w2 bm es ks l ((hXW.block bm HLT1.out).trans HBM.out) (RMs.keep (hXW.keepB.from 0) (Nat.le_refl _) _ HR1.out) HO1.out.1 k
                  obtain ⟨x2, hlk2, hr2⟩ := lookup_RM w2 bm2 es2 ks' l' ((hXW.block bm2 HLT2.out).trans HBM2.out) (RMs.keep (hXW.keepB.from 0) (Nat.le_refl _) _ HR2.out) HO2.out.1 k
                  have HCL : Hid (Calls Try.prog 92 #[x1, x2, .bool false, (.slice none 0 0)] w2 (DiffPost n (igSub g (.child k)) (look ks l k) (look ks' l' k) w2)) := IH.out _ _ (by have := HN.out; have := look_lt HO1.out.2.1 HO2.out.2.1 HKU.out; omega) (look_ok HO1.out.2.2 k) (look_nofl HF1.out k) (look_ok HO2.out.2.2 k) (look_nofl HF2.out k) (by have := look_nodes (k := k) (ks := ks) (l := l); have := HS1.out; simp only [J.nodes] at this; omega) (by have := look_nodes (k := k) (ks := ks') (l := l'); have := HS2.out; simp only [J.nodes] at this; omega) _ (igOk_sub HG.out _) (by
                      rcases HEV.out with e | e
                      · left; rw [e]; rfl
                      · right; exact e k HKU.out) x1 x2 (.slice none 0 0) w2 hr1 hr2 HIG2.out
                  have HXW2 : Hid (Ext w2 w2) := (Ext.refl w2)
                  clear hr1 hr2 hXW
                  go_wp2_with (first
                    | (go_at_call 104; refine (HII.out).mono ?_; rintro e0 w9 ⟨rfl, rfl⟩)
                    | (go_at_call 92; refine (HCL.out).mono ?_; rintro e0 w4 ⟨vds, D, rfl, hpD, hdD, hx4⟩; obtain ⟨ad, cd, rfl, hsh⟩ := hdD.shape
                       have HSH := Lib.hid hsh
                       have HPD := Lib.hid hpD
                       have hx24 : Ext w2 w4 := Ext.trans HXW2.out hx4
                       have HDI : Hid (DIn wo w4 w4 (.child k) u8 A A D ad cd 0) := ⟨(HDP2.out.ext HXW2.out).take (Ext.refl _) hx4 hdD (Nat.le_trans HWB.out.size HXW2.out.size), by simp, fun _ _ => rfl, Ext.trans HWB.out hx24, Nat.le_refl _⟩
                       have HX24 := Lib.hid hx24
                       have hbd : D.length ≤ 2000 ∧ (∀ d ∈ D, d.2.2.length ≤ 1000000) := by
                         have h1 := hpD.length_eq
                         rw [List.length_map] at h1
                         have h2 := difF_len_le n (look ks l k) (look ks' l' k) (igSub g (.child k)) (look_ok HO1.out.2.2 k) (look_ok HO2.out.2.2 k)
                         have h3 := look_lt HO1.out.2.1 HO2.out.2.1 HKU.out
                         have h5 := HS1.out
                         have h6 := HS2.out
                         refine ⟨by omega, fun d hd => ?_⟩
                         have h7 := difF_path_le n (look ks l k) (look ks' l' k) (igSub g (.child k)) (look_ok HO1.out.2.2 k) (look_ok HO2.out.2.2 k) d.2.2 (hpD.mem_iff.1 (List.mem_map.2 ⟨d, hd, rfl⟩))
                         omega
                       have hDl : D.length ≤ 2000 := hbd.1
                       have HBD : Hid (A.length + D.length ≤ 1000000) := by have := HALN.out; refine Lib.hid ?_; omega
                       have HPL : Hid (∀ d ∈ D, d.2.2.length ≤ 1000000) := hbd.2
                       clear hsh hpD hdD hx4 hx24 hbd HCL))
                  obtain ⟨w2o, rfl⟩ : ∃ w2o : World, w2o = wr := ⟨_, rfl⟩
                  go_loopw [8, 420] (fun v i wr => ∃ j : Nat, ∃ A' : List DI, j ≤ D.length ∧ i = .int .i64 j ∧ DIn wo w4 wr (Step.child k) v A A' D ad cd j) (fun _ i _ => D.length - (intOf i).toNat)
                  case atStart => exact ⟨0, A, Nat.zero_le _, rfl, HDI.out⟩
                  case round =>
                    obtain ⟨j, A', hj, rfl, hin⟩ := hrel
                    have HIN := Lib.hid hin
                    clear hin
                    by_cases hltj : j < D.length
                    · obtain ⟨⟨dg, dc, dp⟩, hdj⟩ : ∃ d, D[j]? = some d := ⟨D[j], List.getElem?_eq_getElem hltj⟩
                      have hD0 : D ≠ [] := fun e => by rw [e] at hltj; simp at hltj
                      obtain ⟨gd, cur, rfl, hgc, hdrow⟩ := HSH.out hD0
                      have hdrop : D.drop j = (dg, dc, dp) :: D.drop (j + 1) := by
                        obtain ⟨h1, h2⟩ := List.getElem?_eq_some_iff.1 hdj
                        rw [List.drop_eq_getElem_cons h1, h2]
                      have hdp5 : DP wr wo.heap.size u8 A' [] ((dg, dc, dp) :: D.drop (j + 1)) (some gd) := by
                        have := HIN.out.dp
                        rw [hdrop] at this
                        exact this
                      have hap := (hdp5.all (dg, dc, dp) (by simp)).2
                      have hgs := HIN.out.same gd rfl
                      have hgc5 := hgs.trans hgc
                      have hcd := (hdrow.same hgs) j _ hdj
                      have hAl : A'.length ≤ 1000000 := Nat.le_trans HIN.out.len HBD.out
                      have hpl : dp.length ≤ 1000000 := HPL.out _ (List.mem_of_getElem? hdj)
                      have hgl : gd < wr.heap.size := (Array.getElem?_eq_some_iff.1 hgc5).1
                      have hned : gd ≠ dg := fun e => by
                        obtain ⟨cur2, hc2⟩ := hap.type
                        simp only at hc2
                        rw [← e, hgc5] at hc2
                        simp only [Option.some.injEq, Obj.cells.injEq] at hc2
                        exact absurd hc2.2.1 (by decide)
                      have HGL : Hid (∀ g, (some gd : Option Nat) = some g → g < wr.heap.size) := fun g hg => by cases hg; exact hgl
                      have HGD : Hid (gd < wr.heap.size) := hgl
                      have HNED : Hid (gd ≠ dg) := hned
                      have HDP6 := Lib.hid hdp5
                      have HAP := Lib.hid hap
                      have HAL := Lib.hid hAl
                      have HDJ := Lib.hid hdj
                      have HPL9 := Lib.hid hpl
                      have HNE : Hid (u8.ownBlock ≠ some gd) := hdp5.ne gd rfl
                      simp only [dval] at hcd
                      clear hdrop hdp5 hap hgs hgc5 hgc hdrow hAl hpl hgl hned hdj hD0
                      cases dp with
                      | nil =>
                        have hc0 := HAP.out.cell 0 .nilIface rfl
                        have hf0 : wr.frozen? ⟨dg, 0, none⟩ = false := by
                          obtain ⟨cur, hcur⟩ := HAP.out.type
                          exact frozen_of_row _ _ _ _ _ hcur
                        obtain ⟨wS, hS⟩ : ∃ wS, wr.setCell ⟨dg, 0, none⟩ (Value.iface 9 (Value.string k)) = wS := ⟨_, rfl⟩
                        have HS := Lib.hid hS
                        have hkS : ∀ k, k ≠ dg → wS.heap[k]? = wr.heap[k]? := fun k hne => by rw [← HS.out]; exact heap_setCell_other _ _ _ _ (fun e => hne e)
                        have hsz : wS.heap.size = wr.heap.size := by rw [← HS.out]; simp [World.setCell]
                        have HDPS : Hid (DP wS wo.heap.size u8 A' [(dg, dc, [(Step.child k)])] (D.drop (j + 1)) (some gd)) := HDP6.out.put (st := (Step.child k)) HS.out.symm
                        have HXS : Hid (Ext wo wS) := HIN.out.ext.grown (row := some dg) (by rw [← HS.out]; exact ⟨rfl, rfl, rfl, by simp [World.setCell], fun k hk hne => heap_setCell_other _ _ _ _ (fun e => hne (by rw [e]))⟩) HIN.out.ext.size (fun k hk => by cases hk; exact (HDP6.out.all (dg, dc, []) (by simp)).1)
                        have HSZ := Lib.hid hsz
                        have HKS := Lib.hid hkS
                        have hcd' : wr.cell? ⟨gd, j, none⟩ = some (.slice (some ⟨dg, 0, none⟩) 1 dc) := hcd
                        clear hcd hkS hsz
                        go_wp2_with (at_builtin; refine wpList_push' (.tmp 442) (.tmp 444) rfl rfl wo wS u8 _ A' (D.drop (j + 1)) (dg, dc, [(Step.child k)]) (some gd) HDPS.out rfl HXS.out (fun g hg => by rw [HSZ.out]; exact HGL.out g hg) HAL.out wS.heap.size rfl rfl rfl ?_; intro g9 c9 w9 hd9 hx9 hgw9; have HD9 := Lib.hid hd9; have HX9 := Lib.hid hx9; have HG9 := Lib.hid hgw9; clear hd9 hx9 hgw9)
                        go_roundw
                        case rel => exact ⟨j + 1, _, by omega, by go_num, HIN.out.step HDJ.out rfl (HKS.out gd HNED.out) (Nat.le_of_eq HSZ.out.symm) HGD.out HNE.out HD9.out HX9.out HG9.out⟩
                        case measure => simp [intOf]; omega
                      | cons st1 q =>
                        have hq9 : q.length ≤ 1000000 := by have := HPL9.out; simp at this; omega
                        have HQ9 := Lib.hid hq9
                        have hcd' : wr.cell? ⟨gd, j, none⟩ = some (.slice (some ⟨dg, 0, none⟩) (q.length + 1) dc) := by
                          have e : (enc (st1 :: q)).length = q.length + 1 := by simp [enc]
                          rw [e] at hcd
                          exact hcd
                        have HC0 : Hid (wr.cell? ⟨dg, 0, none⟩ = some st1.val) := HAP.out.cell 0 st1.val (by simp [enc])
                        clear hcd
                        rcases q with _ | ⟨st2, q⟩
                        · simp only [List.length_nil, Nat.zero_add] at hcd'
                          rcases st1 with s1 | n1
                          all_goals
                            have hc0 := HC0.out
                            simp only [Step.val] at hc0
                            clear hq9
                            go_wp2_with (first
                              | (at_builtin; refine wpList_cons (.tmp 439) (.tmp 440) rfl rfl wr (Step.child k) _ [] dg dc HAP.out HQ9.out wr.heap.size rfl rfl rfl ?_; intro g6 c6 w6 hap6 hg6 hx6 hl6; have HAP6 := Lib.hid hap6; have HG6 := Lib.hid hg6; have HX6 := Lib.hid hx6; clear hap6 hg6 hx6 hl6)
                              | (at_builtin; refine wpList_push' (.tmp 442) (.tmp 444) rfl rfl wo w6 u8 _ A' (D.drop (j + 1)) (g6, c6, (Step.child k) :: _ :: []) (some gd) (HDP6.out.fresh HX6.out HAP6.out HG6.out HIN.out.ext.size) (by simp [dval, enc]) (Ext.trans HIN.out.ext HX6.out) (fun g hg => Nat.lt_of_lt_of_le (HGL.out g hg) HX6.out.size) HAL.out w6.heap.size rfl rfl rfl ?_; intro g9 c9 w9 hd9 hx9 hgw9; have HD9 := Lib.hid hd9; have HX9 := Lib.hid hx9; have HG9 := Lib.hid hgw9; clear hd9 hx9 hgw9))
                            go_roundw
                            case rel => exact ⟨j + 1, _, by omega, by go_num, HIN.out.step HDJ.out rfl (HX6.out.block gd HGD.out) HX6.out.size HGD.out HNE.out HD9.out HX9.out HG9.out⟩
                            case measure => simp [intOf]; omega
                        · simp only [List.length_cons] at hcd' hq9
                          have hne1 : ((q.length : Int) + 1 + 1 == 1) = false := by simp; omega
                          go_wp2_with (first
                            | (at_builtin; refine wpList_cons (.tmp 439) (.tmp 440) rfl rfl wr (Step.child k) st1 (st2 :: q) dg dc HAP.out HQ9.out wr.heap.size rfl rfl rfl ?_; intro g6 c6 w6 hap6 hg6 hx6 hl6; have HAP6 := Lib.hid hap6; have HG6 := Lib.hid hg6; have HX6 := Lib.hid hx6; clear hap6 hg6 hx6 hl6)
                            | (at_builtin; refine wpList_push' (.tmp 442) (.tmp 444) rfl rfl wo w6 u8 _ A' (D.drop (j + 1)) (g6, c6, (Step.child k) :: st1 :: st2 :: q) (some gd) (HDP6.out.fresh HX6.out HAP6.out HG6.out HIN.out.ext.size) (by simp [dval, enc]; omega) (Ext.trans HIN.out.ext HX6.out) (fun g hg => Nat.lt_of_lt_of_le (HGL.out g hg) HX6.out.size) HAL.out w6.heap.size rfl rfl rfl ?_; intro g9 c9 w9 hd9 hx9 hgw9; have HD9 := Lib.hid hd9; have HX9 := Lib.hid hx9; have HG9 := Lib.hid hgw9; clear hd9 hx9 hgw9))
                          go_roundw
                          case rel => exact ⟨j + 1, _, by omega, by go_num, HIN.out.step HDJ.out rfl (HX6.out.block gd HGD.out) HX6.out.size HGD.out HNE.out HD9.out HX9.out HG9.out⟩
                          case measure => simp [intOf]; omega
                    · have hje : j = D.length := by omega
                      subst hje
                      have HPA : Hid ((A'.map (·.2.2)).Perm (objPre (fun k => under1 g (.child k) fun g' => difF n g' (look ks l k) (look ks' l' k)) S (seen.push eb))) := perm_obj HKJ.out HPM.out HSKF.out HPD.out (by have := HIN.out.path; rwa [List.take_length] at this)
                      have HDPF : Hid (DP wr (w5.heap.size + 1) u8 A' [] [] none) := by have := HIN.out.dp; rw [List.drop_length] at this; rw [← HWS.out]; exact this.done
                      have HXF : Hid (Ext w5 wr) := by have := HIN.out.ext; rw [HWE.out] at this; exact cutW_trans HX2.out HW2S.out (by omega) this
                      have HITF : Hid (wr.heap[w5.heap.size]? = some (.mapIter (some w.heap.size) S.length (seen.push eb) S.length)) := (HIN.out.ext.block w5.heap.size (by rw [HWS.out]; omega)).trans ((HWB.out.block w5.heap.size (by rw [HWS.out]; omega)).symm.trans HIT2.out)
                      go_wp2
                      go_roundw
                      case rel => exact ⟨_, A', HITF.out, HSO2.out, HDPF.out, HPA.out, HXF.out⟩
                      case measure =>
                        rw [iterSeen_of HITF.out, iterSeen_of HIT.out]
                        exact HL9.out
                · have hng1 : 0 < ng := by
                    have : ¬ ng = 0 := fun e => hgn (by rw [HN0.out.1 e]; rfl)
                    omega
                  obtain ⟨q, rfl⟩ : ∃ q, g = some q := by cases g with
                    | none => exact absurd rfl hgn
                    | some q => exact ⟨q, rfl⟩
                  clear hgn
                  go_wp2_with (go_at_call 104; refine (HII.out).mono ?_; rintro e0 w9 ⟨rfl, rfl⟩)
                  go_loopw [48, 373] (fun ci c wr => ∃ m : Nat, m ≤ ng ∧ c = .int .i64 m ∧ (m = 0 → ci = .slice none 0 0) ∧ (m = ng → IgAt wr ci (igSub (some q) (.child k)) ∧ ∃ a9 n9 c9, ci = .slice a9 n9 c9) ∧ Ext w2 wr) (fun _ c _ => ng - (intOf c).toNat)
                  case atStart => exact ⟨0, Nat.zero_le _, rfl, fun _ => rfl, fun e => by omega, Ext.refl _⟩
                  case round =>
                    obtain ⟨m, hm, rfl, hst, hfin, hx7⟩ := hrel
                    by_cases hlt : m < ng
                    · have hm0 : m = 0 := by have := HNGL.out; omega
                      have hng1 : ng = 1 := by have := HNGL.out; omega
                      subst hm0
                      obtain rfl := hst rfl
                      have HNG : Hid (ng = 1) := hng1
                      clear hng1
                      obtain ⟨bg, og, cg2, bq, oq, cq, hge, hq1, hq2, hq3, hq4, hq5⟩ := HIG.out
                      simp only [Value.slice.injEq] at hge
                      obtain ⟨rfl, -, rfl⟩ := hge
                      have hXr : Ext w wr := Ext.trans HB2.out (Ext.trans HX2.out hx7)
                      have f1 := hXr.keep _ _ hq1
                      have f2 := hXr.keep _ _ (hq5 0 hq3)
                      have HX7 := Lib.hid hx7
                      have HXR := Lib.hid hXr
                      rw [Nat.add_zero] at f2
                      clear hst hfin hx7 hXr hm hq1
                      rcases q with _ | ⟨x, q⟩
                      · simp at hq3
                      rcases q with _ | ⟨y, r⟩
                      · simp only [List.length_singleton] at f1
                        clear hq2 hq3 hq4 hq5 f2
                        go_wp2
                        go_roundw
                        case rel => exact ⟨1, by have := HNG.out; omega, by go_num, fun e => by omega, fun _ => ⟨⟨none, 0, rfl⟩, none, 0, 0, rfl⟩, HX7.out⟩
                        case measure => (have := HNG.out; simp [intOf]; omega)
                      · have HC5 : Hid (∀ i, (h : i < (y :: r).length) → wr.cell? ⟨bq, oq + 1 + i, none⟩ = some (ival (y :: r)[i])) := fun i hi => by
                          have := HXR.out.keep _ _ (hq5 (i + 1) (by simpa using hi))
                          rw [show oq + (i + 1) = oq + 1 + i from by omega] at this
                          simpa using this
                        simp only [List.length_cons] at f1 hq2 hq4
                        simp only [List.getElem_cons_zero] at f2
                        have hc1 : ¬ cq = 1 := by omega
                        have hr0 : (0 : Int) ≤ (r.length : Int) := by omega
                        have hr1 : (1 : Int) < (r.length : Int) + 1 + 1 := by omega
                        have hr2 : (1 : Int) ≤ (r.length : Int) + 1 + 1 := by omega
                        have hr3 : ((r.length : Int) + 1 + 1) ≤ (cq : Int) := by omega
                        have HCQ : Hid ((y :: r).length ≤ cq - 1 ∧ (y :: r).length ≤ 4) := ⟨by simp; omega, by simp; omega⟩
                        clear hq3 hq5
                        rcases x with _ | st
                        · simp only [ival] at f2
                          go_wp2_with (at_builtin; refine wpList_ign (.tmp 384) (.tmp 387) rfl rfl wr bq (oq + 1) (cq - 1) (y :: r) (by simp) HCQ.out.2 HCQ.out.1 HC5.out wr.heap.size rfl rfl rfl ?_; intro g9 c9 w9 hg9 hx9; have HG9 := Lib.hid hg9; have HX9 := Lib.hid hx9; clear hg9 hx9)
                          go_roundw
                          case rel => exact ⟨1, by have := HNG.out; omega, by go_num, fun e => by omega, fun _ => ⟨HG9.out, _, _, _, rfl⟩, Ext.trans HX7.out HX9.out⟩
                          case measure => (have := HNG.out; simp [intOf]; omega)
                        · rcases st with s1 | n1
                          · simp only [ival, Step.val] at f2
                            by_cases hks : k = s1
                            · subst hks
                              go_wp2_with (at_builtin; refine wpList_ign (.tmp 395) (.tmp 398) rfl rfl wr bq (oq + 1) (cq - 1) (y :: r) (by simp) HCQ.out.2 HCQ.out.1 HC5.out wr.heap.size rfl rfl rfl ?_; intro g9 c9 w9 hg9 hx9; have HG9 := Lib.hid hg9; have HX9 := Lib.hid hx9; clear hg9 hx9)
                              go_roundw
                              case rel =>
                                refine ⟨1, by have := HNG.out; omega, by go_num, fun e => by omega, fun _ => ⟨?_, _, _, _, rfl⟩, Ext.trans HX7.out HX9.out⟩
                                have : igSub (some (some (Step.child k) :: y :: r)) (.child k) = some (y :: r) := by simp [igSub, igM, Step.eqb]
                                rw [this]
                                exact HG9.out
                              case measure => (have := HNG.out; simp [intOf]; omega)
                            · have HKS : Hid (igSub (some (some (Step.child s1) :: y :: r)) (.child k) = none) := by
                                have : ¬ s1 = k := fun e => hks e.symm
                                refine Lib.hid ?_
                                simp [igSub, igM, Step.eqb, this]
                              go_wp2_with (at_builtin; fail)
                              · have hx : (k.toList == s1.toList) = true := by assumption
                                rw [bytes_beq] at hx
                                exact absurd (of_decide_eq_true hx) hks
                              · go_roundw
                                case rel => exact ⟨1, by have := HNG.out; omega, by go_num, fun e => by omega, fun _ => ⟨by rw [HKS.out]; exact ⟨none, 0, rfl⟩, none, 0, 0, rfl⟩, HX7.out⟩
                                case measure => (have := HNG.out; simp [intOf]; omega)
                          · simp only [ival, Step.val] at f2
                            go_wp2
                            go_roundw
                            case rel => exact ⟨1, by have := HNG.out; omega, by go_num, fun e => by omega, fun _ => ⟨by
                              have : igSub (some (some (Step.nth n1) :: y :: r)) (.child k) = none := by simp [igSub, igM, Step.eqb]
                              rw [this]; exact ⟨none, 0, rfl⟩, none, 0, 0, rfl⟩, HX7.out⟩
                            case measure => (have := HNG.out; simp [intOf]; omega)
                    · obtain rfl : ng = m := by omega
                      obtain ⟨hci, a9, n9, c9, rfl⟩ := hfin rfl
                      obtain ⟨w7, rfl⟩ : ∃ w7 : World, w7 = wr := ⟨_, rfl⟩
                      have HCI := Lib.hid hci
                      have HX7 := Lib.hid hx7
                      clear hst hfin hci hx7 hlt hm
                      have hXW : Ext w w7 := Ext.trans HB2.out (Ext.trans HX2.out HX7.out)
                      obtain ⟨x1, hlk1, hr1⟩ := lookup_RM w7 bm es ks l ((hXW.block bm HLT1.out).trans HBM.out) (RMs.keep (hXW.keepB.from 0) (Nat.le_refl _) _ HR1.out) HO1.out.1 k
                      obtain ⟨x2, hlk2, hr2⟩ := lookup_RM w7 bm2 es2 ks' l' ((hXW.block bm2 HLT2.out).trans HBM2.out) (RMs.keep (hXW.keepB.from 0) (Nat.le_refl _) _ HR2.out) HO2.out.1 k
                      have HCL : Hid (Calls Try.prog 92 #[x1, x2, .bool false, (.slice a9 n9 c9)] w7 (DiffPost n (igSub (some q) (.child k)) (look ks l k) (look ks' l' k) w7)) := IH.out _ _ (by have := HN.out; have := look_lt HO1.out.2.1 HO2.out.2.1 HKU.out; omega) (look_ok HO1.out.2.2 k) (look_nofl HF1.out k) (look_ok HO2.out.2.2 k) (look_nofl HF2.out k) (by have := look_nodes (k := k) (ks := ks) (l := l); have := HS1.out; simp only [J.nodes] at this; omega) (by have := look_nodes (k := k) (ks := ks') (l := l'); have := HS2.out; simp only [J.nodes] at this; omega) _ (igOk_sub HG.out _) (by
                          rcases HEV.out with e | e
                          · left; rw [e]; rfl
                          · right; exact e k HKU.out) x1 x2 (.slice a9 n9 c9) w7 hr1 hr2 HCI.out
                      have HXW2 : Hid (Ext w2 w7) := HX7.out
                      clear hr1 hr2 hXW
                      go_wp2_with (first
                        | (go_at_call 92; refine (HCL.out).mono ?_; rintro e0 w4 ⟨vds, D, rfl, hpD, hdD, hx4⟩; obtain ⟨ad, cd, rfl, hsh⟩ := hdD.shape
                           have HSH := Lib.hid hsh
                           have HPD := Lib.hid hpD
                           have hx24 : Ext w2 w4 := Ext.trans HXW2.out hx4
                           have HDI : Hid (DIn wo w4 w4 (.child k) u8 A A D ad cd 0) := ⟨(HDP2.out.ext HXW2.out).take (Ext.refl _) hx4 hdD (Nat.le_trans HWB.out.size HXW2.out.size), by simp, fun _ _ => rfl, Ext.trans HWB.out hx24, Nat.le_refl _⟩
                           have HX24 := Lib.hid hx24
                           have hbd : D.length ≤ 2000 ∧ (∀ d ∈ D, d.2.2.length ≤ 1000000) := by
                             have h1 := hpD.length_eq
                             rw [List.length_map] at h1
                             have h2 := difF_len_le n (look ks l k) (look ks' l' k) (igSub (some q) (.child k)) (look_ok HO1.out.2.2 k) (look_ok HO2.out.2.2 k)
                             have h3 := look_lt HO1.out.2.1 HO2.out.2.1 HKU.out
                             have h5 := HS1.out
                             have h6 := HS2.out
                             refine ⟨by omega, fun d hd => ?_⟩
                             have h7 := difF_path_le n (look ks l k) (look ks' l' k) (igSub (some q) (.child k)) (look_ok HO1.out.2.2 k) (look_ok HO2.out.2.2 k) d.2.2 (hpD.mem_iff.1 (List.mem_map.2 ⟨d, hd, rfl⟩))
                             omega
                           have hDl : D.length ≤ 2000 := hbd.1
                           have HBD : Hid (A.length + D.length ≤ 1000000) := by have := HALN.out; refine Lib.hid ?_; omega
                           have HPL : Hid (∀ d ∈ D, d.2.2.length ≤ 1000000) := hbd.2
                           clear hsh hpD hdD hx4 hx24 hbd HCL))
                      obtain ⟨w2o, rfl⟩ : ∃ w2o : World, w2o = wr := ⟨_, rfl⟩
                      go_loopw [8, 420] (fun v i wr => ∃ j : Nat, ∃ A' : List DI, j ≤ D.length ∧ i = .int .i64 j ∧ DIn wo w4 wr (Step.child k) v A A' D ad cd j) (fun _ i _ => D.length - (intOf i).toNat)
                      case atStart => exact ⟨0, A, Nat.zero_le _, rfl, HDI.out⟩
                      case round =>
                        obtain ⟨j, A', hj, rfl, hin⟩ := hrel
                        have HIN := Lib.hid hin
                        clear hin
                        by_cases hltj : j < D.length
                        · obtain ⟨⟨dg, dc, dp⟩, hdj⟩ : ∃ d, D[j]? = some d := ⟨D[j], List.getElem?_eq_getElem hltj⟩
                          have hD0 : D ≠ [] := fun e => by rw [e] at hltj; simp at hltj
                          obtain ⟨gd, cur, rfl, hgc, hdrow⟩ := HSH.out hD0
                          have hdrop : D.drop j = (dg, dc, dp) :: D.drop (j + 1) := by
                            obtain ⟨h1, h2⟩ := List.getElem?_eq_some_iff.1 hdj
                            rw [List.drop_eq_getElem_cons h1, h2]
                          have hdp5 : DP wr wo.heap.size u8 A' [] ((dg, dc, dp) :: D.drop (j + 1)) (some gd) := by
                            have := HIN.out.dp
                            rw [hdrop] at this
                            exact this
                          have hap := (hdp5.all (dg, dc, dp) (by simp)).2
                          have hgs := HIN.out.same gd rfl
                          have hgc5 := hgs.trans hgc
                          have hcd := (hdrow.same hgs) j _ hdj
                          have hAl : A'.length ≤ 1000000 := Nat.le_trans HIN.out.len HBD.out
                          have hpl : dp.length ≤ 1000000 := HPL.out _ (List.mem_of_getElem? hdj)
                          have hgl : gd < wr.heap.size := (Array.getElem?_eq_some_iff.1 hgc5).1
                          have hned : gd ≠ dg := fun e => by
                            obtain ⟨cur2, hc2⟩ := hap.type
                            simp only at hc2
                            rw [← e, hgc5] at hc2
                            simp only [Option.some.injEq, Obj.cells.injEq] at hc2
                            exact absurd hc2.2.1 (by decide)
                          have HGL : Hid (∀ g, (some gd : Option Nat) = some g → g < wr.heap.size) := fun g hg => by cases hg; exact hgl
                          have HGD : Hid (gd < wr.heap.size) := hgl
                          have HNED : Hid (gd ≠ dg) := hned
                          have HDP6 := Lib.hid hdp5
                          have HAP := Lib.hid hap
                          have HAL := Lib.hid hAl
                          have HDJ := Lib.hid hdj
                          have HPL9 := Lib.hid hpl
                          have HNE : Hid (u8.ownBlock ≠ some gd) := hdp5.ne gd rfl
                          simp only [dval] at hcd
                          clear hdrop hdp5 hap hgs hgc5 hgc hdrow hAl hpl hgl hned hdj hD0
                          cases dp with
                          | nil =>
                            have hc0 := HAP.out.cell 0 .nilIface rfl
                            have hf0 : wr.frozen? ⟨dg, 0, none⟩ = false := by
                              obtain ⟨cur, hcur⟩ := HAP.out.type
                              exact frozen_of_row _ _ _ _ _ hcur
                            obtain ⟨wS, hS⟩ : ∃ wS, wr.setCell ⟨dg, 0, none⟩ (Value.iface 9 (Value.string k)) = wS := ⟨_, rfl⟩
                            have HS := Lib.hid hS
                            have hkS : ∀ k, k ≠ dg → wS.heap[k]? = wr.heap[k]? := fun k hne => by rw [← HS.out]; exact heap_setCell_other _ _ _ _ (fun e => hne e)
                            have hsz : wS.heap.size = wr.heap.size := by rw [← HS.out]; simp [World.setCell]
                            have HDPS : Hid (DP wS wo.heap.size u8 A' [(dg, dc, [(Step.child k)])] (D.drop (j + 1)) (some gd)) := HDP6.out.put (st := (Step.child k)) HS.out.symm
                            have HXS : Hid (Ext wo wS) := HIN.out.ext.grown (row := some dg) (by rw [← HS.out]; exact ⟨rfl, rfl, rfl, by simp [World.setCell], fun k hk hne => heap_setCell_other _ _ _ _ (fun e => hne (by rw [e]))⟩) HIN.out.ext.size (fun k hk => by cases hk; exact (HDP6.out.all (dg, dc, []) (by simp)).1)
                            have HSZ := Lib.hid hsz
                            have HKS := Lib.hid hkS
                            have hcd' : wr.cell? ⟨gd, j, none⟩ = some (.slice (some ⟨dg, 0, none⟩) 1 dc) := hcd
                            clear hcd hkS hsz
                            go_wp2_with (at_builtin; refine wpList_push' (.tmp 442) (.tmp 444) rfl rfl wo wS u8 _ A' (D.drop (j + 1)) (dg, dc, [(Step.child k)]) (some gd) HDPS.out rfl HXS.out (fun g hg => by rw [HSZ.out]; exact HGL.out g hg) HAL.out wS.heap.size rfl rfl rfl ?_; intro g9 c9 w9 hd9 hx9 hgw9; have HD9 := Lib.hid hd9; have HX9 := Lib.hid hx9; have HG9 := Lib.hid hgw9; clear hd9 hx9 hgw9)
                            go_roundw
                            case rel => exact ⟨j + 1, _, by omega, by go_num, HIN.out.step HDJ.out rfl (HKS.out gd HNED.out) (Nat.le_of_eq HSZ.out.symm) HGD.out HNE.out HD9.out HX9.out HG9.out⟩
                            case measure => simp [intOf]; omega
                          | cons st1 q =>
                            have hq9 : q.length ≤ 1000000 := by have := HPL9.out; simp at this; omega
                            have HQ9 := Lib.hid hq9
                            have hcd' : wr.cell? ⟨gd, j, none⟩ = some (.slice (some ⟨dg, 0, none⟩) (q.length + 1) dc) := by
                              have e : (enc (st1 :: q)).length = q.length + 1 := by simp [enc]
                              rw [e] at hcd
                              exact hcd
                            have HC0 : Hid (wr.cell? ⟨dg, 0, none⟩ = some st1.val) := HAP.out.cell 0 st1.val (by simp [enc])
                            clear hcd
                            rcases q with _ | ⟨st2, q⟩
                            · simp only [List.length_nil, Nat.zero_add] at hcd'
                              rcases st1 with s1 | n1
                              all_goals
                                have hc0 := HC0.out
                                simp only [Step.val] at hc0
                                clear hq9
                                go_wp2_with (first
                                  | (at_builtin; refine wpList_cons (.tmp 439) (.tmp 440) rfl rfl wr (Step.child k) _ [] dg dc HAP.out HQ9.out wr.heap.size rfl rfl rfl ?_; intro g6 c6 w6 hap6 hg6 hx6 hl6; have HAP6 := Lib.hid hap6; have HG6 := Lib.hid hg6; have HX6 := Lib.hid hx6; clear hap6 hg6 hx6 hl6)
                                  | (at_builtin; refine wpList_push' (.tmp 442) (.tmp 444) rfl rfl wo w6 u8 _ A' (D.drop (j + 1)) (g6, c6, (Step.child k) :: _ :: []) (some gd) (HDP6.out.fresh HX6.out HAP6.out HG6.out HIN.out.ext.size) (by simp [dval, enc]) (Ext.trans HIN.out.ext HX6.out) (fun g hg => Nat.lt_of_lt_of_le (HGL.out g hg) HX6.out.size) HAL.out w6.heap.size rfl rfl rfl ?_; intro g9 c9 w9 hd9 hx9 hgw9; have HD9 := Lib.hid hd9; have HX9 := Lib.hid hx9; have HG9 := Lib.hid hgw9; clear hd9 hx9 hgw9))
                                go_roundw
                                case rel => exact ⟨j + 1, _, by omega, by go_num, HIN.out.step HDJ.out rfl (HX6.out.block gd HGD.out) HX6.out.size HGD.out HNE.out HD9.out HX9.out HG9.out⟩
                                case measure => simp [intOf]; omega
                            · simp only [List.length_cons] at hcd' hq9
                              have hne1 : ((q.length : Int) + 1 + 1 == 1) = false := by simp; omega
                              go_wp2_with (first
                                | (at_builtin; refine wpList_cons (.tmp 439) (.tmp 440) rfl rfl wr (Step.child k) st1 (st2 :: q) dg dc HAP.out HQ9.out wr.heap.size rfl rfl rfl ?_; intro g6 c6 w6 hap6 hg6 hx6 hl6; have HAP6 := Lib.hid hap6; have HG6 := Lib.hid hg6; have HX6 := Lib.hid hx6; clear hap6 hg6 hx6 hl6)
                                | (at_builtin; refine wpList_push' (.tmp 442) (.tmp 444) rfl rfl wo w6 u8 _ A' (D.drop (j + 1)) (g6, c6, (Step.child k) :: st1 :: st2 :: q) (some gd) (HDP6.out.fresh HX6.out HAP6.out HG6.out HIN.out.ext.size) (by simp [dval, enc]; omega) (Ext.trans HIN.out.ext HX6.out) (fun g hg => Nat.lt_of_lt_of_le (HGL.out g hg) HX6.out.size) HAL.out w6.heap.size rfl rfl rfl ?_; intro g9 c9 w9 hd9 hx9 hgw9; have HD9 := Lib.hid hd9; have HX9 := Lib.hid hx9; have HG9 := Lib.hid hgw9; clear hd9 hx9 hgw9))
                              go_roundw
                              case rel => exact ⟨j + 1, _, by omega, by go_num, HIN.out.step HDJ.out rfl (HX6.out.block gd HGD.out) HX6.out.size HGD.out HNE.out HD9.out HX9.out HG9.out⟩
                              case measure => simp [intOf]; omega
                        · have hje : j = D.length := by omega
                          subst hje
                          have HPA : Hid ((A'.map (·.2.2)).Perm (objPre (fun k => under1 (some q) (.child k) fun g' => difF n g' (look ks l k) (look ks' l' k)) S (seen.push eb))) := perm_obj HKJ.out HPM.out HSKF.out HPD.out (by have := HIN.out.path; rwa [List.take_length] at this)
                          have HDPF : Hid (DP wr (w5.heap.size + 1) u8 A' [] [] none) := by have := HIN.out.dp; rw [List.drop_length] at this; rw [← HWS.out]; exact this.done
                          have HXF : Hid (Ext w5 wr) := by have := HIN.out.ext; rw [HWE.out] at this; exact cutW_trans HX2.out HW2S.out (by omega) this
                          have HITF : Hid (wr.heap[w5.heap.size]? = some (.mapIter (some w.heap.size) S.length (seen.push eb) S.length)) := (HIN.out.ext.block w5.heap.size (by rw [HWS.out]; omega)).trans ((HWB.out.block w5.heap.size (by rw [HWS.out]; omega)).symm.trans HIT2.out)
                          go_wp2
                          go_roundw
                          case rel => exact ⟨_, A', HITF.out, HSO2.out, HDPF.out, HPA.out, HXF.out⟩
                          case measure =>
                            rw [iterSeen_of HITF.out, iterSeen_of HIT.out]
                            exact HL9.out
        · have hmem := mem_left he
          obtain ⟨j, hj⟩ := List.mem_iff_getElem?.1 hmem.1
          have hlen := RMs.len HR2.out
          have hjl : j < l'.length := by have := (List.getElem?_eq_some_iff.1 hj).1; omega
          obtain ⟨e', k, a1, a2, a3, a4, a5⟩ := RMs.get HR2.out j hjl
          rw [hj] at a1
          cases a1
          rw [Nat.zero_add] at a4
          have hwo := HWO.out
          have hw1 : Ext w w1 ∧ w1.heap = wr.heap := by
            rcases hw1 with rfl | rfl
            · exact ⟨HB2.out, rfl⟩
            · exact ⟨Ext.drew HB2.out, rfl⟩
          have hit1 : w1.heap[wo.heap.size]? = some (.mapIter (some bm2) es2.size seen es2.size) := by rw [hw1.2]; exact HIT.out
          have hkm1 : KM w1 w.heap.size S := ⟨by rw [hw1.2]; exact HKM.out.1, HKM.out.2⟩
          have hit2 : (setBlock w1 wo.heap.size (.mapIter (some bm2) es2.size (seen.push e.born) es2.size)).heap[wo.heap.size]? = some (.mapIter (some bm2) es2.size (seen.push e.born) es2.size) := setBlock_same hit1
          have hb2 := ext_setBlock (r := wo.heap.size) hw1.1 (by omega) (.mapIter (some bm2) es2.size (seen.push e.born) es2.size)
          have hkm2 : KM (setBlock w1 wo.heap.size (.mapIter (some bm2) es2.size (seen.push e.born) es2.size)) w.heap.size S := ⟨by
            have hne : wo.heap.size ≠ w.heap.size := by omega
            simp [setBlock, hne]; exact hkm1.1, hkm1.2⟩
          have hlt9 := left_shrinks es2 seen e he
          generalize setBlock w1 wo.heap.size (.mapIter (some bm2) es2.size (seen.push e.born) es2.size) = w2 at hit2 hb2 hrun hkm2
          have hen := run_entry_at (P := Try.prog) w2 wo.heap.size bm2 es2.size seen es2 es2.size e hit2 ((hb2.block bm2 hlt2).trans HBM2.out) hmem.1 (by
            rw [RMs.borns HR2.out]
            exact List.nodup_range')
          have hnx : ∀ ty, (Instr.next (.pointer (some ⟨wo.heap.size, 0, none⟩)) false ty).run Try.prog wr = .ok (.tuple #[.bool true, .string k, e.val]) w2 := fun _ => by rw [← a3]; exact hrun
          rw [a3] at hen
          have hmu := run_addK (P := Try.prog) w2 130 _ _ Try.underlying130 Try.underlying9 w.heap.size S hkm2.1 hkm2.2 k
          have hit3 : (setMap w2 w.heap.size (ents (addK S k)) (addK S k).length).heap[wo.heap.size]? = some (.mapIter (some bm2) es2.size (seen.push e.born) es2.size) := (setMap_other (by omega)).trans hit2
          have hkm3 := hkm2.add k
          have hb3 := ext_setMap hb2 (Nat.le_refl _) (ents (addK S k)) (addK S k).length
          generalize setMap w2 w.heap.size (ents (addK S k)) (addK S k).length = w3 at hit3 hkm3 hb3 hmu
          have HK3 : Hid (∀ q k', ks'[q]? = some k' → (seen.push e.born).contains q = true → k' ∈ addK S k) := fun q k' hq hs => by
            rw [contains_push] at hs
            simp only [Bool.or_eq_true, beq_iff_eq] at hs
            rw [mem_addK]
            rcases hs with h | h
            · exact Or.inl (HSS.out q k' hq h)
            · right
              have : q = j := by omega
              subst this
              rw [a2] at hq
              exact (Option.some.inj hq).symm
          have HK4 : Hid (∀ k' ∈ addK S k, k' ∈ ks ∨ k' ∈ ks') := fun k' hk' => by
            rcases mem_addK.1 hk' with h | rfl
            · exact HSK.out k' h
            · exact Or.inr (List.mem_of_getElem? a2)
          have HK5 : Hid (∀ k' ∈ ks, k' ∈ addK S k) := fun k' hk' => mem_addK.2 (Or.inl (HSA.out k' hk'))
          have HIT3 := Lib.hid hit3
          have HKM3 := Lib.hid hkm3
          have HB3 := Lib.hid hb3
          have HL9 := Lib.hid hlt9
          generalize e.val = ev at *
          generalize e.born = eb at *
          clear he hj hrun hw1 hit1 hkm1 hit2 hkm2 hb2 hbmr hold hmem a2 a3 a4 a5 hlt9 hlen hit3 hkm3 hb3 hwo
          go_wp2
          go_roundw
          case rel => exact ⟨_, _, HIT3.out, HKM3.out, HK4.out, HK5.out, HK3.out, HB3.out⟩
          case measure =>
            rw [iterSeen_of HIT3.out, iterSeen_of HIT.out]
            exact HL9.out
    · have hmem := mem_left he
      obtain ⟨j, hj⟩ := List.mem_iff_getElem?.1 hmem.1
      have hlen := RMs.len HR1.out
      have hjl : j < l.length := by have := (List.getElem?_eq_some_iff.1 hj).1; omega
      obtain ⟨e', k, a1, a2, a3, a4, a5⟩ := RMs.get HR1.out j hjl
      rw [hj] at a1
      cases a1
      rw [Nat.zero_add] at a4
      have hw1 : Ext w w1 ∧ w1.heap = wr.heap := by
        rcases hw1 with rfl | rfl
        · exact ⟨HB.out, rfl⟩
        · exact ⟨Ext.drew HB.out, rfl⟩
      have hit1 : w1.heap[w.heap.size + 1]? = some (.mapIter (some bm) es.size seen es.size) := by rw [hw1.2]; exact HIT.out
      have hkm1 : KM w1 w.heap.size S := ⟨by rw [hw1.2]; exact HKM.out.1, HKM.out.2⟩
      have hit2 : (setBlock w1 (w.heap.size + 1) (.mapIter (some bm) es.size (seen.push e.born) es.size)).heap[w.heap.size + 1]? = some (.mapIter (some bm) es.size (seen.push e.born) es.size) := setBlock_same hit1
      have hb2 := ext_setBlock (r := w.heap.size + 1) hw1.1 (by omega) (.mapIter (some bm) es.size (seen.push e.born) es.size)
      have hkm2 : KM (setBlock w1 (w.heap.size + 1) (.mapIter (some bm) es.size (seen.push e.born) es.size)) w.heap.size S := ⟨by simp [setBlock]; exact hkm1.1, hkm1.2⟩
      have hlt9 := left_shrinks es seen e he
      generalize setBlock w1 (w.heap.size + 1) (.mapIter (some bm) es.size (seen.push e.born) es.size) = w2 at hit2 hb2 hrun hkm2
      have hen := run_entry_at (P := Try.prog) w2 (w.heap.size + 1) bm es.size seen es es.size e hit2 ((hb2.block bm hlt1).trans HBM.out) hmem.1 (by
        rw [RMs.borns HR1.out]
        exact List.nodup_range')
      have hnx : ∀ ty, (Instr.next (.pointer (some ⟨w.heap.size + 1, 0, none⟩)) false ty).run Try.prog wr = .ok (.tuple #[.bool true, .string k, e.val]) w2 := fun _ => by rw [← a3]; exact hrun
      rw [a3] at hen
      have hmu := run_addK (P := Try.prog) w2 130 _ _ Try.underlying130 Try.underlying9 w.heap.size S hkm2.1 hkm2.2 k
      have hit3 : (setMap w2 w.heap.size (ents (addK S k)) (addK S k).length).heap[w.heap.size + 1]? = some (.mapIter (some bm) es.size (seen.push e.born) es.size) := (setMap_other (by omega)).trans hit2
      have hkm3 := hkm2.add k
      have hb3 := ext_setMap hb2 (Nat.le_refl _) (ents (addK S k)) (addK S k).length
      generalize setMap w2 w.heap.size (ents (addK S k)) (addK S k).length = w3 at hit3 hkm3 hb3 hmu
      have HK3 : Hid (∀ q k', ks[q]? = some k' → (seen.push e.born).contains q = true → k' ∈ addK S k) := fun q k' hq hs => by
        rw [contains_push] at hs
        simp only [Bool.or_eq_true, beq_iff_eq] at hs
        rw [mem_addK]
        rcases hs with h | h
        · exact Or.inl (HSS.out q k' hq h)
        · right
          have : q = j := by omega
          subst this
          rw [a2] at hq
          exact (Option.some.inj hq).symm
      have HK4 : Hid (∀ k' ∈ addK S k, k' ∈ ks) := fun k' hk' => by
        rcases mem_addK.1 hk' with h | rfl
        · exact HSK.out k' h
        · exact List.mem_of_getElem? a2
      have HIT3 := Lib.hid hit3
      have HKM3 := Lib.hid hkm3
      have HB3 := Lib.hid hb3
      have HL9 := Lib.hid hlt9
      generalize e.val = ev at *
      generalize e.born = eb at *
      clear he hj hrun hw1 hit1 hkm1 hit2 hkm2 hb2 hbmr hold hmem a2 a3 a4 a5 hlt9 hlen hit3 hkm3 hb3 hmm hrg
      go_wp2
      go_roundw
      case rel => exact ⟨_, _, HIT3.out, HKM3.out, HK4.out, HK3.out, HB3.out⟩
      case measure =>
        rw [iterSeen_of HIT3.out, iterSeen_of HIT.out]
        exact HL9.out
end Go.Proofs.Ytikpedfggbibpaa
