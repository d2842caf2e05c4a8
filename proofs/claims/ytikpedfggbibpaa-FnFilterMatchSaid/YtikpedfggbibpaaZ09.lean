/- Walks: plain. -/
import Derived.Test.YtikpedfggbibpaaZ08
import Derived.Deep.RegionHeld3
import Derived.Carry
namespace Go.Proofs.Ytikpedfggbibpaa
open Go.RowKit
set_option linter.unusedVariables false

theorem Try.infoAny : (Try.prog.info? 20).map (fun i => (i.zero, i.size, i.bytes)) = some (some .nilIface, 1, 16) := by kernel_rfl

theorem KeepF.trans {lo : Nat} {a b c : World} (h : KeepF lo a b) (hs : a.heap.size ≤ b.heap.size) (k : KeepF lo b c) : KeepF lo a c := fun i hl hi => (k i hl (by omega)).trans (h i hl hi)

/-- one element more has been gathered -/
theorem gath_step {g m : Nat} {wr w2 w3 : World} {l : List J} {xs : List Value} {a : Value} {o : Obj} (hm : m < l.length) (hxs : xs.length = m)
    (hall : ∀ q, (hq : q < l.length) → q < m → ∃ u, xs[q]? = some u ∧ RA wr (g + 1) l[q] u) (ha : RA w2 (wr.heap.size + 1) l[m] a) (h2 : Ext wr w2) (hg : g < wr.heap.size) (h3 : (w2.alloc o).grownBy w3 (some g)) :
    ∀ q, (hq : q < l.length) → q < m + 1 → ∃ u, (xs ++ [a])[q]? = some u ∧ RA w3 (g + 1) l[q] u := by
  have k2 : KeepF (g + 1) w2 w3 := fun k hl hk => (h3.block k (by simp; omega) (by simp; omega)).trans (Below.heap_alloc _ _ _ hk)
  intro q hq hqm
  by_cases hc : q = m
  · subst hc
    exact ⟨a, by simp [hxs], RA.keep (fun k hl hk => k2 k (by omega) hk) (by omega) _ ha⟩
  · obtain ⟨u, hu, hr⟩ := hall q hq (by omega)
    refine ⟨u, ?_, RA.keep ((h2.keepB.from _).trans h2.size k2) (Nat.le_refl _) _ hr⟩
    rw [List.getElem?_append_left (by omega)]
    exact hu

/-- the first m members lie in the map in block M -/
def MapAt (ks : List ByteArray) (l : List J) (w : World) (M m : Nat) : Prop :=
  ∃ es : Array MapEntry, w.heap[M]? = some (.map es m) ∧ es.size = m ∧ ∀ q, (hq : q < l.length) → q < m → ∃ e k, es.toList[q]? = some e ∧ ks[q]? = some k ∧ e.key = .string k ∧ e.born = q ∧ RA w (M + 1) l[q] e.val

theorem MapAt.fresh {ks : List ByteArray} {l : List J} {w : World} {M m : Nat} {es : Array MapEntry} {k : ByteArray} (hs : es.size = m) (hm : m < l.length) (hk : ks[m]? = some k) (hnd : ks.Nodup)
    (h : ∀ q, (hq : q < l.length) → q < m → ∃ e k, es.toList[q]? = some e ∧ ks[q]? = some k ∧ e.key = .string k ∧ e.born = q ∧ RA w (M + 1) l[q] e.val) : ∀ e ∈ es.toList, ∃ s, e.key = .string s ∧ s ≠ k := by
  intro e he
  obtain ⟨q, hq, hqe⟩ := List.mem_iff_getElem.1 he
  have hq' : q < m := by simp at hq; omega
  obtain ⟨e', k', h1, h2, h3, _⟩ := h q (by omega) hq'
  rw [List.getElem?_eq_getElem hq, hqe] at h1
  cases h1
  refine ⟨k', h3, ?_⟩
  rintro rfl
  have hq2 := (List.getElem?_eq_some_iff.1 h2).1
  have := (List.getElem?_inj hq2 hnd).1 (h2.trans hk.symm)
  omega

theorem MapAt.step {ks : List ByteArray} {l : List J} {wr w2 : World} {M m : Nat} {es : Array MapEntry} {k : ByteArray} {a : Value} (hm : m < l.length) (hk : ks[m]? = some k)
    (hs : es.size = m) (h : ∀ q, (hq : q < l.length) → q < m → ∃ e k, es.toList[q]? = some e ∧ ks[q]? = some k ∧ e.key = .string k ∧ e.born = q ∧ RA wr (M + 1) l[q] e.val)
    (ha : RA w2 (wr.heap.size + 1) l[m] a) (h2 : Ext wr w2) (hM : M < wr.heap.size) : MapAt ks l (setMap w2 M (es.push { key := .string k, val := a, born := m }) (m + 1)) M (m + 1) := by
  have hM2 : M < w2.heap.size := Nat.lt_of_lt_of_le hM h2.size
  have kf : KeepF (M + 1) w2 (setMap w2 M (es.push { key := .string k, val := a, born := m }) (m + 1)) := KeepF.grown (setMap_grown _ _ _ _) (by omega)
  refine ⟨_, setMap_same hM2, by simp [hs], fun q hq hqm => ?_⟩
  by_cases hc : q = m
  · subst hc
    exact ⟨{ key := .string k, val := a, born := q }, k, by simp [hs], hk, rfl, rfl, RA.keep (fun i hl hi => kf i (by omega) hi) (by omega) _ ha⟩
  · obtain ⟨e, k', h3, h4, h5, h6, h7⟩ := h q hq (by omega)
    refine ⟨e, k', ?_, h4, h5, h6, RA.keep ((h2.keepB.from _).trans h2.size kf) (Nat.le_refl _) _ h7⟩
    rw [Array.toList_push, List.getElem?_append_left (by simp; omega)]
    exact h3

def PlainPost (j : J) (w : World) (e : Ending) (w' : World) : Prop := ∃ a, e = .returned a ∧ RA w' w.heap.size j a ∧ Ext w w'

set_option maxRecDepth 100000 in
set_option maxHeartbeats 2000000 in
theorem plain_any (N : Nat) : ∀ (j : J), j.nodes ≤ N → j.ok → ∀ (v : Value) (w : World), RV w (V.ofJ j) v →
    Calls Try.prog 40 #[v] w (PlainPost j w) := by
  induction N with
  | zero => intro j hj; have := j.nodes_pos; omega
  | succ N ih =>
  intro j hN hok v w h
  cases j with
  | null =>
    unfold V.ofJ RV at h
    obtain ⟨al, lc, ak, kc, rfl, z, hl, hk⟩ := h
    clear hl hk z ih
    go_enter Try.func40, Try.ntmps40
    go_wp2
    go_ret
    exact ⟨_, rfl, by unfold RA; rfl, (Ext.refl _).alloc _⟩
  | bool b =>
    unfold V.ofJ RV at h
    obtain ⟨al, lc, ak, kc, rfl, z, hl, hk⟩ := h
    clear hl hk z ih
    cases b
    all_goals (go_enter Try.func40, Try.ntmps40)
    all_goals go_wp2
    all_goals go_ret
    all_goals exact ⟨_, rfl, by unfold RA; rfl, (Ext.refl _).alloc _⟩
  | int n =>
    unfold V.ofJ RV at h
    obtain ⟨al, lc, ak, kc, rfl, z, hl, hk⟩ := h
    clear hl hk z ih
    go_enter Try.func40, Try.ntmps40
    go_wp2
    go_ret
    exact ⟨_, rfl, by unfold RA; rfl, (Ext.refl _).alloc _⟩
  | flt b =>
    unfold V.ofJ RV at h
    obtain ⟨al, lc, ak, kc, rfl, z, hl, hk⟩ := h
    clear hl hk z ih
    go_enter Try.func40, Try.ntmps40
    go_wp2
    go_ret
    exact ⟨_, rfl, by unfold RA; rfl, (Ext.refl _).alloc _⟩
  | str s =>
    unfold V.ofJ RV at h
    obtain ⟨al, lc, ak, kc, rfl, z, hl, hk⟩ := h
    clear hl hk z ih
    go_enter Try.func40, Try.ntmps40
    go_wp2
    go_ret
    exact ⟨_, rfl, by unfold RA; rfl, (Ext.refl _).alloc _⟩
  | arr l =>
    unfold V.ofJ RV at h
    obtain ⟨al, lc, ak, kc, rfl, z, hl, hk⟩ := h
    have hll : l.length * 88 ≤ reachN := by have := z.hll; have := z.hlc; rw [V.ofJs_length] at *; omega
    unfold reachN at hll
    rw [V.ofJs_length]
    have IH := Lib.hid ih
    have HL := Lib.hid hl
    have HN := Lib.hid hN
    have HOK := Lib.hid hok
    clear hl hk z ih hN hok
    obtain ⟨i0, hi, hz0, hz1, hz2⟩ := info_parts Try.infoAny
    go_enter Try.func40, Try.ntmps40
    go_wp2_with (at_make; refine wpList_make_own _ rfl _ _ 85 rfl (w.heap.size + 1) 20 i0 .nilIface 1 Try.underlying85 hi hz0 hz1 .i64 .i64 l.length l.length rfl rfl rfl (by rw [hz2]; omega) (by unfold maxLen; omega) (by simp) ?_; intro w1 hown hgrow; have hb1 : Below (w.heap.size + 1) (w.alloc (.cells #[.int .i64 7, .int .i64 0, .float .f64 0, .string ByteArray.empty, .slice al l.length lc, .slice ak 0 kc] 26)) w1 := Below.grown (Below.refl _ _) hgrow (by simp) (fun k hk => by cases hk); obtain ⟨q0, q1, q2, q3, q4, q5⟩ := box_cells hb1; have HO := Lib.hid hown; have HB1 := Lib.hid hb1; clear hown hgrow hb1)
    rw [World.size_alloc] at HO
    go_loopw [3, 5, 46] (fun v _ i wr => ∃ m : Nat, ∃ xs : List Value, m ≤ l.length ∧ i = .int .i64 m ∧ v = .slice (some ⟨w.heap.size + 1, 0, none⟩) m l.length ∧
        wr.ownsRow (w.heap.size + 1) 20 1 (.slice (some ⟨w.heap.size + 1, 0, none⟩) m l.length) m xs ∧ (∀ q, (hq : q < l.length) → q < m → ∃ u, xs[q]? = some u ∧ RA wr (w.heap.size + 1 + 1) l[q] u) ∧
        Below (w.heap.size + 1) (w.alloc (.cells #[.int .i64 7, .int .i64 0, .float .f64 0, .string ByteArray.empty, .slice al l.length lc, .slice ak 0 kc] 26)) wr)
      (fun _ _ i _ => l.length - (intOf i).toNat)
    case atStart => exact ⟨0, [], Nat.zero_le _, rfl, rfl, HO.out, fun q _ h => by omega, HB1.out⟩
    case round =>
      obtain ⟨m, xs, hm, rfl, rfl, hown, hall, hb⟩ := hrel
      obtain ⟨b0, b1, b2, b3, b4, b5⟩ := box_cells hb
      have HA := Lib.hid hall
      have HB := Lib.hid hb
      have HOW := Lib.hid hown
      have EX : Hid (Ext w wr) := (Ext.refl w).trans ((Below.alloc (Below.refl _ _) (Nat.le_refl _) _).trans (HB.out.mono (by omega)))
      clear hall hb hown
      by_cases hltm : m < l.length
      · obtain ⟨bb, oo, d0, d1, d2, d3, d4, d5, rfl, E⟩ := RV.elem (k := 0) (n := 0) (f := 0) (s := ByteArray.empty) (ks := []) HL.out m (by rw [V.ofJs_length]; exact hltm)
        rw [V.ofJs_get l m hltm] at E
        obtain ⟨sk, sn, sf, ss, sal, sll, slc, sak, skl, skc, rfl, rfl, rfl, rfl, rfl, rfl⟩ := E.rv.shape
        have KK : Keep w wr := EX.out.keep
        have e0 := KK _ _ E.h0
        have e1 := KK _ _ E.h1
        have e2 := KK _ _ E.h2
        have e3 := KK _ _ E.h3
        have e4 := KK _ _ E.h4
        have e5 := KK _ _ E.h5
        have hch : l[m].nodes ≤ N := by
          have := HN.out
          have h2 := J.nodes_mem (List.getElem_mem hltm)
          simp only [J.nodes] at this
          omega
        have hok : (l[m]).ok := by
          have := HOK.out
          unfold J.ok at this
          exact J.oks_get this m hltm
        have HRV := Lib.hid (RV.keep KK _ E.rv)
        have HC := Lib.hid (IH.out l[m] hch hok)
        clear E KK hch hok
        go_wp2_with fail
        refine (HC.out _ _ (RV.keep (Keep.alloc wr _) _ HRV.out)).mono ?_
        rintro e w2 ⟨a, rfl, ha, hb2⟩
        rw [World.size_alloc] at ha
        have EX2 : Hid (Ext wr w2) := ((Ext.refl wr).alloc _).trans hb2
        have HRA := Lib.hid ha
        have ho2 := Lib.hid (ownsRow_ext HOW.out (EX2.out.alloc (.cells #[a] 20)))
        have hg2 : w.heap.size + 1 < wr.heap.size := (HOW.out.lt (w.heap.size + 1) rfl).2
        have hg3 : wr.heap.size ≤ w2.heap.size := EX2.out.size
        have hform := ha.form
        clear ha hb2 b0 b1 b2 b3 b4 b5 e0 e1 e2 e3 e4 e5 HC HRV
        rcases hform with rfl | ⟨ta, xa, rfl⟩
        all_goals go_wp2_with (at_builtin; refine wpList_append_fits _ rfl _ _ 85 rfl (w.heap.size + 1) 20 i0 1 Try.underlying85 hi hz1 (w.heap.size + 1) m l.length xs rfl ho2.out ⟨w2.heap.size, 0, none⟩ 1 1 [_] rfl rfl (cell_one_new _ _ _) (by intro u hu; simp at hu; subst hu; rfl) (by omega) ?_; intro w3 hown3 hgrow3; have HO3 := Lib.hid hown3; have HG3 := Lib.hid hgrow3; clear hown3 hgrow3)
        all_goals go_roundw
        all_goals try (case measure => simp [intOf]; omega)
        all_goals exact ⟨m + 1, _, by omega, by go_num, rfl, HO3.out, gath_step hltm (by simpa using HOW.out.1) HA.out HRA.out EX2.out hg2 HG3.out,
            Below.grown ((HB.out.trans (EX2.out.mono (by omega))).alloc (by omega) _) HG3.out (by simp; omega) (fun k hk => by cases hk; omega)⟩
      · have hm' : m = l.length := by omega
        subst hm'
        have hfin : Hid (RA wr w.heap.size (.arr l) (.iface 85 (.slice (some ⟨w.heap.size + 1, 0, none⟩) l.length l.length))) := by
          unfold RA
          refine ⟨w.heap.size + 1, l.length, rfl, by omega, Nat.le_refl _, RAs_of fun q hq => ?_⟩
          obtain ⟨u, hu, hr⟩ := HA.out q hq hq
          have := HOW.out.cellAt q (by omega)
          rw [hu] at this
          exact ⟨u, by simpa using this, RA.keep (fun _ _ _ => rfl) (by omega) _ hr⟩
        clear HA HOW HB
        go_wp2
        go_ret
        exact ⟨_, rfl, hfin.out, EX.out⟩
  | obj ks l =>
    unfold V.ofJ RV at h
    obtain ⟨al, lc, ak, kc, rfl, z, hl, hk⟩ := h
    have hll : l.length * 88 ≤ reachN := by have := z.hll; have := z.hlc; rw [V.ofJs_length] at *; omega
    unfold reachN at hll
    have hnd : ks.Nodup := by unfold J.ok at hok; exact hok.1
    have hkl : ks.length = l.length := by unfold J.ok at hok; exact hok.2.1
    have hoks : J.oks l := by unfold J.ok at hok; exact hok.2.2
    rw [V.ofJs_length, hkl]
    have IH := Lib.hid ih
    have HL := Lib.hid hl
    have HN := Lib.hid hN
    have HOK := Lib.hid hoks
    have HK := Lib.hid hk
    have HND := Lib.hid hnd
    have HKL := Lib.hid hkl
    clear hl hk z ih hN hok hnd hkl hoks
    have hmm : ∀ (w : World) (n : Int), (Instr.makeMap 77 (some (.int .i64 n))).run Try.prog w = .ok (.map (some w.heap.size)) (w.alloc (.map #[] 0)) := fun w n => by
      simp [Instr.makeMap, run_underlying Try.underlying77, asInt, asIntOf, Result.andThen]
    go_enter Try.func40, Try.ntmps40
    go_wp2
    go_loopw [7, 8, 67] (fun _ _ i wr => ∃ m : Nat, m ≤ l.length ∧ i = .int .i64 m ∧ MapAt ks l wr (w.heap.size + 1) m ∧
        Below (w.heap.size + 1) (w.alloc (.cells #[.int .i64 8, .int .i64 0, .float .f64 0, .string ByteArray.empty, .slice al l.length lc, .slice ak l.length kc] 26)) wr)
      (fun _ _ i _ => l.length - (intOf i).toNat)
    case atStart => exact ⟨0, Nat.zero_le _, rfl, ⟨#[], by simpa using (MapKept.heap_alloc (w.alloc (.cells #[.int .i64 8, .int .i64 0, .float .f64 0, .string ByteArray.empty, .slice al l.length lc, .slice ak l.length kc] 26)) _).1, rfl, fun q _ h => by omega⟩, (Below.refl _ _).alloc (by simp) _⟩
    case round =>
      obtain ⟨m, hm, rfl, ⟨es, hM, hs, hall⟩, hb⟩ := hrel
      obtain ⟨b0, b1, b2, b3, b4, b5⟩ := box_cells hb
      have HA := Lib.hid hall
      have HB := Lib.hid hb
      have HM := Lib.hid hM
      have HS := Lib.hid hs
      have hM0 : w.heap.size + 1 < wr.heap.size := (Array.getElem?_eq_some_iff.1 hM).1
      have EX : Hid (Ext w wr) := (Ext.refl w).trans ((Below.alloc (Below.refl _ _) (Nat.le_refl _) _).trans (HB.out.mono (by omega)))
      clear hall hb hM hs
      by_cases hltm : m < l.length
      · obtain ⟨bb, oo, d0, d1, d2, d3, d4, d5, rfl, E⟩ := RV.elem (k := 0) (n := 0) (f := 0) (s := ByteArray.empty) (ks := []) HL.out m (by rw [V.ofJs_length]; exact hltm)
        rw [V.ofJs_get l m hltm] at E
        obtain ⟨sk, sn, sf, ss, sal, sll, slc, sak, skl, skc, rfl, rfl, rfl, rfl, rfl, rfl⟩ := E.rv.shape
        have hkm : m < ks.length := by rw [HKL.out]; exact hltm
        obtain ⟨kb, ko, rfl, hkc⟩ := HK.out (by intro h; rw [h] at hkm; simp at hkm)
        obtain ⟨kk, hkk⟩ : ∃ kk, kk = ks[m] := ⟨_, rfl⟩
        have hck := hkc m hkm
        rw [← hkk] at hck
        have hks? : ks[m]? = some kk := by rw [hkk]; exact List.getElem?_eq_getElem hkm
        have HKS := Lib.hid hks?
        have KK : Keep w wr := EX.out.keep
        have e0 := KK _ _ E.h0
        have e1 := KK _ _ E.h1
        have e2 := KK _ _ E.h2
        have e3 := KK _ _ E.h3
        have e4 := KK _ _ E.h4
        have e5 := KK _ _ E.h5
        have ek := KK _ _ hck
        have hkb := lt_of_cell ek
        simp only at hkb
        have hch : l[m].nodes ≤ N := by
          have := HN.out
          have h2 := J.nodes_mem (List.getElem_mem hltm)
          simp only [J.nodes] at this
          omega
        have hok : (l[m]).ok := J.oks_get HOK.out m hltm
        have HRV := Lib.hid (RV.keep KK _ E.rv)
        have HC := Lib.hid (IH.out l[m] hch hok)
        clear E KK hch hok hkk hks? hkc hck hkm
        have i0 : (0 : Int) ≤ (m : Int) := Int.natCast_nonneg _
        have i1 : (m : Int) < (l.length : Int) := by omega
        go_wp2_with fail
        go_region_held3 (fun w' => w'.cell? ⟨w.heap.size, 5, none⟩ = some (.slice (some ⟨kb, ko, none⟩) l.length kc) ∧ w'.cell? ⟨kb, ko + m, none⟩ = some (.string kk) ∧
            w'.cell? ⟨wr.heap.size, 0, none⟩ = some (.int .i64 sk) ∧ w'.cell? ⟨wr.heap.size, 1, none⟩ = some (.int .i64 sn) ∧ w'.cell? ⟨wr.heap.size, 2, none⟩ = some (.float .f64 sf) ∧
            w'.cell? ⟨wr.heap.size, 3, none⟩ = some (.string ss) ∧ w'.cell? ⟨wr.heap.size, 4, none⟩ = some (.slice sal sll slc) ∧ w'.cell? ⟨wr.heap.size, 5, none⟩ = some (.slice sak skl skc))
          (first
            | go_keep
            | (go_split_ands
               exact ⟨hk2 _ _ (by assumption), hk2 _ _ (by assumption), hk2 _ _ (by assumption), hk2 _ _ (by assumption), hk2 _ _ (by assumption), hk2 _ _ (by assumption), hk2 _ _ (by assumption), hk2 _ _ (by assumption)⟩)
            | (go_split_ands
               exact ⟨hk3 _ _ (by assumption), hk3 _ _ (by assumption), hk3 _ _ (by assumption), hk3 _ _ (by assumption), hk3 _ _ (by assumption), hk3 _ _ (by assumption), hk3 _ _ (by assumption), hk3 _ _ (by assumption)⟩))
          (first
            | (go_at_call 40; refine (HC.out _ _ (RV.keep (by first | exact Keep.alloc wr _ | exact (Keep.alloc wr _).trans (Keep.drew _)) _ HRV.out)).mono ?_; rintro e w2 ⟨a, rfl, ha, hb2⟩; have hk2 := hb2.keep; have hm2 : w2.heap[w.heap.size + 1]? = some (.map es m) := (hb2.block (w.heap.size + 1) (by simp; omega)).trans ((heap_alloc_old wr _ hM0).trans HM.out); have hrun := run_mapUpdate_new w2 77 9 20 Try.underlying77 Try.underlying9 (w.heap.size + 1) es m hm2 kk a (MapAt.fresh HS.out hltm HKS.out HND.out HA.out); have hk3 := (setMap_keep hm2 (es.push { key := Value.string kk, val := a, born := m }) (m + 1)); have HRA := Lib.hid ha; have HB2 := Lib.hid hb2; clear ha hb2))
        have EX2 : Hid (Ext wr w2) := Ext.trans (Below.drew (Ext.alloc (Ext.refl wr) _)) HB2.out
        have hra : RA w2 (wr.heap.size + 1) l[m] a := by have := HRA.out; simpa using this
        have HSTEP := Lib.hid (MapAt.step hltm HKS.out HS.out HA.out hra EX2.out hM0)
        have HBB : Hid (Below (w.heap.size + 1) (w.alloc (.cells #[.int .i64 8, .int .i64 0, .float .f64 0, .string ByteArray.empty, .slice (some ⟨bb, oo, none⟩) l.length lc, .slice (some ⟨kb, ko, none⟩) l.length kc] 26)) (setMap w2 (w.heap.size + 1) (es.push { key := Value.string kk, val := a, born := m }) (m + 1))) :=
          Below.grown (HB.out.trans (EX2.out.mono (by omega))) (setMap_grown _ _ _ _) (by have := EX2.out.size; omega) (fun k hk => by cases hk; omega)
        clear HB2 HRA hra EX2 hk2 hk3 hm2 hrun
        go_wp2
        go_roundw
        case rel => exact ⟨m + 1, by omega, by go_num, HSTEP.out, HBB.out⟩
        case measure => simp [intOf]; omega
      · have hm' : m = l.length := by omega
        subst hm'
        have hfin : Hid (RA wr w.heap.size (.obj ks l) (.iface 77 (.map (some (w.heap.size + 1))))) := by
          unfold RA
          refine ⟨w.heap.size + 1, es, rfl, by omega, by rw [HS.out]; exact HM.out, RMs_of HKL.out (by have := HS.out; simpa using this) fun q hq => ?_⟩
          obtain ⟨e, k, h1, h2, h3, h4, h5⟩ := HA.out q hq hq
          exact ⟨e, k, h1, h2, h3, by omega, RA.keep (fun _ _ _ => rfl) (by omega) _ h5⟩
        clear HA HB HM HS
        go_wp2
        go_ret
        exact ⟨_, rfl, hfin.out, EX.out⟩
end Go.Proofs.Ytikpedfggbibpaa
