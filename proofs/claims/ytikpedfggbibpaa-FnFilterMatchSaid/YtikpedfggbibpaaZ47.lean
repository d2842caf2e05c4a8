/- Walk: grown, with a key, into an object. -/
import Derived.Test.YtikpedfggbibpaaZ43
namespace Go.Proofs.Ytikpedfggbibpaa
open Go.RowKit Go.Lib
set_option linter.unusedVariables false
set_option linter.unusedSimpArgs false

set_option maxRecDepth 20000 in
set_option maxHeartbeats 4000000 in
theorem grown_walk8 (k : ByteArray) (r : Pth) (ih : GrAt r) (o : Option J) (x : J) (ks : List ByteArray) (l : List J) (hkl : ks.length = l.length) (hnd : ks.Nodup) (hl5 : l.length ≤ 5000)
    (hgo : growJ o (k :: r) x = growJ (some (.obj ks l)) (k :: r) x) (hch : ∀ i, (h : i < l.length) → l[i].nodes ≤ 5000 ∧ ∃ E, TreeOf E l[i] ∧ ∃ p x, E p x)
    (al ak : Option Addr) (lc kc : Nat) (vx : Value) (a : Option Addr) (c : Nat) (w0 w : World) (hK : Keep w0 w) (es : List V6) (es1 : es.length = l.length) (es2 : ∀ i, (h : i < l.length) → (h' : i < es.length) → RV w0 (V.ofJ l[i]) es[i].val)
    (hal : l.length = 0 → al = none) (hals : l.length ≠ 0 → ∃ b o, al = some ⟨b, o, none⟩ ∧ ∀ j u, (es.flatMap V6.cells)[j]? = some u → w.cell? ⟨b, o + j, none⟩ = some u)
    (hks : KS w ak ks) (hkz : ∀ x ∈ ks, x.size ≤ reachN) (hvx : RV w0 (V.ofJ x) vx) (hk : KS w a (k :: r)) (hc : r.length + 1 ≤ c) (hK1 : r.length + 1 ≤ 1000) (hz : ∀ y ∈ k :: r, y.size ≤ 1000) :
    Calls Try.prog 50 #[.agg #[.int .i64 8, .int .i64 0, .float .f64 0, .string ByteArray.empty, .slice al l.length lc, .slice ak ks.length kc], .slice a (r.length + 1) c, vx] w (GrPost o (k :: r) x w0 w) := by
  have eone : ∀ u ∈ es.flatMap V6.cells, u.oneCell' = true := fun u hu => by
    obtain ⟨f, hf, hu'⟩ := List.mem_flatMap.1 hu
    obtain ⟨i, hi', hfe⟩ := List.mem_iff_getElem.1 hf
    have := es2 i (by omega) hi'
    rw [hfe] at this
    exact six_one this u hu'
  obtain ⟨xal, xlc, xak, xkc, rfl⟩ := hvx.six
  have HCV : Hid (∀ w1, Keep w w1 → Calls Try.prog 43 #[.slice al l.length lc] w1 fun e w' => ∃ v', e = .returned v' ∧ w'.ownsRow w1.heap.size 26 6 v' l.length (es.flatMap V6.cells) ∧ Ext w1 w') := fun w1 hk1 =>
    clone_es0 al lc l.length es w1 es1 (by unfold reachN; omega) hal (fun h => by obtain ⟨b, o, e, hcs⟩ := hals h; exact ⟨b, o, e, fun j u hu => hk1 _ _ (hcs j u hu)⟩) eone
  have HCK : Hid (∀ w1, Keep w w1 → Calls Try.prog 44 #[.slice ak ks.length kc] w1 fun e w' => ∃ v', e = .returned v' ∧ OwnStrs w' w1.heap.size v' ks ∧ Ext w1 w') := fun w1 hk1 => clone_strs ak kc ks w1 (hks.keep hk1) (by unfold reachN; omega)
  have hlen1 : ((r.length : Int) + 1 == 0) = false := by simp; omega
  obtain ⟨w3, e3, b0, b1, b2, bs, X3⟩ := heaps3' w (.cells #[.int .i64 8, .int .i64 0, .float .f64 0, .string ByteArray.empty, .slice al l.length lc, .slice ak ks.length kc] 26 (0, 0))
    (.cells #[.int .i64 (V.ofJ x).kind, .int .i64 (V.ofJ x).n, .float .f64 (V.ofJ x).f, .string (V.ofJ x).s, .slice xal (V.ofJ x).l.length xlc, .slice xak (V.ofJ x).keys.length xkc] 26 (0, 0))
    (.cells #[.int .i64 0, .int .i64 0, .float .f64 0, .string { data := #[] }, .slice none 0 0, .slice none 0 0] 26 (0, 0))
  have HX3 := Lib.hid X3
  have HVX := Lib.hid hvx
  have HES2 := Lib.hid es2
  have HES1 := Lib.hid es1
  have HEO := Lib.hid eone
  have HND := Lib.hid hnd
  have HKL := Lib.hid hkl
  have HCH := Lib.hid hch
  have HGO := Lib.hid hgo
  have HKW := Lib.hid hk
  have HC := Lib.hid hc
  have HZ := Lib.hid hz
  have HKZ := Lib.hid hkz
  have HL5 := Lib.hid hl5
  have HIH := Lib.hid ih
  have HK := Lib.hid hK
  obtain ⟨ba, oa, rfl, hka⟩ := hk (by simp)
  have f0 := hka 0 (by simp)
  simp only [Nat.add_zero, List.getElem_cons_zero] at f0
  clear hkl hvx es2 es1 eone hnd hch hgo hk hc hz hkz hl5 ih hK hka hal hals hks
  go_enter Try.func50, Try.ntmps50
  go_wp2_with fail
  rw [← e3]
  clear e3
  have r4 : w3.cell? ⟨w.heap.size, 4, none⟩ = some (.slice al l.length lc) := (cell_of_row _ _ _ _ _ _ b0).trans rfl
  have r5 : w3.cell? ⟨w.heap.size, 5, none⟩ = some (.slice ak ks.length kc) := (cell_of_row _ _ _ _ _ _ b0).trans rfl
  go_cut [8] from 8 to 78 (fun t8 wx => ∃ (gT cL cK : Nat) (aL aK : Option Addr), t8 = .pointer (some ⟨gT, 0, none⟩) ∧ Ext w wx ∧ w.heap.size + 3 ≤ gT ∧ wx.heap[gT]? = some (.cells #[.int .i64 8, .int .i64 0, .float .f64 0, .string ByteArray.empty, .slice aL l.length cL, .slice aK ks.length cK] 26 (0, 0)) ∧
      wx.heap[w.heap.size + 1]? = some (.cells #[.int .i64 (V.ofJ x).kind, .int .i64 (V.ofJ x).n, .float .f64 (V.ofJ x).f, .string (V.ofJ x).s, .slice xal (V.ofJ x).l.length xlc, .slice xak (V.ofJ x).keys.length xkc] 26 (0, 0)) ∧
      wx.heap[w.heap.size + 1 + 1]? = some (.cells #[.int .i64 0, .int .i64 0, .float .f64 0, .string ByteArray.empty, .slice none 0 0, .slice none 0 0] 26 (0, 0)) ∧
      wx.ownsRow (w.heap.size + 3) 26 6 (.slice aL l.length cL) l.length (es.flatMap V6.cells) ∧ wx.ownsRow (w.heap.size + 3) 9 1 (.slice aK ks.length cK) ks.length (ks.map Value.string) ∧
      (Value.slice aL l.length cL).ownBlock ≠ some gT ∧ (Value.slice aK ks.length cK).ownBlock ≠ some gT)
  case first =>
    go_region_held3 (fun w' => w'.cell? ⟨w.heap.size, 4, none⟩ = some (.slice al l.length lc) ∧ w'.cell? ⟨w.heap.size, 5, none⟩ = some (.slice ak ks.length kc))
      (first
        | (go_split_ands
           with_reducible exact ⟨(Keep.alloc _ _).get (k36.get r4), (Keep.alloc _ _).get (k36.get r5)⟩)
        | (go_split_ands
           with_reducible exact ⟨k36.get r4, k36.get r5⟩)
        | (go_split_ands
           exact ⟨(cell_setRow_other _ _ _ _ hTA).trans (k36.get r4), (cell_setRow_other _ _ _ _ hTA).trans (k36.get r5)⟩)
        | (go_split_ands
           with_reducible exact ⟨(Keep.alloc _ _).get (k35.get r4), (Keep.alloc _ _).get (k35.get r5)⟩)
        | (go_split_ands
           with_reducible exact ⟨k35.get r4, k35.get r5⟩)
        | go_keep)
      (first
        | (go_at_call 43; refine (HCV.out _ (by first | exact X5.out.keep | exact (X5.out.alloc _).keep)).mono ?_; rintro e w6 ⟨vL, rfl, hoL, hx6⟩
           have k36 : Keep w3 w6 := by first | exact k35.trans hx6.keep | exact (k35.trans (Keep.alloc _ _)).trans hx6.keep
           obtain ⟨aL, cL, rfl, hLc⟩ := own_sh hoL
           have HOL := Lib.hid hoL
           have X56 : Hid (Ext w5 w6) := by first | exact hx6 | exact ((Ext.refl w5).alloc _).trans hx6
           first
             | (have hT6 := (hx6.block w5.heap.size (by simp)).trans (heap_alloc_new w5 (.cells #[.int .i64 0, .int .i64 0, .float .f64 0, .string { data := #[] }, .slice none 0 0, .slice none 0 0] 26))
                have hTA : w.heap.size ≠ w5.heap.size := by have := X35.out.size; omega
                obtain ⟨⟨p0, p1, p2⟩, ⟨p3, p4, p5⟩, ⟨p6, p7, p8⟩, ⟨p9, p10, p11⟩, ⟨p12, p13, p14⟩, ⟨p15, p16, p17⟩⟩ := six_stores hT6 (.int .i64 8) (.int .i64 0) (.float .f64 0) (.string { data := #[] }) (.slice aL l.length cL) (.slice aK ks.length cK)
                have HT6 := Lib.hid hT6
                clear hT6)
             | (have hT6 := (hx6.block _ (Array.getElem?_eq_some_iff.1 HT5.out).1).trans HT5.out
                obtain ⟨⟨p0, p1, p2⟩, ⟨p3, p4, p5⟩, ⟨p6, p7, p8⟩, ⟨p9, p10, p11⟩, ⟨p12, p13, p14⟩, ⟨p15, p16, p17⟩⟩ := six_stores hT6 (.int .i64 8) (.int .i64 0) (.float .f64 0) (.string { data := #[] }) (.slice aL l.length cL) (.slice aK ks.length cK)
                have hTA : w.heap.size ≠ w.heap.size + 1 + 1 + 1 := by omega
                have HT6 := Lib.hid hT6
                clear hT6)
             | skip
           clear hoL hx6)
        | (go_at_call 44; refine (HCK.out _ (by first | exact HX3.out.keep | exact (Ext.drew HX3.out).keep | exact (HX3.out.alloc _).keep | exact ((Ext.drew HX3.out).alloc _).keep)).mono ?_; rintro e w5 ⟨vK, rfl, hoK, hx5⟩
           have k35 : Keep w3 w5 := by first | exact hx5.keep | exact (Keep.drew _).trans hx5.keep | exact (Keep.alloc _ _).trans hx5.keep
           unfold OwnStrs at hoK
           obtain ⟨aK, cK, rfl, hKc⟩ := own_sh hoK
           have HOK := Lib.hid hoK
           have X5 : Hid (Ext w w5) := by first | exact HX3.out.trans hx5 | exact (Ext.drew HX3.out).trans hx5 | exact (HX3.out.alloc _).trans hx5 | exact ((Ext.drew HX3.out).alloc _).trans hx5
           have X35 : Hid (Ext w3 w5) := by first | exact hx5 | exact (Ext.drew (Ext.refl w3)).trans hx5 | exact ((Ext.refl w3).alloc _).trans hx5 | exact ((Ext.drew (Ext.refl w3)).alloc _).trans hx5
           first
             | (have HT5 : Hid (w5.heap[w.heap.size + 1 + 1 + 1]? = some (.cells #[.int .i64 0, .int .i64 0, .float .f64 0, .string { data := #[] }, .slice none 0 0, .slice none 0 0] 26 (0, 0))) := by
                  have h9 := heap_alloc_new w3 (.cells #[.int .i64 0, .int .i64 0, .float .f64 0, .string { data := #[] }, .slice none 0 0, .slice none 0 0] 26)
                  rw [bs] at h9
                  exact (hx5.block _ (by simp [bs])).trans h9)
             | skip
           clear hoK hx5))
    · go_wp2_with fail
      go_meet
      have E36 : Ext w3 w6 := X35.out.trans X56.out
      have hK6 := ownsRow_ext HOK.out X56.out
      have s35 := X35.out.size
      have s36 := E36.size
      refine ⟨w6.heap.size, cL, cK, aL, aK, rfl, (HX3.out.trans E36).alloc _, by omega, heap_alloc_new _ _, ((E36.alloc _).block _ (by omega)).trans b1, ((E36.alloc _).block _ (by omega)).trans b2, ?_, ?_, ?_, ?_⟩
      · exact (row_mono HOL.out (by first | omega | (simp; omega))).alloc _
      · exact (row_mono hK6 (by first | omega | (simp; omega))).alloc _
      · exact row_away HOL.out (Or.inr (Nat.le_refl _))
      · exact row_away hK6 (Or.inr (Nat.le_refl _))
    · go_wp2_with fail
      go_meet
      have E36 : Ext w3 w6 := X35.out.trans X56.out
      have hK6 := ownsRow_ext HOK.out X56.out
      have s35 := X35.out.size
      have s36 := E36.size
      have EF := below_setRow E36 (g := w5.heap.size) s35 #[.int .i64 8, .int .i64 0, .float .f64 0, .string { data := #[] }, .slice aL l.length cL, .slice aK ks.length cK]
      refine ⟨w5.heap.size, cL, cK, aL, aK, rfl, HX3.out.trans EF, by omega, setRow_heap _ _ _ _ _ _ HT6.out, (EF.block _ (by omega)).trans b1, (EF.block _ (by omega)).trans b2, ?_, ?_, ?_, ?_⟩
      · exact (row_mono HOL.out (by first | omega | (simp; omega))).kept (grownBy_setRow _ _ _) (Or.inr (row_away HOL.out (Or.inl (by simp))))
      · exact (row_mono hK6 (by first | omega | (simp; omega))).kept (grownBy_setRow _ _ _) (Or.inr (row_away HOK.out (Or.inr (Nat.le_refl _))))
      · exact row_away HOL.out (Or.inl (by simp))
      · exact row_away HOK.out (Or.inr (Nat.le_refl _))
    · go_wp2_with fail
      go_meet
      have E36 : Ext w3 w6 := X35.out.trans X56.out
      have hK6 := ownsRow_ext HOK.out X56.out
      have s35 := X35.out.size
      have s36 := E36.size
      have EF := below_setRow E36 (g := w.heap.size + 1 + 1 + 1) (by omega) #[.int .i64 8, .int .i64 0, .float .f64 0, .string { data := #[] }, .slice aL l.length cL, .slice aK ks.length cK]
      refine ⟨w.heap.size + 1 + 1 + 1, cL, cK, aL, aK, rfl, HX3.out.trans EF, by omega, setRow_heap _ _ _ _ _ _ HT6.out, (EF.block _ (by omega)).trans b1, (EF.block _ (by omega)).trans b2, ?_, ?_, ?_, ?_⟩
      · exact (row_mono HOL.out (by omega)).kept (grownBy_setRow _ _ _) (Or.inr (row_away HOL.out (Or.inl (by have := X35.out.size; have := (Array.getElem?_eq_some_iff.1 HT5.out).1; omega))))
      · exact (row_mono hK6 (by first | omega | (simp; omega))).kept (grownBy_setRow _ _ _) (Or.inr (row_away HOK.out (Or.inl (by simp; omega))))
      · exact row_away HOL.out (Or.inl (by have := X35.out.size; have := (Array.getElem?_eq_some_iff.1 HT5.out).1; omega))
      · exact row_away HOK.out (Or.inl (by simp; omega))
  case rest =>
    obtain ⟨gT, cL, cK, aL, aK, rfl, hx, hgT, hT, hX, hZ, hoL, hoK, hnL, hnK⟩ := hcut
    have t4 : wc.cell? ⟨gT, 4, none⟩ = some (.slice aL l.length cL) := (cell_of_row _ _ _ _ _ _ hT).trans rfl
    have t5 : wc.cell? ⟨gT, 5, none⟩ = some (.slice aK ks.length cK) := (cell_of_row _ _ _ _ _ _ hT).trans rfl
    have k0 := hx.keep _ _ f0
    have HI : Hid (Calls Try.prog 42 #[.slice aK ks.length cK, .string k] wc fun e w' => e = .returned (.int .i64 (Lib.idxOfS ks k)) ∧ wc = w') := (index_strs aK cK ks k wc (own_KS hoK).1 (by have := HL5.out; have := HKL.out; unfold reachN; omega)).mono fun e w' ⟨h1, h2⟩ => ⟨h1, h2.symm⟩
    have HID : Hid (∀ w1, wc = w1 ∨ w1 = wc.drew → Calls Try.prog 42 #[.slice aK ks.length cK, .string k] w1 fun e w' => e = .returned (.int .i64 (Lib.idxOfS ks k)) ∧ w1 = w') := fun w1 h => by
      have hk1 : KS w1 aK ks := (own_KS hoK).1.keep (by rcases h with rfl | rfl; exact fun _ _ h => h; exact Keep.drew _)
      exact (index_strs aK cK ks k w1 hk1 (by have := HL5.out; have := HKL.out; unfold reachN; omega)).mono fun e w' ⟨h1, h2⟩ => ⟨h1, h2.symm⟩
    clear HI
    have HX := Lib.hid hx
    have HGT := Lib.hid hgT
    have HT := Lib.hid hT
    have HXX := Lib.hid hX
    have HZZ := Lib.hid hZ
    have HOL := Lib.hid hoL
    have HOK := Lib.hid hoK
    have HNL := Lib.hid hnL
    have HNK := Lib.hid hnK
    have lt1 := lt_of_cell t4
    have lt2 := lt_of_cell k0
    have IX := Lib.hid (idxK_idx (k := k) HND.out)
    have il1 : (0 : Int) < (r.length : Int) + 1 := by omega
    clear hx hgT hT hX hZ hoL hoK hnL hnK
    go_upto_region 6 with fail
    go_region_held3 (fun w' => w'.cell? ⟨gT, 5, none⟩ = some (.slice aK ks.length cK) ∧ w'.cell? ⟨ba, oa, none⟩ = some (.string k))
      (first
        | go_keep)
      (first
        | (go_at_call 42; refine (HID.out _ (by first | exact Or.inl rfl | exact Or.inr rfl)).mono ?_; rintro e w8 ⟨rfl, rfl⟩))
    go_upto_if 42 with fail
    go_cut [8, 9] from 8 to 78 (fun t8 t9 wx => ∃ (gT cL cK i : Nat) (aL aK : Option Addr) (L' : List V) (ks' : List ByteArray) (es' : List V6), t8 = .pointer (some ⟨gT, 0, none⟩) ∧ t9 = .int .i64 i ∧ Ext w wx ∧ w.heap.size + 3 ≤ gT ∧ wx.heap[gT]? = some (.cells #[.int .i64 8, .int .i64 0, .float .f64 0, .string ByteArray.empty, .slice aL L'.length cL, .slice aK ks'.length cK] 26 (0, 0)) ∧
      wx.heap[w.heap.size + 1]? = some (.cells #[.int .i64 (V.ofJ x).kind, .int .i64 (V.ofJ x).n, .float .f64 (V.ofJ x).f, .string (V.ofJ x).s, .slice xal (V.ofJ x).l.length xlc, .slice xak (V.ofJ x).keys.length xkc] 26 (0, 0)) ∧
      wx.heap[w.heap.size + 1 + 1]? = some (.cells #[.int .i64 0, .int .i64 0, .float .f64 0, .string ByteArray.empty, .slice none 0 0, .slice none 0 0] 26 (0, 0)) ∧
      wx.ownsRow (w.heap.size + 3) 26 6 (.slice aL L'.length cL) L'.length (es'.flatMap V6.cells) ∧ wx.ownsRow (w.heap.size + 3) 9 1 (.slice aK ks'.length cK) ks'.length (ks'.map Value.string) ∧
      (Value.slice aL L'.length cL).ownBlock ≠ some gT ∧ (Value.slice aK ks'.length cK).ownBlock ≠ some gT ∧ MidG o k r x w0 i L' ks' es')
    case first =>
      cases hi : idxK ks k with
      | some i =>
        have hix : Lib.idxOfS ks k = (i : Int) := by have := IX.out; rw [hi] at this; exact this
        have hneg : ¬ (i : Int) < 0 := by omega
        rw [hix]
        have HMID := Lib.hid (midG_hit (w0 := w0) hi HKL.out HL5.out HGO.out HCH.out HES1.out HES2.out HKZ.out)
        go_wp2_with fail
        go_meet
        have hofl : (V.ofJs l).length = l.length := V.ofJs_length l
        refine ⟨gT, cL, cK, i, aL, aK, V.ofJs l, ks, es, rfl, rfl, by first | exact HX.out | exact Ext.drew HX.out, HGT.out, by rw [hofl]; exact HT.out, HXX.out, HZZ.out, by rw [hofl]; exact HOL.out, HOK.out, by rw [hofl]; exact HNL.out, HNK.out, HMID.out⟩
      | none =>
        have hix : Lib.idxOfS ks k = -1 := by have := IX.out; rw [hi] at this; exact this
        rw [hix]
        have HMID := Lib.hid (midG_miss (w0 := w0) hi HKL.out HL5.out HGO.out HES1.out HES2.out HKZ.out (HZ.out k (by simp)))
        obtain ⟨i9, hi9, hz90, hz91, hz92⟩ := info_parts Try.infoStr
        obtain ⟨i6, hi6, hz60, hz61, hz62⟩ := info_parts Try.infoVal
        have HI9 := Lib.hid hi9
        have HI6 := Lib.hid hi6
        have HZ9 : Hid (i9.zero = some (.string ByteArray.empty) ∧ i9.size = 1 ∧ i9.bytes = 16) := ⟨hz90, hz91, hz92⟩
        have HZ6 : Hid (i6.zero = some zVal ∧ i6.size = 6 ∧ i6.bytes = 88) := ⟨hz60, hz61, hz62⟩
        have HNLK : Hid ((Value.slice aL l.length cL).ownBlock ≠ (Value.slice aK ks.length cK).ownBlock ∨ (Value.slice aL l.length cL).ownBlock = none) := by
          rcases h9 : (Value.slice aL l.length cL).ownBlock with _ | g
          · exact Or.inr rfl
          · refine Or.inl (fun e => ?_)
            rcases HOK.out.2 with ⟨h1, _⟩ | ⟨g1, cap, cur, h1, _⟩
            · rw [h1] at e; cases e
            · have h2 := HOK.out
              rw [h1] at h2 e
              exact other_row HOL.out h2 (by decide) g h9 (by simpa [Value.ownBlock] using e)
        clear hi9 hz90 hz91 hz92 hi6 hz60 hz61 hz62
        have hbg : ba ≠ gT := by have := lt_of_cell f0; have := HGT.out; simp at *; omega
        have HBG := Lib.hid hbg
        have hgt := HGT.out
        have HLT1 : Hid (gT < wc.heap.size) := (Array.getElem?_eq_some_iff.1 HT.out).1
        have NKZ : ∀ g, wc.heap.size ≤ g → some g ≠ (Value.slice aK ks.length cK).ownBlock := fun g h e => by have := (HOK.out.lt _ e.symm).2; omega
        go_upto_region 9 with fail
        have onek : ∀ u ∈ [Value.string k], u.oneCell' = true := by intro u hu; simp at hu; subst hu; rfl
        have onez : ∀ u ∈ [Value.int .i64 0, .int .i64 0, .float .f64 0, .string { data := #[] }, .slice none 0 0, .slice none 0 0], u.oneCell' = true := by intro u hu; simp at hu; rcases hu with rfl | rfl | rfl | rfl <;> rfl
        have m1 : ks.length + 1 ≤ maxLen := by have := HL5.out; have := HKL.out; unfold maxLen; omega
        have m2 : (ks.length + 1) * 16 ≤ 140737488355328 := by have := HL5.out; have := HKL.out; omega
        have m3 : l.length + 1 ≤ maxLen := by have := HL5.out; unfold maxLen; omega
        have m4 : (l.length + 1) * 88 ≤ 140737488355328 := by have := HL5.out; omega
        have hzE := HZ9.out.1
        have hzE1 := HZ9.out.2.1
        have hzE2 := HZ9.out.2.2
        have hyE := HZ6.out.1
        have hyE1 := HZ6.out.2.1
        have hyE2 := HZ6.out.2.2
        have BA : w.heap.size + 3 ≤ wc.heap.size := Nat.le_trans HGT.out (Nat.le_of_lt HLT1.out)
        obtain ⟨wd, hwd⟩ : ∃ wd, wd = World.drew wc := ⟨_, rfl⟩
        refine wp_region_G (S := S9 gT ba oa (.slice aK ks.length cK) (.slice aL l.length cL) k) (by kernel_rfl) ?_
        rw [← hwd]
        have Ewd : Hid (Ext wc wd) := by rw [hwd]; exact Ext.drew (Ext.refl wc)
        clear hwd
        have kwd := Ext.get Ewd.out k0
        have pwd := Ext.get Ewd.out t5
        have qwd := Ext.get Ewd.out t4
        refine wpAnyG_take (i := 0) (v := .pointer (some ⟨gT, 5, none⟩)) [] rfl (by kernel_rfl) (by kernel_rfl) (by kernel_rfl) (by kernel_rfl) (by kernel_rfl) (fun _ _ _ h => h) (S9.ind 0 (by decide) (by decide)) (by rfl) (fun L wz hN hS => ?_) (by unfold S9; exact ⟨kwd, fun _ => pwd, fun _ => qwd⟩) ?_
        · (clear hN hS; go_simp)
        try simp only [Act.put, List.setIfInBounds_toArray, List.set_cons_zero, List.set_cons_succ]
        refine wpAnyG_take (i := 1) (v := .slice aK ks.length cK) [6, 13] rfl (by kernel_rfl) (by kernel_rfl) (by kernel_rfl) (by kernel_rfl) (by kernel_rfl) (fun _ _ _ h => h) (S9.ind 1 (by decide) (by decide)) (by rfl) (fun L wz hN hS => ?_) (by unfold S9; exact ⟨kwd, fun _ => pwd, fun _ => qwd⟩) ?_
        · (have hs := hS.2.1 (hN.2 13 (by decide)); clear hN hS; go_simp)
        try simp only [Act.put, List.setIfInBounds_toArray, List.set_cons_zero, List.set_cons_succ]
        refine wpAnyG_take (i := 2) (v := .slice (some ⟨ba, oa, none⟩) (r.length + 1) c) [] rfl (by kernel_rfl) (by kernel_rfl) (by kernel_rfl) (by kernel_rfl) (by kernel_rfl) (fun _ _ _ h => h) (S9.ind 2 (by decide) (by decide)) (by rfl) (fun L wz hN hS => ?_) (by unfold S9; exact ⟨kwd, fun _ => pwd, fun _ => qwd⟩) ?_
        · (clear hN hS; go_simp)
        try simp only [Act.put, List.setIfInBounds_toArray, List.set_cons_zero, List.set_cons_succ]
        refine wpAnyG_take (i := 3) (v := .pointer (some ⟨ba, oa, none⟩)) [] rfl (by kernel_rfl) (by kernel_rfl) (by kernel_rfl) (by kernel_rfl) (by kernel_rfl) (fun _ _ _ h => h) (S9.ind 3 (by decide) (by decide)) (by rfl) (fun L wz hN hS => ?_) (by unfold S9; exact ⟨kwd, fun _ => pwd, fun _ => qwd⟩) ?_
        · (clear hN hS; go_simp)
        try simp only [Act.put, List.setIfInBounds_toArray, List.set_cons_zero, List.set_cons_succ]
        refine wpAnyG_take (i := 4) (v := .string k) [] rfl (by kernel_rfl) (by kernel_rfl) (by kernel_rfl) (by kernel_rfl) (by kernel_rfl) (fun _ _ _ h => h) (S9.ind 4 (by decide) (by decide)) (by rfl) (fun L wz hN hS => ?_) (by unfold S9; exact ⟨kwd, fun _ => pwd, fun _ => qwd⟩) ?_
        · (have hs := hS.1; clear hN hS; go_simp)
        try simp only [Act.put, List.setIfInBounds_toArray, List.set_cons_zero, List.set_cons_succ]
        refine wpAnyG_take (i := 7) (v := .pointer (some ⟨gT, 4, none⟩)) [] rfl (by kernel_rfl) (by kernel_rfl) (by kernel_rfl) (by kernel_rfl) (by kernel_rfl) (fun _ _ _ h => h) (S9.ind 7 (by decide) (by decide)) (by rfl) (fun L wz hN hS => ?_) (by unfold S9; exact ⟨kwd, fun _ => pwd, fun _ => qwd⟩) ?_
        · (clear hN hS; go_simp)
        try simp only [Act.put, List.setIfInBounds_toArray, List.set_cons_zero, List.set_cons_succ]
        refine wpAnyG_take (i := 8) (v := .slice aL l.length cL) [11, 15] rfl (by kernel_rfl) (by kernel_rfl) (by kernel_rfl) (by kernel_rfl) (by kernel_rfl) (fun _ _ _ h => h) (S9.ind 8 (by decide) (by decide)) (by rfl) (fun L wz hN hS => ?_) (by unfold S9; exact ⟨kwd, fun _ => pwd, fun _ => qwd⟩) ?_
        · (have hs := hS.2.2 (hN.2 15 (by decide)); clear hN hS; go_simp)
        try simp only [Act.put, List.setIfInBounds_toArray, List.set_cons_zero, List.set_cons_succ]
        refine wpAnyG_take (i := 9) (v := .agg #[.int .i64 0, .int .i64 0, .float .f64 0, .string { data := #[] }, .slice none 0 0, .slice none 0 0]) [] rfl (by kernel_rfl) (by kernel_rfl) (by kernel_rfl) (by kernel_rfl) (by kernel_rfl) (fun _ _ _ h => h) (S9.ind 9 (by decide) (by decide)) (by rfl) (fun L wz hN hS => ?_) (by unfold S9; exact ⟨kwd, fun _ => pwd, fun _ => qwd⟩) ?_
        · (clear hN hS; go_simp)
        try simp only [Act.put, List.setIfInBounds_toArray, List.set_cons_zero, List.set_cons_succ]
        refine wpAnyG_ready (rs := [5, 10]) (by kernel_rfl) (by simp) ?_
        refine AllReadyG.cons (i := 5) rfl (fun K hK => ?_) (AllReadyG.cons (i := 10) rfl (fun K hK => ?_) AllReadyG.nil)
        · skip
          go_simp
          obtain ⟨w5, hw5⟩ : ∃ wz, wz = World.drew (World.alloc wd (.cells #[.string k] 9)) := ⟨_, rfl⟩
          rw [← hw5]
          have Xw5 : Ext wd w5 := by rw [hw5]; exact Ext.drew ((Ext.refl wd).alloc _)
          have cw5 : w5.cell? ⟨wd.heap.size, 0, none⟩ = some (.string k) := by rw [hw5]; exact (cell_of_row _ _ _ _ _ _ (heap_alloc_new wd (.cells #[.string k] 9))).trans rfl
          clear hw5
          have kw5 := Ext.get Xw5 kwd
          have pw5 := Ext.get Xw5 pwd
          have qw5 := Ext.get Xw5 qwd
          have Ew5 : Hid (Ext wc w5) := Ext.trans Ewd.out Xw5
          have sw5 : Hid (wd.heap.size ≤ w5.heap.size) := Xw5.size
          have Yw5 : Hid (Ext wd w5) := Xw5
          clear Xw5
          refine hK.out _ _ ⟨kw5, fun _ => pw5, fun _ => qw5⟩ ?_
          clear hK K
          try simp only [Act.put, List.setIfInBounds_toArray, List.set_cons_zero, List.set_cons_succ]
          refine wpAnyG_ready (rs := [6, 10]) (by kernel_rfl) (by simp) ?_
          refine AllReadyG.cons (i := 6) rfl (fun K hK => ?_) (AllReadyG.cons (i := 10) rfl (fun K hK => ?_) AllReadyG.nil)
          · skip
            refine step_append_at rfl (.tmp 47) (.tmp 51) 24 rfl (w.heap.size + 3) 9 i9 (.string ByteArray.empty) 1 16 Try.underlying24 HI9.out hzE hzE1 hzE2 rfl (by decide) (.slice aK ks.length cK) ks.length (ks.map Value.string) rfl (ownsRow_ext HOK.out Ew5.out) ⟨wd.heap.size, 0, none⟩ 1 1 [.string k] rfl rfl (one_news cw5) onek m1 m2 (Nat.le_trans BA Ew5.out.size) ?_
            intro v9 w9 ho9 hg9 hb9
            have R9 := Lib.hid (app52 (gT := gT) HX.out Ew5.out HOK.out hg9 hb9)
            obtain ⟨aK9, cK9, rfl, hc9⟩ := own_sh ho9
            have kw9 := R9.out.2.1.keep _ _ f0
            have pw9 : w9.cell? ⟨gT, 5, none⟩ = some (.slice aK ks.length cK) := (World.cell?_of_block (a := ⟨gT, 5, none⟩) (R9.out.1.block gT HLT1.out (fun e => HNK.out e.symm))).trans t5
            have qw9 : w9.cell? ⟨gT, 4, none⟩ = some (.slice aL l.length cL) := (World.cell?_of_block (a := ⟨gT, 4, none⟩) (R9.out.1.block gT HLT1.out (fun e => HNK.out e.symm))).trans t4
            have O26 := Lib.hid (HOL.out.kept R9.out.1 (HNLK.out.symm))
            have S9' : Hid (w.heap.size + 3 ≤ w9.heap.size) := Nat.le_trans (Nat.le_of_lt (Nat.lt_of_le_of_lt HGT.out HLT1.out)) R9.out.1.size
            have HO9 := Lib.hid ho9
            have HG9 := Lib.hid hg9
            clear ho9 hb9 hc9 hg9
            refine hK.out _ _ ⟨kw9, fun _ => pw9, fun _ => qw9⟩ ?_
            clear hK K
            try simp only [Act.put, List.setIfInBounds_toArray, List.set_cons_zero, List.set_cons_succ]
            refine wpAnyG_take (i := 12) (v := .pointer (some ⟨gT, 5, none⟩)) [] rfl (by kernel_rfl) (by kernel_rfl) (by kernel_rfl) (by kernel_rfl) (by kernel_rfl) (fun _ _ _ h => h) (S9.ind 12 (by decide) (by decide)) (by rfl) (fun L wz hN hS => ?_) (by unfold S9; exact ⟨kw9, fun _ => pw9, fun _ => qw9⟩) ?_
            · (clear hN hS; go_simp)
            try simp only [Act.put, List.setIfInBounds_toArray, List.set_cons_zero, List.set_cons_succ]
            refine wpAnyG_ready (rs := [10]) (by kernel_rfl) (by simp) ?_
            refine AllReadyG.cons (i := 10) rfl (fun K hK => ?_) AllReadyG.nil
            go_simp
            obtain ⟨wq, hwq⟩ : ∃ wz, wz = World.alloc w9 (.cells #[.int .i64 0, .int .i64 0, .float .f64 0, .string { data := #[] }, .slice none 0 0, .slice none 0 0] 26) := ⟨_, rfl⟩
            rw [← hwq]
            have Xq : Ext w9 wq := by rw [hwq]; exact (Ext.refl w9).alloc _
            have zq : Hid (wq.heap[w9.heap.size]? = some (.cells #[.int .i64 0, .int .i64 0, .float .f64 0, .string { data := #[] }, .slice none 0 0, .slice none 0 0] 26 (0, 0))) := by rw [hwq]; exact heap_alloc_new w9 (.cells #[.int .i64 0, .int .i64 0, .float .f64 0, .string { data := #[] }, .slice none 0 0, .slice none 0 0] 26)
            clear hwq
            have kq := Ext.get Xq kw9
            have pq := Ext.get Xq pw9
            have qq := Ext.get Xq qw9
            have HXq := Lib.hid Xq
            clear Xq
            refine hK.out _ _ ⟨kq, fun _ => pq, fun _ => qq⟩ ?_
            clear hK K
            try simp only [Act.put, List.setIfInBounds_toArray, List.set_cons_zero, List.set_cons_succ]
            refine wpAnyG_ready (rs := [11]) (by kernel_rfl) (by simp) ?_
            refine AllReadyG.cons (i := 11) rfl (fun K hK => ?_) AllReadyG.nil
            refine step_append_at rfl (.tmp 54) (.tmp 56) 23 rfl (w.heap.size + 3) 26 i6 zVal 6 88 Try.underlying23 HI6.out hyE hyE1 hyE2 rfl (by decide) (.slice aL l.length cL) l.length (es.flatMap V6.cells) rfl (ownsRow_ext O26.out HXq.out) ⟨w9.heap.size, 0, none⟩ 1 1 [Value.int .i64 0, .int .i64 0, .float .f64 0, .string { data := #[] }, .slice none 0 0, .slice none 0 0] rfl rfl (six_news zq.out) onez m3 m4 (Nat.le_trans S9'.out (Below.size HXq.out)) ?_
            intro v10 w10 ho10 hg10 hb10
            have R10 := app57 HGT.out HOK.out HOL.out HT.out HXX.out HZZ.out HNL.out HNK.out R9.out HXq.out hg10 hb10
            obtain ⟨aL9, cL9, rfl, hcL9⟩ := own_sh ho10
            have f10 := R10.2.1.keep _ _ f0
            obtain ⟨⟨p5, q5, y5⟩, ⟨p4, q4, y4⟩⟩ := two_stores' R10.2.2.2.1 (.slice aL9 (l.length + 1) cL9) (.slice aK9 (ks.length + 1) cK9)
            have p40 : w10.cell? ⟨gT, 4, none⟩ = some (.slice aL l.length cL) := (cell_of_row _ _ _ _ _ _ R10.2.2.2.1).trans rfl
            have HR10 := Lib.hid R10
            have HO10 := Lib.hid ho10
            clear ho10 hg10 hb10 R10 hcL9
            refine hK.out _ _ ⟨f10, fun _ => p5, fun _ => p40⟩ ?_
            clear hK K
            try simp only [Act.put, List.setIfInBounds_toArray, List.set_cons_zero, List.set_cons_succ]
            refine wpAnyG_ready (rs := [13]) (by kernel_rfl) (by simp) ?_
            refine AllReadyG.cons (i := 13) rfl (fun K hK => ?_) AllReadyG.nil
            go_simp
            have f11 : (w10.setRow gT #[.int .i64 8, .int .i64 0, .float .f64 0, .string ByteArray.empty, .slice aL l.length cL, .slice aK9 (ks.length + 1) cK9]).cell? ⟨ba, oa, none⟩ = some (.string k) := (cell_setRow_other _ _ _ _ HBG.out).trans f10
            refine hK.out _ _ ⟨f11, fun h => absurd h (by decide), fun _ => p4⟩ ?_
            clear hK K
            try simp only [Act.put, List.setIfInBounds_toArray, List.set_cons_zero, List.set_cons_succ]
            refine wpAnyG_take (i := 14) (v := .pointer (some ⟨gT, 4, none⟩)) [] rfl (by kernel_rfl) (by kernel_rfl) (by kernel_rfl) (by kernel_rfl) (by kernel_rfl) (fun _ _ _ h => h) (S9.ind 14 (by decide) (by decide)) (by rfl) (fun L wz hN hS => ?_) (by unfold S9; exact ⟨f11, fun h => absurd h (by decide), fun _ => p4⟩) ?_
            · (clear hN hS; go_simp)
            try simp only [Act.put, List.setIfInBounds_toArray, List.set_cons_zero, List.set_cons_succ]
            refine wpAnyG_ready (rs := [15]) (by kernel_rfl) (by simp) ?_
            refine AllReadyG.cons (i := 15) rfl (fun K hK => ?_) AllReadyG.nil
            go_simp
            refine hK.out _ _ ⟨(cell_setRow_other _ _ _ _ HBG.out).trans f10, fun h => absurd h (by decide), fun h => absurd h (by decide)⟩ ?_
            clear hK K
            try simp only [Act.put, List.setIfInBounds_toArray, List.set_cons_zero, List.set_cons_succ]
            refine wpAnyG_done (by kernel_rfl) ?_ _
            go_wp2_with fail
            go_meet
            exact key_end HX.out HGT.out HKL.out HR10.out HO10.out HO9.out R9.out HLT1.out (fun g e => (HOL.out.lt g e).2) HNL.out HNK.out HNLK.out HMID.out
          · skip
            go_simp
            obtain ⟨wq, hwq⟩ : ∃ wz, wz = World.alloc w5 (.cells #[.int .i64 0, .int .i64 0, .float .f64 0, .string { data := #[] }, .slice none 0 0, .slice none 0 0] 26) := ⟨_, rfl⟩
            rw [← hwq]
            have Xwq : Ext w5 wq := by rw [hwq]; exact (Ext.refl w5).alloc _
            have zwq : Hid (wq.heap[w5.heap.size]? = some (.cells #[.int .i64 0, .int .i64 0, .float .f64 0, .string { data := #[] }, .slice none 0 0, .slice none 0 0] 26 (0, 0))) := by rw [hwq]; exact heap_alloc_new w5 (.cells #[.int .i64 0, .int .i64 0, .float .f64 0, .string { data := #[] }, .slice none 0 0, .slice none 0 0] 26)
            clear hwq
            have kwq := Ext.get Xwq kw5
            have pwq := Ext.get Xwq pw5
            have qwq := Ext.get Xwq qw5
            have Ewq : Hid (Ext wc wq) := Ext.trans Ew5.out Xwq
            have swq : Hid (w5.heap.size ≤ wq.heap.size) := Xwq.size
            have Ywq : Hid (Ext w5 wq) := Xwq
            clear Xwq
            refine hK.out _ _ ⟨kwq, fun _ => pwq, fun _ => qwq⟩ ?_
            clear hK K
            try simp only [Act.put, List.setIfInBounds_toArray, List.set_cons_zero, List.set_cons_succ]
            refine wpAnyG_ready (rs := [6]) (by kernel_rfl) (by simp) ?_
            refine AllReadyG.cons (i := 6) rfl (fun K hK => ?_) AllReadyG.nil
            have cwq := Ext.get Ywq.out cw5
            refine step_append_at rfl (.tmp 47) (.tmp 51) 24 rfl (w.heap.size + 3) 9 i9 (.string ByteArray.empty) 1 16 Try.underlying24 HI9.out hzE hzE1 hzE2 rfl (by decide) (.slice aK ks.length cK) ks.length (ks.map Value.string) rfl (ownsRow_ext HOK.out Ewq.out) ⟨wd.heap.size, 0, none⟩ 1 1 [.string k] rfl rfl (one_news cwq) onek m1 m2 (Nat.le_trans BA Ewq.out.size) ?_
            intro v9 w9 ho9 hg9 hb9
            have R9 := Lib.hid (app52 (gT := gT) HX.out Ewq.out HOK.out hg9 hb9)
            obtain ⟨aK9, cK9, rfl, hc9⟩ := own_sh ho9
            have kw9 := R9.out.2.1.keep _ _ f0
            have pw9 : w9.cell? ⟨gT, 5, none⟩ = some (.slice aK ks.length cK) := (World.cell?_of_block (a := ⟨gT, 5, none⟩) (R9.out.1.block gT HLT1.out (fun e => HNK.out e.symm))).trans t5
            have qw9 : w9.cell? ⟨gT, 4, none⟩ = some (.slice aL l.length cL) := (World.cell?_of_block (a := ⟨gT, 4, none⟩) (R9.out.1.block gT HLT1.out (fun e => HNK.out e.symm))).trans t4
            have O26 := Lib.hid (HOL.out.kept R9.out.1 (HNLK.out.symm))
            have S9' : Hid (w.heap.size + 3 ≤ w9.heap.size) := Nat.le_trans (Nat.le_of_lt (Nat.lt_of_le_of_lt HGT.out HLT1.out)) R9.out.1.size
            have HO9 := Lib.hid ho9
            have HG9 := Lib.hid hg9
            clear ho9 hb9 hc9 hg9
            refine hK.out _ _ ⟨kw9, fun _ => pw9, fun _ => qw9⟩ ?_
            clear hK K
            try simp only [Act.put, List.setIfInBounds_toArray, List.set_cons_zero, List.set_cons_succ]
            refine wpAnyG_take (i := 12) (v := .pointer (some ⟨gT, 5, none⟩)) [] rfl (by kernel_rfl) (by kernel_rfl) (by kernel_rfl) (by kernel_rfl) (by kernel_rfl) (fun _ _ _ h => h) (S9.ind 12 (by decide) (by decide)) (by rfl) (fun L wz hN hS => ?_) (by unfold S9; exact ⟨kw9, fun _ => pw9, fun _ => qw9⟩) ?_
            · (clear hN hS; go_simp)
            try simp only [Act.put, List.setIfInBounds_toArray, List.set_cons_zero, List.set_cons_succ]
            have zq : Hid (w9.heap[w5.heap.size]? = some (.cells #[.int .i64 0, .int .i64 0, .float .f64 0, .string { data := #[] }, .slice none 0 0, .slice none 0 0] 26 (0, 0))) := (HG9.out.block _ (Array.getElem?_eq_some_iff.1 zwq.out).1 (NKZ w5.heap.size Ew5.out.size)).trans zwq.out
            refine wpAnyG_ready (rs := [11]) (by kernel_rfl) (by simp) ?_
            refine AllReadyG.cons (i := 11) rfl (fun K hK => ?_) AllReadyG.nil
            refine step_append_at rfl (.tmp 54) (.tmp 56) 23 rfl (w.heap.size + 3) 26 i6 zVal 6 88 Try.underlying23 HI6.out hyE hyE1 hyE2 rfl (by decide) (.slice aL l.length cL) l.length (es.flatMap V6.cells) rfl (ownsRow_ext O26.out (Ext.refl w9)) ⟨w5.heap.size, 0, none⟩ 1 1 [Value.int .i64 0, .int .i64 0, .float .f64 0, .string { data := #[] }, .slice none 0 0, .slice none 0 0] rfl rfl (six_news zq.out) onez m3 m4 (Nat.le_trans S9'.out (Below.size (Ext.refl w9))) ?_
            intro v10 w10 ho10 hg10 hb10
            have R10 := app57 HGT.out HOK.out HOL.out HT.out HXX.out HZZ.out HNL.out HNK.out R9.out (Ext.refl w9) hg10 hb10
            obtain ⟨aL9, cL9, rfl, hcL9⟩ := own_sh ho10
            have f10 := R10.2.1.keep _ _ f0
            obtain ⟨⟨p5, q5, y5⟩, ⟨p4, q4, y4⟩⟩ := two_stores' R10.2.2.2.1 (.slice aL9 (l.length + 1) cL9) (.slice aK9 (ks.length + 1) cK9)
            have p40 : w10.cell? ⟨gT, 4, none⟩ = some (.slice aL l.length cL) := (cell_of_row _ _ _ _ _ _ R10.2.2.2.1).trans rfl
            have HR10 := Lib.hid R10
            have HO10 := Lib.hid ho10
            clear ho10 hg10 hb10 R10 hcL9
            refine hK.out _ _ ⟨f10, fun _ => p5, fun _ => p40⟩ ?_
            clear hK K
            try simp only [Act.put, List.setIfInBounds_toArray, List.set_cons_zero, List.set_cons_succ]
            refine wpAnyG_ready (rs := [13]) (by kernel_rfl) (by simp) ?_
            refine AllReadyG.cons (i := 13) rfl (fun K hK => ?_) AllReadyG.nil
            go_simp
            have f11 : (w10.setRow gT #[.int .i64 8, .int .i64 0, .float .f64 0, .string ByteArray.empty, .slice aL l.length cL, .slice aK9 (ks.length + 1) cK9]).cell? ⟨ba, oa, none⟩ = some (.string k) := (cell_setRow_other _ _ _ _ HBG.out).trans f10
            refine hK.out _ _ ⟨f11, fun h => absurd h (by decide), fun _ => p4⟩ ?_
            clear hK K
            try simp only [Act.put, List.setIfInBounds_toArray, List.set_cons_zero, List.set_cons_succ]
            refine wpAnyG_take (i := 14) (v := .pointer (some ⟨gT, 4, none⟩)) [] rfl (by kernel_rfl) (by kernel_rfl) (by kernel_rfl) (by kernel_rfl) (by kernel_rfl) (fun _ _ _ h => h) (S9.ind 14 (by decide) (by decide)) (by rfl) (fun L wz hN hS => ?_) (by unfold S9; exact ⟨f11, fun h => absurd h (by decide), fun _ => p4⟩) ?_
            · (clear hN hS; go_simp)
            try simp only [Act.put, List.setIfInBounds_toArray, List.set_cons_zero, List.set_cons_succ]
            refine wpAnyG_ready (rs := [15]) (by kernel_rfl) (by simp) ?_
            refine AllReadyG.cons (i := 15) rfl (fun K hK => ?_) AllReadyG.nil
            go_simp
            refine hK.out _ _ ⟨(cell_setRow_other _ _ _ _ HBG.out).trans f10, fun h => absurd h (by decide), fun h => absurd h (by decide)⟩ ?_
            clear hK K
            try simp only [Act.put, List.setIfInBounds_toArray, List.set_cons_zero, List.set_cons_succ]
            refine wpAnyG_done (by kernel_rfl) ?_ _
            go_wp2_with fail
            go_meet
            exact key_end HX.out HGT.out HKL.out HR10.out HO10.out HO9.out R9.out HLT1.out (fun g e => (HOL.out.lt g e).2) HNL.out HNK.out HNLK.out HMID.out
        · skip
          go_simp
          obtain ⟨wq, hwq⟩ : ∃ wz, wz = World.alloc wd (.cells #[.int .i64 0, .int .i64 0, .float .f64 0, .string { data := #[] }, .slice none 0 0, .slice none 0 0] 26) := ⟨_, rfl⟩
          rw [← hwq]
          have Xwq : Ext wd wq := by rw [hwq]; exact (Ext.refl wd).alloc _
          have zwq : Hid (wq.heap[wd.heap.size]? = some (.cells #[.int .i64 0, .int .i64 0, .float .f64 0, .string { data := #[] }, .slice none 0 0, .slice none 0 0] 26 (0, 0))) := by rw [hwq]; exact heap_alloc_new wd (.cells #[.int .i64 0, .int .i64 0, .float .f64 0, .string { data := #[] }, .slice none 0 0, .slice none 0 0] 26)
          clear hwq
          have kwq := Ext.get Xwq kwd
          have pwq := Ext.get Xwq pwd
          have qwq := Ext.get Xwq qwd
          have Ewq : Hid (Ext wc wq) := Ext.trans Ewd.out Xwq
          have swq : Hid (wd.heap.size ≤ wq.heap.size) := Xwq.size
          have Ywq : Hid (Ext wd wq) := Xwq
          clear Xwq
          refine hK.out _ _ ⟨kwq, fun _ => pwq, fun _ => qwq⟩ ?_
          clear hK K
          try simp only [Act.put, List.setIfInBounds_toArray, List.set_cons_zero, List.set_cons_succ]
          refine wpAnyG_ready (rs := [5]) (by kernel_rfl) (by simp) ?_
          refine AllReadyG.cons (i := 5) rfl (fun K hK => ?_) AllReadyG.nil
          go_simp
          obtain ⟨w5, hw5⟩ : ∃ wz, wz = World.drew (World.alloc wq (.cells #[.string k] 9)) := ⟨_, rfl⟩
          rw [← hw5]
          have Xw5 : Ext wq w5 := by rw [hw5]; exact Ext.drew ((Ext.refl wq).alloc _)
          have cw5 : w5.cell? ⟨wq.heap.size, 0, none⟩ = some (.string k) := by rw [hw5]; exact (cell_of_row _ _ _ _ _ _ (heap_alloc_new wq (.cells #[.string k] 9))).trans rfl
          clear hw5
          have kw5 := Ext.get Xw5 kwq
          have pw5 := Ext.get Xw5 pwq
          have qw5 := Ext.get Xw5 qwq
          have Ew5 : Hid (Ext wc w5) := Ext.trans Ewq.out Xw5
          have sw5 : Hid (wq.heap.size ≤ w5.heap.size) := Xw5.size
          have Yw5 : Hid (Ext wq w5) := Xw5
          clear Xw5
          refine hK.out _ _ ⟨kw5, fun _ => pw5, fun _ => qw5⟩ ?_
          clear hK K
          try simp only [Act.put, List.setIfInBounds_toArray, List.set_cons_zero, List.set_cons_succ]
          refine wpAnyG_ready (rs := [6]) (by kernel_rfl) (by simp) ?_
          refine AllReadyG.cons (i := 6) rfl (fun K hK => ?_) AllReadyG.nil
          refine step_append_at rfl (.tmp 47) (.tmp 51) 24 rfl (w.heap.size + 3) 9 i9 (.string ByteArray.empty) 1 16 Try.underlying24 HI9.out hzE hzE1 hzE2 rfl (by decide) (.slice aK ks.length cK) ks.length (ks.map Value.string) rfl (ownsRow_ext HOK.out Ew5.out) ⟨wq.heap.size, 0, none⟩ 1 1 [.string k] rfl rfl (one_news cw5) onek m1 m2 (Nat.le_trans BA Ew5.out.size) ?_
          intro v9 w9 ho9 hg9 hb9
          have R9 := Lib.hid (app52 (gT := gT) HX.out Ew5.out HOK.out hg9 hb9)
          obtain ⟨aK9, cK9, rfl, hc9⟩ := own_sh ho9
          have kw9 := R9.out.2.1.keep _ _ f0
          have pw9 : w9.cell? ⟨gT, 5, none⟩ = some (.slice aK ks.length cK) := (World.cell?_of_block (a := ⟨gT, 5, none⟩) (R9.out.1.block gT HLT1.out (fun e => HNK.out e.symm))).trans t5
          have qw9 : w9.cell? ⟨gT, 4, none⟩ = some (.slice aL l.length cL) := (World.cell?_of_block (a := ⟨gT, 4, none⟩) (R9.out.1.block gT HLT1.out (fun e => HNK.out e.symm))).trans t4
          have O26 := Lib.hid (HOL.out.kept R9.out.1 (HNLK.out.symm))
          have S9' : Hid (w.heap.size + 3 ≤ w9.heap.size) := Nat.le_trans (Nat.le_of_lt (Nat.lt_of_le_of_lt HGT.out HLT1.out)) R9.out.1.size
          have HO9 := Lib.hid ho9
          have HG9 := Lib.hid hg9
          clear ho9 hb9 hc9 hg9
          refine hK.out _ _ ⟨kw9, fun _ => pw9, fun _ => qw9⟩ ?_
          clear hK K
          try simp only [Act.put, List.setIfInBounds_toArray, List.set_cons_zero, List.set_cons_succ]
          refine wpAnyG_take (i := 12) (v := .pointer (some ⟨gT, 5, none⟩)) [] rfl (by kernel_rfl) (by kernel_rfl) (by kernel_rfl) (by kernel_rfl) (by kernel_rfl) (fun _ _ _ h => h) (S9.ind 12 (by decide) (by decide)) (by rfl) (fun L wz hN hS => ?_) (by unfold S9; exact ⟨kw9, fun _ => pw9, fun _ => qw9⟩) ?_
          · (clear hN hS; go_simp)
          try simp only [Act.put, List.setIfInBounds_toArray, List.set_cons_zero, List.set_cons_succ]
          have zq : Hid (w9.heap[wd.heap.size]? = some (.cells #[.int .i64 0, .int .i64 0, .float .f64 0, .string { data := #[] }, .slice none 0 0, .slice none 0 0] 26 (0, 0))) := (HG9.out.block _ (Nat.lt_of_lt_of_le (Array.getElem?_eq_some_iff.1 zwq.out).1 sw5.out) (NKZ wd.heap.size Ewd.out.size)).trans ((Yw5.out.block _ (Array.getElem?_eq_some_iff.1 zwq.out).1).trans zwq.out)
          refine wpAnyG_ready (rs := [11]) (by kernel_rfl) (by simp) ?_
          refine AllReadyG.cons (i := 11) rfl (fun K hK => ?_) AllReadyG.nil
          refine step_append_at rfl (.tmp 54) (.tmp 56) 23 rfl (w.heap.size + 3) 26 i6 zVal 6 88 Try.underlying23 HI6.out hyE hyE1 hyE2 rfl (by decide) (.slice aL l.length cL) l.length (es.flatMap V6.cells) rfl (ownsRow_ext O26.out (Ext.refl w9)) ⟨wd.heap.size, 0, none⟩ 1 1 [Value.int .i64 0, .int .i64 0, .float .f64 0, .string { data := #[] }, .slice none 0 0, .slice none 0 0] rfl rfl (six_news zq.out) onez m3 m4 (Nat.le_trans S9'.out (Below.size (Ext.refl w9))) ?_
          intro v10 w10 ho10 hg10 hb10
          have R10 := app57 HGT.out HOK.out HOL.out HT.out HXX.out HZZ.out HNL.out HNK.out R9.out (Ext.refl w9) hg10 hb10
          obtain ⟨aL9, cL9, rfl, hcL9⟩ := own_sh ho10
          have f10 := R10.2.1.keep _ _ f0
          obtain ⟨⟨p5, q5, y5⟩, ⟨p4, q4, y4⟩⟩ := two_stores' R10.2.2.2.1 (.slice aL9 (l.length + 1) cL9) (.slice aK9 (ks.length + 1) cK9)
          have p40 : w10.cell? ⟨gT, 4, none⟩ = some (.slice aL l.length cL) := (cell_of_row _ _ _ _ _ _ R10.2.2.2.1).trans rfl
          have HR10 := Lib.hid R10
          have HO10 := Lib.hid ho10
          clear ho10 hg10 hb10 R10 hcL9
          refine hK.out _ _ ⟨f10, fun _ => p5, fun _ => p40⟩ ?_
          clear hK K
          try simp only [Act.put, List.setIfInBounds_toArray, List.set_cons_zero, List.set_cons_succ]
          refine wpAnyG_ready (rs := [13]) (by kernel_rfl) (by simp) ?_
          refine AllReadyG.cons (i := 13) rfl (fun K hK => ?_) AllReadyG.nil
          go_simp
          have f11 : (w10.setRow gT #[.int .i64 8, .int .i64 0, .float .f64 0, .string ByteArray.empty, .slice aL l.length cL, .slice aK9 (ks.length + 1) cK9]).cell? ⟨ba, oa, none⟩ = some (.string k) := (cell_setRow_other _ _ _ _ HBG.out).trans f10
          refine hK.out _ _ ⟨f11, fun h => absurd h (by decide), fun _ => p4⟩ ?_
          clear hK K
          try simp only [Act.put, List.setIfInBounds_toArray, List.set_cons_zero, List.set_cons_succ]
          refine wpAnyG_take (i := 14) (v := .pointer (some ⟨gT, 4, none⟩)) [] rfl (by kernel_rfl) (by kernel_rfl) (by kernel_rfl) (by kernel_rfl) (by kernel_rfl) (fun _ _ _ h => h) (S9.ind 14 (by decide) (by decide)) (by rfl) (fun L wz hN hS => ?_) (by unfold S9; exact ⟨f11, fun h => absurd h (by decide), fun _ => p4⟩) ?_
          · (clear hN hS; go_simp)
          try simp only [Act.put, List.setIfInBounds_toArray, List.set_cons_zero, List.set_cons_succ]
          refine wpAnyG_ready (rs := [15]) (by kernel_rfl) (by simp) ?_
          refine AllReadyG.cons (i := 15) rfl (fun K hK => ?_) AllReadyG.nil
          go_simp
          refine hK.out _ _ ⟨(cell_setRow_other _ _ _ _ HBG.out).trans f10, fun h => absurd h (by decide), fun h => absurd h (by decide)⟩ ?_
          clear hK K
          try simp only [Act.put, List.setIfInBounds_toArray, List.set_cons_zero, List.set_cons_succ]
          refine wpAnyG_done (by kernel_rfl) ?_ _
          go_wp2_with fail
          go_meet
          exact key_end HX.out HGT.out HKL.out HR10.out HO10.out HO9.out R9.out HLT1.out (fun g e => (HOL.out.lt g e).2) HNL.out HNK.out HNLK.out HMID.out
    case rest =>
      obtain ⟨gT, cL, cK, i, aL, aK, L', ks', es', rfl, rfl, hx, hgT, hT, hX, hZ, hoL, hoK, hnL, hnK, hM⟩ := hcut
      obtain ⟨wa, rfl⟩ : ∃ wa : World, wa = wc := ⟨_, rfl⟩
      clear t4 t5 k0 lt1 lt2 HID HX HGT HT HXX HZZ HOL HOK HNL HNK IX HCV HCK HES1 HES2 HEO HND HKL HCH HGO HKZ HL5
      obtain ⟨me1, me2, mi, mL, mK, mz, o', F, mo1, mo2, mg, mf⟩ := hM
      obtain ⟨gL, rfl, gL0, gL1⟩ := own_at hoL (by omega)
      obtain ⟨hRL, hnLc, hmL⟩ := RowAt.of_own hoL
      have hqe : i < es'.length := by rw [me1]; exact mi
      obtain ⟨aR, hsl, hkr⟩ := tail_strs ba oa c k r HKW.out HC.out
      have hneK := other_row hoK hoL (by decide)
      have hev := me2 i mi hqe
      have hVO : (∀ j, o' = some j → (j.nodes ≤ 5000 ∧ ∃ E, TreeOf E j ∧ ∃ p x, E p x) ∧ RV w0 (V.ofJ j) es'[i].val) ∧ (o' = none → es'[i].val = eVal 0) := by
        refine ⟨fun j hj => ⟨(mo1 j hj).1, ?_⟩, fun h => mo2 h hqe⟩
        have h2 := (mo1 j hj).2
        rw [List.getElem?_eq_getElem mi] at h2
        rw [← Option.some.inj h2]
        exact hev
      have hlc9 : ∀ k, (hk : k < 6) → wa.cell? ⟨gL, i * 6 + k, none⟩ = (es'[i].cells)[k]? := fun k hk => by
        have hl : k < es'[i].cells.length := hk
        have h1 := six_get es' i k hqe hk
        rw [List.getElem?_eq_getElem hl] at h1 ⊢
        exact hRL.cells _ _ h1
      generalize es'[i] = ev at hev hlc9 hVO
      obtain ⟨e0, e1, e2, e3, e4, e5⟩ := ev
      obtain ⟨k1, k2, k3, k4, k5, k6, k7, k8, k9, k10, rfl, rfl, rfl, rfl, rfl, rfl⟩ := RV.shape hev
      have l0 : wa.cell? ⟨gL, i * 6, none⟩ = some (.int .i64 k1) := hlc9 0 (by omega)
      have l1 : wa.cell? ⟨gL, i * 6 + 1, none⟩ = some (.int .i64 k2) := hlc9 1 (by omega)
      have l2 : wa.cell? ⟨gL, i * 6 + 2, none⟩ = some (.float .f64 k3) := hlc9 2 (by omega)
      have l3 : wa.cell? ⟨gL, i * 6 + 3, none⟩ = some (.string k4) := hlc9 3 (by omega)
      have l4 : wa.cell? ⟨gL, i * 6 + 4, none⟩ = some (.slice k5 k6 k7) := hlc9 4 (by omega)
      have l5 : wa.cell? ⟨gL, i * 6 + 5, none⟩ = some (.slice k8 k9 k10) := hlc9 5 (by omega)
      have t4 : wa.cell? ⟨gT, 4, none⟩ = some (.slice (some ⟨gL, 0, none⟩) L'.length cL) := (cell_of_row _ _ _ _ _ _ hT).trans rfl
      have x0 : wa.cell? ⟨w.heap.size + 1, 0, none⟩ = some (.int .i64 (V.ofJ x).kind) := (cell_of_row _ _ _ _ _ _ hX).trans rfl
      have x1 : wa.cell? ⟨w.heap.size + 1, 1, none⟩ = some (.int .i64 (V.ofJ x).n) := (cell_of_row _ _ _ _ _ _ hX).trans rfl
      have x2 : wa.cell? ⟨w.heap.size + 1, 2, none⟩ = some (.float .f64 (V.ofJ x).f) := (cell_of_row _ _ _ _ _ _ hX).trans rfl
      have x3 : wa.cell? ⟨w.heap.size + 1, 3, none⟩ = some (.string (V.ofJ x).s) := (cell_of_row _ _ _ _ _ _ hX).trans rfl
      have x4 : wa.cell? ⟨w.heap.size + 1, 4, none⟩ = some (.slice xal (V.ofJ x).l.length xlc) := (cell_of_row _ _ _ _ _ _ hX).trans rfl
      have x5 : wa.cell? ⟨w.heap.size + 1, 5, none⟩ = some (.slice xak (V.ofJ x).keys.length xkc) := (cell_of_row _ _ _ _ _ _ hX).trans rfl
      have HG : Hid (∀ w1, Keep wa w1 → Calls Try.prog 50 #[.agg #[.int .i64 k1, .int .i64 k2, .float .f64 k3, .string k4, .slice k5 k6 k7, .slice k8 k9 k10], .slice aR r.length (c - 1), .agg #[.int .i64 (V.ofJ x).kind, .int .i64 (V.ofJ x).n, .float .f64 (V.ofJ x).f, .string (V.ofJ x).s, .slice xal (V.ofJ x).l.length xlc, .slice xak (V.ofJ x).keys.length xkc]] w1 (GrPost o' r x w0 w1)) := fun w1 hk1 => by
        refine HIH.out o' x (fun j hj => (hVO.1 j hj).1) _ _ aR (c - 1) w0 w1 ((HK.out.trans hx.keep).trans hk1) (fun j hj => (hVO.1 j hj).2) (fun h => Or.inl (hVO.2 h)) HVX.out ((hkr.keep hx.keep).keep hk1) (by have := HC.out; omega) (by omega) (fun y hy => HZ.out y (List.mem_cons_of_mem _ hy))
      have HMG := Lib.hid mg
      have HMF := Lib.hid mf
      have HME1 := Lib.hid me1
      have HME2 := Lib.hid me2
      have HMZ := Lib.hid mz
      have HLL : Hid (L'.length ≤ 5001) := mL
      have HKL1 : Hid (ks'.length ≤ 5001) := mK
      have HMI := Lib.hid mi
      have HQE := Lib.hid hqe
      have HX := Lib.hid hx
      have HT := Lib.hid hT
      have HXX := Lib.hid hX
      have HZZ := Lib.hid hZ
      have HOL := Lib.hid hoL
      have HOK := Lib.hid hoK
      have HRL := Lib.hid hRL
      have HNK := Lib.hid hneK
      have HNL : Hid (L'.length ≤ cL) := hnLc
      have HnT := Lib.hid hnL
      have HnTK := Lib.hid hnK
      have HGL : Hid (w.heap.size + 3 ≤ gL ∧ gL < wa.heap.size) := ⟨gL0, gL1⟩
      have HGT : Hid (w.heap.size + 3 ≤ gT) := hgT
      have HTL : Hid (gT < wa.heap.size) := (Array.getElem?_eq_some_iff.1 hT).1
      have hi0 : (0 : Int) ≤ (i : Int) := by omega
      have hi1 : (i : Int) < (L'.length : Int) := by omega
      have hTL : gT ≠ gL := fun e => hnL (by rw [e]; rfl)
      have HTLne := Lib.hid hTL
      have rr1 : (1 : Int) ≤ (r.length : Int) + 1 := by omega
      clear mg mf me1 me2 mz mi hqe hx hT hX hZ hoL hoK hRL hneK hnLc hnL hnK hgT hmL hlc9 hVO mo1 mo2 hkr hev gL0 gL1 mL mK
      go_upto_region 10 with fail
      go_cut [10, 11] from 10 to 78 (fun t10 t11 wx => ∃ (gY : Nat) (m1 m2 : Int) (m3 : Nat) (m4 : ByteArray) (m5 : Option Addr) (m6 m7 : Nat) (m8 : Option Addr) (m9 m10 : Nat), t10 = .pointer (some ⟨gY, 0, none⟩) ∧ t11 = .bool (growJ o' r x).isSome ∧ Ext wa wx ∧ wa.heap.size ≤ gY ∧ wx.heap[gY]? = some (.cells #[.int .i64 m1, .int .i64 m2, .float .f64 m3, .string m4, .slice m5 m6 m7, .slice m8 m9 m10] 26 (0, 0)) ∧
        (∀ T, growJ o' r x = some T → ∀ w'', Keep w0 w'' → KeepF wa.heap.size wx w'' → RV w'' (V.ofJ T) (.agg #[.int .i64 m1, .int .i64 m2, .float .f64 m3, .string m4, .slice m5 m6 m7, .slice m8 m9 m10])))
      case first =>
        go_region_held3 (fun w' => w'.cell? ⟨gT, 4, none⟩ = some (.slice (some ⟨gL, 0, none⟩) L'.length cL) ∧ w'.cell? ⟨gL, i * 6, none⟩ = some (.int .i64 k1) ∧ w'.cell? ⟨gL, i * 6 + 1, none⟩ = some (.int .i64 k2) ∧ w'.cell? ⟨gL, i * 6 + 2, none⟩ = some (.float .f64 k3) ∧ w'.cell? ⟨gL, i * 6 + 3, none⟩ = some (.string k4) ∧ w'.cell? ⟨gL, i * 6 + 4, none⟩ = some (.slice k5 k6 k7) ∧ w'.cell? ⟨gL, i * 6 + 5, none⟩ = some (.slice k8 k9 k10) ∧
            w'.cell? ⟨w.heap.size + 1, 0, none⟩ = some (.int .i64 (V.ofJ x).kind) ∧ w'.cell? ⟨w.heap.size + 1, 1, none⟩ = some (.int .i64 (V.ofJ x).n) ∧ w'.cell? ⟨w.heap.size + 1, 2, none⟩ = some (.float .f64 (V.ofJ x).f) ∧ w'.cell? ⟨w.heap.size + 1, 3, none⟩ = some (.string (V.ofJ x).s) ∧ w'.cell? ⟨w.heap.size + 1, 4, none⟩ = some (.slice xal (V.ofJ x).l.length xlc) ∧ w'.cell? ⟨w.heap.size + 1, 5, none⟩ = some (.slice xak (V.ofJ x).keys.length xkc))
          (first
            | (go_split_ands
               with_reducible exact ⟨hkF.get t4, hkF.get l0, hkF.get l1, hkF.get l2, hkF.get l3, hkF.get l4, hkF.get l5, hkF.get x0, hkF.get x1, hkF.get x2, hkF.get x3, hkF.get x4, hkF.get x5⟩)
            | (go_split_ands
               with_reducible exact ⟨(Keep.alloc _ _).get (hk8.get t4), (Keep.alloc _ _).get (hk8.get l0), (Keep.alloc _ _).get (hk8.get l1), (Keep.alloc _ _).get (hk8.get l2), (Keep.alloc _ _).get (hk8.get l3), (Keep.alloc _ _).get (hk8.get l4), (Keep.alloc _ _).get (hk8.get l5), (Keep.alloc _ _).get (hk8.get x0), (Keep.alloc _ _).get (hk8.get x1), (Keep.alloc _ _).get (hk8.get x2), (Keep.alloc _ _).get (hk8.get x3), (Keep.alloc _ _).get (hk8.get x4), (Keep.alloc _ _).get (hk8.get x5)⟩)
            | (go_split_ands
               with_reducible exact ⟨hk8.get t4, hk8.get l0, hk8.get l1, hk8.get l2, hk8.get l3, hk8.get l4, hk8.get l5, hk8.get x0, hk8.get x1, hk8.get x2, hk8.get x3, hk8.get x4, hk8.get x5⟩)
            | (go_split_ands
               with_reducible exact ⟨(Keep.alloc _ _).get t4, (Keep.alloc _ _).get l0, (Keep.alloc _ _).get l1, (Keep.alloc _ _).get l2, (Keep.alloc _ _).get l3, (Keep.alloc _ _).get l4, (Keep.alloc _ _).get l5, (Keep.alloc _ _).get x0, (Keep.alloc _ _).get x1, (Keep.alloc _ _).get x2, (Keep.alloc _ _).get x3, (Keep.alloc _ _).get x4, (Keep.alloc _ _).get x5⟩)
            | (go_split_ands
               with_reducible exact ⟨t4, l0, l1, l2, l3, l4, l5, x0, x1, x2, x3, x4, x5⟩)
            | (go_split_ands
               exact ⟨t4, l0, l1, l2, l3, l4, l5, x0, x1, x2, x3, x4, x5⟩)
            | go_keep)
          (first
            | (go_at_call 50; refine (HG.out _ (by first | exact Keep.refl _ | exact Keep.drew _ | exact Keep.alloc _ _ | exact (Keep.alloc _ _).trans (Keep.drew _))).mono ?_; rintro e w8 ⟨m1, m2, m3, m4, m5, m6, m7, m8, m9, m10, rfl, hgp, hx8⟩
               have hx8c : Ext wa w8 := by first | exact hx8 | exact Ext.trans (Ext.drew (Ext.refl wa)) hx8 | exact Ext.trans ((Ext.refl wa).alloc _) hx8 | exact Ext.trans (Ext.drew ((Ext.refl wa).alloc _)) hx8
               have hk8 := hx8c.keep
               have HX8 := Lib.hid hx8c
               first
                 | (have hY8 := (hx8.block wa.heap.size (Nat.lt_of_lt_of_eq (Nat.lt_succ_self _) (World.size_alloc wa (.cells #[.int .i64 0, .int .i64 0, .float .f64 0, .string { data := #[] }, .slice none 0 0, .slice none 0 0] 26)).symm)).trans (heap_alloc_new wa (.cells #[.int .i64 0, .int .i64 0, .float .f64 0, .string { data := #[] }, .slice none 0 0, .slice none 0 0] 26))
                    have HGP : Hid (∀ T, growJ o' r x = some T → ∀ w'', Keep w0 w'' → KeepF (wa.heap.size + 1) w8 w'' → RV w'' (V.ofJ T) (.agg #[.int .i64 m1, .int .i64 m2, .float .f64 m3, .string m4, .slice m5 m6 m7, .slice m8 m9 m10])) := fun T hT w2 q1 q2 => hgp T hT w2 q1 (KeepF.le q2 (Nat.le_of_eq (World.size_alloc wa _).symm))
                    obtain ⟨⟨p0, p1, p2⟩, ⟨p3, p4, p5⟩, ⟨p6, p7, p8⟩, ⟨p9, p10, p11⟩, ⟨p12, p13, p14⟩, ⟨p15, p16, p17⟩⟩ := six_stores hY8 (.int .i64 m1) (.int .i64 m2) (.float .f64 m3) (.string m4) (.slice m5 m6 m7) (.slice m8 m9 m10)
                    have hkF : Keep wa (w8.setRow wa.heap.size #[.int .i64 m1, .int .i64 m2, .float .f64 m3, .string m4, .slice m5 m6 m7, .slice m8 m9 m10]) := Ext.keep (below_setRow hx8c (g := wa.heap.size) (Nat.le_refl _) _)
                    have HY8 := Lib.hid hY8
                    clear hY8)
                 | (have HGP : Hid (∀ T, growJ o' r x = some T → ∀ w'', Keep w0 w'' → KeepF wa.heap.size w8 w'' → RV w'' (V.ofJ T) (.agg #[.int .i64 m1, .int .i64 m2, .float .f64 m3, .string m4, .slice m5 m6 m7, .slice m8 m9 m10])) := hgp)
               clear hx8 hx8c hgp))
        all_goals
          go_wp2_with fail
          go_meet
          first
            | exact ⟨wa.heap.size, _, _, _, _, _, _, _, _, _, _, rfl, rfl, below_setRow HX8.out (Nat.le_refl _) _, Nat.le_refl _, setRow_heap _ _ _ _ _ _ HY8.out, fun T hT w2 q1 q2 => HGP.out T hT w2 q1 (fun k h1 h2 => (q2 k (by omega) (by rw [setRow_size]; exact h2)).trans (setRow_other _ _ _ _ (by omega)))⟩
            | exact ⟨w8.heap.size, _, _, _, _, _, _, _, _, _, _, rfl, rfl, HX8.out.alloc _, HX8.out.size, heap_alloc_new _ _, fun T hT w2 q1 q2 => HGP.out T hT w2 q1 (fun k h1 h2 => (q2 k h1 (by rw [World.size_alloc]; omega)).trans (heap_alloc_old _ _ h2))⟩
      case rest =>
        obtain ⟨gY, m1, m2, m3, m4, m5, m6, m7, m8, m9, m10, rfl, rfl, hxy, hgy, hY, hrv⟩ := hcut
        have hT2 := (hxy.block gT HTL.out).trans HT.out
        have hls2 : w.heap.size + 1 + 1 < wa.heap.size := (Array.getElem?_eq_some_iff.1 HZZ.out).1
        have hZ2 := (hxy.block (w.heap.size + 1 + 1) hls2).trans HZZ.out
        have t4' : wc.cell? ⟨gT, 4, none⟩ = some (.slice (some ⟨gL, 0, none⟩) L'.length cL) := (cell_of_row _ _ _ _ _ _ hT2).trans rfl
        have y0 : wc.cell? ⟨gY, 0, none⟩ = some (.int .i64 m1) := (cell_of_row _ _ _ _ _ _ hY).trans rfl
        have y1 : wc.cell? ⟨gY, 1, none⟩ = some (.int .i64 m2) := (cell_of_row _ _ _ _ _ _ hY).trans rfl
        have y2 : wc.cell? ⟨gY, 2, none⟩ = some (.float .f64 m3) := (cell_of_row _ _ _ _ _ _ hY).trans rfl
        have y3 : wc.cell? ⟨gY, 3, none⟩ = some (.string m4) := (cell_of_row _ _ _ _ _ _ hY).trans rfl
        have y4 : wc.cell? ⟨gY, 4, none⟩ = some (.slice m5 m6 m7) := (cell_of_row _ _ _ _ _ _ hY).trans rfl
        have y5 : wc.cell? ⟨gY, 5, none⟩ = some (.slice m8 m9 m10) := (cell_of_row _ _ _ _ _ _ hY).trans rfl
        have l0' := Ext.get hxy l0
        have l1' := Ext.get hxy l1
        have l2' := Ext.get hxy l2
        have l3' := Ext.get hxy l3
        have l4' := Ext.get hxy l4
        have l5' := Ext.get hxy l5
        have hf8 : ∀ j, wc.frozen? ⟨gL, j, none⟩ = false := fun j => (World.frozen?_of_block (hxy.block gL HGL.out.2)).trans (HRL.out.free j)
        obtain ⟨⟨p1, p2⟩, ⟨p3, p4, p5⟩, ⟨p6, p7, p8⟩, ⟨p9, p10, p11⟩, ⟨p12, p13, p14⟩, ⟨p15, p16, p17⟩⟩ := six_at l0' l1' l2' l3' l4' l5' hf8 (.int .i64 m1) (.int .i64 m2) (.float .f64 m3) (.string m4) (.slice m5 m6 m7) (.slice m8 m9 m10)
        have gP := grownBy_setCells gL [.int .i64 m1, .int .i64 m2, .float .f64 m3, .string m4, .slice m5 m6 m7, .slice m8 m9 m10] (i * 6) wc
        have hTP := (gP.block gT (Nat.lt_of_lt_of_le HTL.out hxy.size) (fun e => HTLne.out (Option.some.inj e))).trans hT2
        have hZP := (gP.block (w.heap.size + 1 + 1) (Nat.lt_of_lt_of_le hls2 hxy.size) (fun e => by have := Option.some.inj e; have := HGL.out; omega)).trans hZ2
        have HPC : Hid (∀ j u, ((es'.set i ⟨.int .i64 m1, .int .i64 m2, .float .f64 m3, .string m4, .slice m5 m6 m7, .slice m8 m9 m10⟩).flatMap V6.cells)[j]? = some u → (putC wc gL (i * 6) [.int .i64 m1, .int .i64 m2, .float .f64 m3, .string m4, .slice m5 m6 m7, .slice m8 m9 m10]).cell? ⟨gL, j, none⟩ = some u) :=
          put_cells (e := ⟨.int .i64 m1, .int .i64 m2, .float .f64 m3, .string m4, .slice m5 m6 m7, .slice m8 m9 m10⟩) HQE.out (fun j u hu => Ext.get hxy (HRL.out.cells j u hu))
        obtain ⟨wP, hwP⟩ : ∃ wP, wP = putC wc gL (i * 6) [.int .i64 m1, .int .i64 m2, .float .f64 m3, .string m4, .slice m5 m6 m7, .slice m8 m9 m10] := ⟨_, rfl⟩
        change wc.grownBy (putC wc gL (i * 6) [.int .i64 m1, .int .i64 m2, .float .f64 m3, .string m4, .slice m5 m6 m7, .slice m8 m9 m10]) _ at gP
        change (putC wc gL (i * 6) [.int .i64 m1, .int .i64 m2, .float .f64 m3, .string m4, .slice m5 m6 m7, .slice m8 m9 m10]).heap[gT]? = _ at hTP
        change (putC wc gL (i * 6) [.int .i64 m1, .int .i64 m2, .float .f64 m3, .string m4, .slice m5 m6 m7, .slice m8 m9 m10]).heap[w.heap.size + 1 + 1]? = _ at hZP
        rw [← hwP] at p17 gP hTP hZP HPC
        have c0 : wP.cell? ⟨gT, 0, none⟩ = some (.int .i64 8) := (cell_of_row _ _ _ _ _ _ hTP).trans rfl
        have c1 : wP.cell? ⟨gT, 1, none⟩ = some (.int .i64 0) := (cell_of_row _ _ _ _ _ _ hTP).trans rfl
        have c2 : wP.cell? ⟨gT, 2, none⟩ = some (.float .f64 0) := (cell_of_row _ _ _ _ _ _ hTP).trans rfl
        have c3 : wP.cell? ⟨gT, 3, none⟩ = some (.string ByteArray.empty) := (cell_of_row _ _ _ _ _ _ hTP).trans rfl
        have c4 : wP.cell? ⟨gT, 4, none⟩ = some (.slice (some ⟨gL, 0, none⟩) L'.length cL) := (cell_of_row _ _ _ _ _ _ hTP).trans rfl
        have c5 : wP.cell? ⟨gT, 5, none⟩ = some (.slice aK ks'.length cK) := (cell_of_row _ _ _ _ _ _ hTP).trans rfl
        obtain ⟨⟨q0, q1, q2⟩, ⟨q3, q4, q5⟩, ⟨q6, q7, q8⟩, ⟨q9, q10, q11⟩, ⟨q12, q13, q14⟩, ⟨q15, q16, q17⟩⟩ := six_stores hZP (.int .i64 8) (.int .i64 0) (.float .f64 0) (.string ByteArray.empty) (.slice (some ⟨gL, 0, none⟩) L'.length cL) (.slice aK ks'.length cK)
        have HXY := Lib.hid hxy
        have HGY := Lib.hid hgy
        have HRV := Lib.hid hrv
        have HGP := Lib.hid gP
        have HZP := Lib.hid hZP
        have HSB : Hid ((growJ o' r x).isSome = (growJ o (k :: r) x).isSome) := by
          show (growJ o' r x).isSome = (growJ o (k :: r) x).isSome
          rw [HMG.out]
          cases growJ o' r x <;> rfl
        clear hwP hxy hgy hrv gP hZP hTP hT2 hZ2 hY l0 l1 l2 l3 l4 l5 l1' l2' l3' l4' l5' hf8 x0 x1 x2 x3 x4 x5 t4 HG
        go_wp2_with fail
        refine bodyPost_ret (results_row_tmp rfl _ _ (w.heap.size + 1 + 1) 26 _ _ _ rfl (setRow_heap _ _ _ _ _ _ HZP.out) Try.underlying26 rfl (by kernel_rfl)) rfl ?_
        have b8 : Ext w wc := Ext.trans HX.out HXY.out
        have bP : Ext w wP := b8.grown HGP.out b8.size (fun k hk => by cases hk; have := HGL.out; omega)
        have bF := below_setRow bP (g := w.heap.size + 1 + 1) (by omega) #[.int .i64 8, .int .i64 0, .float .f64 0, .string ByteArray.empty, .slice (some ⟨gL, 0, none⟩) L'.length cL, .slice aK ks'.length cK]
        refine ⟨_, _, _, _, _, _, _, _, _, _, (congrArg (fun b => Ending.returned (.tuple #[_, .bool b])) HSB.out : _), fun T hT w2 q1 q2 => ?_, bF⟩
        have hgl := HGL.out
        obtain ⟨hks9, hkg9, hkc9⟩ := own_KS HOK.out
        rw [HMG.out, Option.map_eq_some_iff] at hT
        obtain ⟨y, hy, rfl⟩ := hT
        rw [HMF.out y]
        have hfar : ∀ k, wa.heap.size ≤ k → k < wc.heap.size → w2.heap[k]? = wc.heap[k]? := fun k h1 h2 => by
          have e1 := HGP.out.block k h2 (by simp; omega)
          have e2 := setRow_other wP (w.heap.size + 1 + 1) k #[.int .i64 8, .int .i64 0, .float .f64 0, .string ByteArray.empty, .slice (some ⟨gL, 0, none⟩) L'.length cL, .slice aK ks'.length cK] (by omega)
          have e3 := q2 k (by omega) (by rw [setRow_size]; exact Nat.lt_of_lt_of_le h2 HGP.out.size)
          exact e3.trans (e2.trans e1)
        have hcell : ∀ (g j : Nat) (u : Value), w.heap.size + 3 ≤ g → wP.cell? ⟨g, j, none⟩ = some u → w2.cell? ⟨g, j, none⟩ = some u := fun g j u h1 h2 =>
          q2.cell ((cell_setRow_other _ _ _ _ (by show g ≠ _; omega)).trans h2) (by show w.heap.size ≤ g; omega)
        have hkeys : KS w2 aK ks' := fun hn => by
          obtain ⟨g, rfl, hg⟩ := hkg9 hn
          obtain ⟨b9, o9, e9, hc9⟩ := hks9 hn
          simp only [Option.some.injEq, Addr.mk.injEq, and_true] at e9
          obtain ⟨rfl, rfl⟩ := e9
          refine ⟨g, 0, rfl, fun i hi => hcell g _ _ hg ?_⟩
          have h9 := Ext.get HXY.out (hc9 i hi)
          rw [World.cell?_of_block (HGP.out.block g (lt_of_cell h9) (by simp; exact fun e => HNK.out g rfl e))]
          exact h9
        exact gr_set_end (e9 := ⟨.int .i64 m1, .int .i64 m2, .float .f64 m3, .string m4, .slice m5 m6 m7, .slice m8 m9 m10⟩) q1 HNL.out HLL.out hkc9 HKL1.out HMZ.out HME1.out HME2.out (HRV.out y hy w2 q1 hfar) (fun j u hu => hcell gL j u hgl.1 (HPC.out j u hu)) hkeys
end Go.Proofs.Ytikpedfggbibpaa
