/- Walks: treeOf. -/
import Derived.Test.YtikpedfggbibpaaZ42
import Derived.Test.YtikpedfggbibpaaZ43
import Derived.Deep.CutBlock
namespace Go.Proofs.Ytikpedfggbibpaa
open Go.RowKit Go.Lib
set_option linter.unusedVariables false
set_option linter.unusedSimpArgs false

/-- what treeOf leaves -/
def TrPost (f : J) (w0 w : World) (e : Ending) (w' : World) : Prop :=
  ∃ (m1 m2 : Int) (m3 : Nat) (m4 : ByteArray) (m5 : Option Addr) (m6 m7 : Nat) (m8 : Option Addr) (m9 m10 : Nat) (b : Bool), e = .returned (.tuple #[.agg #[.int .i64 m1, .int .i64 m2, .float .f64 m3, .string m4, .slice m5 m6 m7, .slice m8 m9 m10], .bool b]) ∧
    (b = true → GoodF f ∧ ∃ T, TreeOf (LV f) T ∧ ∀ w'', Keep w0 w'' → KeepF w.heap.size w' w'' → RV w'' (V.ofJ T) (.agg #[.int .i64 m1, .int .i64 m2, .float .f64 m3, .string m4, .slice m5 m6 m7, .slice m8 m9 m10])) ∧ Ext w w'
def TrAt (n : Nat) : Prop := ∀ (ks : List ByteArray) (l : List J), (J.obj ks l).nodes ≤ n → (J.obj ks l).ok → (V.ofJ (.obj ks l)).wt ≤ 900 → ∀ (nested : Bool) (v : Value) (w0 w : World), Keep w0 w → RV w0 (V.ofJ (.obj ks l)) v →
  Calls Try.prog 14 #[v, .bool nested] w (TrPost (.obj ks l) w0 w)

/-- the tree as it stands after m entries -/
def TrSt (ks : List ByteArray) (l : List J) (w0 : World) (lo : Nat) (m : Nat) (wr : World) (vo : Value) : Prop :=
  GE ks l m ∧ ∃ o, TreeO (EP ks l m) o ∧ (o = none → vo = eVal 8) ∧ (∀ T, o = some T → 0 < m ∧ ∀ w'', Keep w0 w'' → KeepF lo wr w'' → RV w'' (V.ofJ T) vo)
/-- what x is, after the switch: the entry itself, or the tree of an object -/
def XOf (y : J) (k : ByteArray) (X : J) : Prop := (X = y ∧ y.isLeaf = true) ∨ (kcut k = [k] ∧ GoodF y ∧ TreeOf (LV y) X ∧ ∃ kt lt, X = .obj kt lt)

/-- what grown is called with, and that it may be -/
theorem tr_call (hgr : ∀ K, GrAt K) {ks : List ByteArray} {l : List J} {w0 wr wc : World} {lo m : Nat} {vo vx : Value} {kx : ByteArray} {X : J} {K : Pth} {a : Option Addr} {c : Nat} (hst : TrSt ks l w0 lo m wr vo) (hpf : (PF (.obj ks l)).length ≤ 900) (hm : m ≤ l.length) (hkl : ks.length = l.length) (k0 : Keep w0 wc) (hx : Ext wr wc) (hlo : lo ≤ wr.heap.size)
    (hX : ∀ w2, Keep w0 w2 → KeepF wr.heap.size wc w2 → RV w2 (V.ofJ X) vx) (hK : K = kcut kx) (hkz : kx.size ≤ 900) (hks : KS wc a K) (hc : K.length ≤ c) :
    GE ks l m ∧ ∃ o, TreeO (EP ks l m) o ∧ Calls Try.prog 50 #[vo, .slice a K.length c, vx] wc (GrPost o K X (mixW w0 lo wc) wc) := by
  obtain ⟨hge, o, ho, hn9, hs9⟩ := hst
  refine ⟨hge, o, ho, hgr K o X (fun j hj => ?_) vo vx a c (mixW w0 lo wc) wc (mixW_to k0 k0 fun k _ _ => rfl) (fun j hj => ?_) (fun h => ?_) ?_ hks hc ?_ ?_⟩
  · subst hj
    obtain ⟨h0, _⟩ := hs9 j rfl
    have hl0 : 0 < l.length := by omega
    have hk0 : 0 < ks.length := by omega
    obtain ⟨q, x, hq⟩ := (hge.1 0 l[0] h0 (List.getElem?_eq_getElem hl0)).one
    have hne : ∃ q x, EP ks l m q x := ⟨_, x, 0, ks[0], l[0], q, h0, List.getElem?_eq_getElem hk0, List.getElem?_eq_getElem hl0, rfl, hq⟩
    refine ⟨Nat.le_trans (tree_nodes ho (PF (.obj ks l)) hne fun q x h s r e => LV.inits h.lv s r e) (by omega), _, ho, hne⟩
  · exact (hs9 j hj).2 _ (mixW_of k0) fun k h1 h2 => (mixW_high h1).trans (hx.block k h2)
  · right
    exact ⟨hn9 h, by rw [hK]; exact kcut_ne kx⟩
  · exact hX _ (mixW_of k0) fun k h1 h2 => mixW_high (Nat.le_trans hlo h1)
  · rw [hK]
    have := kcut_len kx
    omega
  · intro k hk
    rw [hK] at hk
    have := kcut_sizes kx k hk
    omega
/-- the tree has grown -/
theorem tr_next {ks : List ByteArray} {l : List J} {w0 wc w8 w9 : World} {lo m gO : Nat} {v9 : Value} {kx : ByteArray} {y X : J} {K : Pth} {o : Option J} (hge : GE ks l m) (ho : TreeO (EP ks l m) o) (hkm : ks[m]? = some kx) (hlm : l[m]? = some y) (k0 : Keep w0 wc) (hx : Ext wc w8) (hgO : gO < lo) (hlo : lo ≤ wc.heap.size) (hst : ∀ k, k ≠ gO → w9.heap[k]? = w8.heap[k]?) (hsz : w9.heap.size = w8.heap.size)
    (hK : K = kcut kx) (hX : (X = y ∧ y.isLeaf = true) ∨ (kcut kx = [kx] ∧ GoodF y ∧ TreeOf (LV y) X)) (hb : (growJ o K X).isSome = true)
    (hr : ∀ T, growJ o K X = some T → ∀ w'', Keep (mixW w0 lo wc) w'' → KeepF wc.heap.size w8 w'' → RV w'' (V.ofJ T) v9) : TrSt ks l w0 lo (m + 1) w9 v9 := by
  obtain ⟨T, hT⟩ := Option.isSome_iff_exists.1 hb
  have hr2 := hr T hT
  clear hr
  subst hK
  have h12 : GE ks l (m + 1) ∧ TreeOf (EP ks l (m + 1)) T := by
    rcases hX with ⟨rfl, hl⟩ | ⟨h1, h2, h3⟩
    · exact step_leaf hkm hlm hl hge ho hT
    · exact step_tree hkm hlm h1 h2 h3 hge ho hT
  refine ⟨h12.1, some T, h12.2, fun h => (by cases h), fun T' e => ?_⟩
  cases e
  refine ⟨by omega, fun w2 q1 q2 => hr2 w2 (mixW_to k0 q1 fun k h1 h2 => ?_) fun k h1 h2 => ?_⟩
  · exact (q2 k h1 (by have := hx.size; omega)).trans ((hst k (by omega)).trans (hx.block k h2))
  · exact (q2 k (by omega) (by omega)).trans (hst k (by omega))

theorem heaps2 (w : World) (A B : Obj) : ((w.alloc A).alloc B).heap[w.heap.size]? = some A ∧ ((w.alloc A).alloc B).heap[w.heap.size + 1]? = some B ∧ Ext w ((w.alloc A).alloc B) := by
  refine ⟨?_, ?_, ((Ext.refl w).alloc A).alloc B⟩
  · rw [heap_alloc_old _ _ (by simp)]
    exact heap_alloc_new w A
  · have := heap_alloc_new (w.alloc A) B
    rw [World.size_alloc] at this
    exact this
theorem tree_of_obj {kt : List ByteArray} {lt : List J} {T : J} (h : TreeOf (LV (.obj kt lt)) T) : ∃ kt' lt', T = .obj kt' lt' := by
  rcases h.cases_on' with hl | h
  · have h0 := (h.leaf_inv hl [] T).2 ⟨rfl, rfl⟩
    obtain ⟨i, k, y, r, _, _, e, _⟩ := (LV.obj_iff _ _).1 h0
    exact absurd (List.append_eq_nil_iff.1 e.symm).1 (kcut_ne k)
  · exact h
theorem RV.kn {w : World} {x : V} {n1 n2 : Int} {c2 c3 c4 c5 : Value} (h : RV w x (.agg #[.int .i64 n1, .int .i64 n2, c2, c3, c4, c5])) : n1 = x.kind ∧ n2 = x.n := by
  obtain ⟨al, lc, ak, kc, e⟩ := h.six
  simp only [Value.agg.injEq, Array.mk.injEq, List.cons.injEq, Value.int.injEq, true_and] at e
  exact ⟨e.1, e.2.1⟩
set_option maxRecDepth 100000 in
set_option maxHeartbeats 16000000 in
theorem treeOf_step (hgr : ∀ K, GrAt K) (n : Nat) (ih : TrAt n) : TrAt (n + 1) := by
  intro ks l hnd hok hwt nested v w0 w hK h
  have hoka := hok
  unfold J.ok at hoka
  have hwt2 : 1 + ks.length + ksum ks + V.wtL (V.ofJs l) ≤ 900 := by unfold V.ofJ at hwt; simp only [V.wt] at hwt; have : (ByteArray.empty).size = 0 := rfl; omega
  have hnl : J.nodesL l ≤ n := by simp only [J.nodes] at hnd; omega
  have HPF : Hid ((PF (.obj ks l)).length ≤ 900) := Nat.le_trans (PF_wt _) hwt
  unfold V.ofJ RV at h
  obtain ⟨al, lc, ak, kc, rfl, z, hl, hk⟩ := h
  rw [V.ofJs_length]
  have HELA : Hid (∀ i, (h : i < l.length) → ∃ b o d0 d1 d2 d3 d4 d5, al = some ⟨b, o, none⟩ ∧ ElemAt w0 b (o + i * 6) (V.ofJ l[i]) d0 d1 d2 d3 d4 d5) := fun i h => by
    obtain ⟨b, o, d0, d1, d2, d3, d4, d5, e, E⟩ := RV.elem (k := 0) (n := 0) (f := 0) (s := ByteArray.empty) (ks := []) hl i (by rw [V.ofJs_length]; exact h)
    rw [V.ofJs_get l i h] at E
    exact ⟨b, o, d0, d1, d2, d3, d4, d5, e, E⟩
  have HLS : Hid (∀ i, (h : i < l.length) → l[i].nodes ≤ n ∧ (V.ofJ l[i]).wt ≤ V.wtL (V.ofJs l) ∧ l[i].ok) := fun i h => by
    refine ⟨Nat.le_trans (J.nodes_mem (List.getElem_mem h)) hnl, wt_mem ?_, J.oks_get hoka.2.2 i h⟩
    rw [← V.ofJs_get l i h]
    exact List.getElem_mem _
  have HKZ : Hid (∀ k ∈ ks, k.size ≤ ksum ks) := fun k hk => ksum_mem hk
  have HNL := Lib.hid hnl
  have hlen : ks.length ≤ 900 := by omega
  have HWT := Lib.hid hwt2
  have HIH := Lib.hid ih
  have HGR := Lib.hid hgr
  have HKS := Lib.hid hk
  have HKL := Lib.hid hoka.2.1
  have HNDP := Lib.hid hoka.1
  have HK := Lib.hid hK
  have hkl : l.length = ks.length := hoka.2.1.symm
  clear hl hk z hnd hok hwt hwt2 hnl ih hgr hoka hK
  rw [hkl]
  obtain ⟨w3, e3, b0, b1, b2, bs, X3⟩ := heaps3' w (.cells #[.int .i64 8, .int .i64 0, .float .f64 0, .string ByteArray.empty, .slice al ks.length lc, .slice ak ks.length kc] 26 (0, 0))
    (.cells #[.int .i64 0, .int .i64 0, .float .f64 0, .string { data := #[] }, .slice none 0 0, .slice none 0 0] 26 (0, 0))
    (.cells #[.int .i64 8, .int .i64 0, .float .f64 0, .string { data := #[] }, .slice none 0 0, .slice none 0 0] 26 (0, 0))
  have HKLL := Lib.hid hkl
  clear hkl
  go_enter Try.func14, Try.ntmps14
  go_wp2_with fail
  rw [← e3]
  clear e3
  have r4 : w3.cell? ⟨w.heap.size, 4, none⟩ = some (.slice al ks.length lc) := (cell_of_row _ _ _ _ _ _ b0).trans rfl
  have r5 : w3.cell? ⟨w.heap.size, 5, none⟩ = some (.slice ak ks.length kc) := (cell_of_row _ _ _ _ _ _ b0).trans rfl
  have HB0 := Lib.hid b0
  have HB1 := Lib.hid b1
  have HB2 := Lib.hid b2
  have HX3 := Lib.hid X3
  have HBS := Lib.hid bs
  clear b0 b1 b2 X3 bs r4 r5
  go_loopw [7] (fun i wr => ∃ (m : Nat) (m1 m2 : Int) (m3 : Nat) (m4 : ByteArray) (m5 : Option Addr) (m6 m7 : Nat) (m8 : Option Addr) (m9 m10 : Nat), m ≤ ks.length ∧ i = .int .i64 m ∧ Ext w wr ∧ w.heap.size + 3 ≤ wr.heap.size ∧
      wr.heap[w.heap.size]? = some (.cells #[.int .i64 8, .int .i64 0, .float .f64 0, .string ByteArray.empty, .slice al ks.length lc, .slice ak ks.length kc] 26 (0, 0)) ∧
      wr.heap[w.heap.size + 1]? = some (.cells #[.int .i64 0, .int .i64 0, .float .f64 0, .string { data := #[] }, .slice none 0 0, .slice none 0 0] 26 (0, 0)) ∧
      wr.heap[w.heap.size + 1 + 1]? = some (.cells #[.int .i64 m1, .int .i64 m2, .float .f64 m3, .string m4, .slice m5 m6 m7, .slice m8 m9 m10] 26 (0, 0)) ∧
      TrSt ks l w0 (w.heap.size + 3) m wr (.agg #[.int .i64 m1, .int .i64 m2, .float .f64 m3, .string m4, .slice m5 m6 m7, .slice m8 m9 m10]))
    (fun i _ => ks.length - (intOf i).toNat)
  case atStart => exact ⟨0, 8, 0, 0, ByteArray.empty, none, 0, 0, none, 0, 0, Nat.zero_le _, rfl, HX3.out, by have := HBS.out; omega, HB0.out, HB1.out, HB2.out, GE.zero _ _, none, fun q x => EP.zero, fun _ => rfl, fun T h => by cases h⟩
  case round =>
    obtain ⟨m, m1, m2, m3, m4, m5, m6, m7, m8, m9, m10, hm, rfl, hx, hsz, hA, hZ, hC, hst⟩ := hrel
    have HX := Lib.hid hx
    have HA := Lib.hid hA
    have HZ := Lib.hid hZ
    have HC := Lib.hid hC
    have HST := Lib.hid hst
    have HSZ := Lib.hid hsz
    have r4 : wr.cell? ⟨w.heap.size, 4, none⟩ = some (.slice al ks.length lc) := (cell_of_row _ _ _ _ _ _ hA).trans rfl
    have r5 : wr.cell? ⟨w.heap.size, 5, none⟩ = some (.slice ak ks.length kc) := (cell_of_row _ _ _ _ _ _ hA).trans rfl
    clear hx hA hZ hC hst hsz
    by_cases hlt : m < ks.length
    · have hml : m < l.length := by have := HKLL.out; omega
      obtain ⟨b1, o1, d0, d1, d2, d3, d4, d5, rfl, E⟩ := HELA.out m hml
      obtain ⟨bK, oK, rfl, hKc⟩ := HKS.out (by intro e; subst e; simp at hlt)
      have KW : Keep w0 wr := HK.out.trans HX.out.keep
      have kk := KW.get (hKc m hlt)
      obtain ⟨s1, s2, s3⟩ := HLS.out m hml
      have hkz := HKZ.out _ (List.getElem_mem hlt)
      have HKM : Hid (ks[m]? = some ks[m]) := List.getElem?_eq_getElem hlt
      have HLM : Hid (l[m]? = some l[m]) := List.getElem?_eq_getElem hml
      generalize ks[m] = kx at *
      generalize l[m] = y at *
      have HRV := Lib.hid E.rv
      obtain ⟨yal, ylc, yak, ykc, he⟩ := E.rv.six
      simp only [Value.agg.injEq, Array.mk.injEq, List.cons.injEq, and_true] at he
      obtain ⟨rfl, rfl, rfl, rfl, rfl, rfl⟩ := he
      have z0 := KW.get E.h0
      have z1 := KW.get E.h1
      have z2 := KW.get E.h2
      have z3 := KW.get E.h3
      have z4 := KW.get E.h4
      have z5 := KW.get E.h5
      have HKW := Lib.hid KW
      have hm0 : (0 : Int) ≤ (m : Int) := by omega
      have hm1 : (m : Int) < (ks.length : Int) := by omega
      clear hKc E KW
      go_upto_region 5 with fail
      go_cut [8, 9, 10] from 13 to 112 (fun t8 t9 t10 wx => ∃ (gX gK : Nat), t8 = .pointer (some ⟨gX, 0, none⟩) ∧ t9 = .slice (some ⟨gK, 0, none⟩) 1 1 ∧ t10 = .bool true ∧ Ext wr wx ∧ wr.heap.size ≤ gX ∧ wx.heap[gX]? = some (.cells #[.int .i64 (V.ofJ y).kind, .int .i64 (V.ofJ y).n, .float .f64 (V.ofJ y).f, .string (V.ofJ y).s, .slice yal (V.ofJ y).l.length ylc, .slice yak (V.ofJ y).keys.length ykc] 26 (0, 0)) ∧ wx.cell? ⟨gK, 0, none⟩ = some (.string kx) ∧ gK ≠ gX)
      case first =>
        go_region_held3 (fun w' => w'.cell? ⟨w.heap.size, 4, none⟩ = some (.slice (some ⟨b1, o1, none⟩) ks.length lc) ∧ w'.cell? ⟨w.heap.size, 5, none⟩ = some (.slice (some ⟨bK, oK, none⟩) ks.length kc) ∧ w'.cell? ⟨b1, o1 + m * 6, none⟩ = some (.int .i64 (V.ofJ y).kind) ∧ w'.cell? ⟨b1, o1 + m * 6 + 1, none⟩ = some (.int .i64 (V.ofJ y).n) ∧ w'.cell? ⟨b1, o1 + m * 6 + 2, none⟩ = some (.float .f64 (V.ofJ y).f) ∧ w'.cell? ⟨b1, o1 + m * 6 + 3, none⟩ = some (.string (V.ofJ y).s) ∧ w'.cell? ⟨b1, o1 + m * 6 + 4, none⟩ = some (.slice yal (V.ofJ y).l.length ylc) ∧ w'.cell? ⟨b1, o1 + m * 6 + 5, none⟩ = some (.slice yak (V.ofJ y).keys.length ykc) ∧ w'.cell? ⟨bK, oK + m, none⟩ = some (.string kx))
          (first
            | (go_split_ands
               with_reducible exact ⟨((Keep.alloc _ _).trans (Keep.alloc _ _)).get r4, ((Keep.alloc _ _).trans (Keep.alloc _ _)).get r5, ((Keep.alloc _ _).trans (Keep.alloc _ _)).get z0, ((Keep.alloc _ _).trans (Keep.alloc _ _)).get z1, ((Keep.alloc _ _).trans (Keep.alloc _ _)).get z2, ((Keep.alloc _ _).trans (Keep.alloc _ _)).get z3, ((Keep.alloc _ _).trans (Keep.alloc _ _)).get z4, ((Keep.alloc _ _).trans (Keep.alloc _ _)).get z5, ((Keep.alloc _ _).trans (Keep.alloc _ _)).get kk⟩)
            | (go_split_ands
               with_reducible exact ⟨(((Keep.alloc _ _).trans (Keep.alloc _ _)).trans (Keep.drew _)).get r4, (((Keep.alloc _ _).trans (Keep.alloc _ _)).trans (Keep.drew _)).get r5, (((Keep.alloc _ _).trans (Keep.alloc _ _)).trans (Keep.drew _)).get z0, (((Keep.alloc _ _).trans (Keep.alloc _ _)).trans (Keep.drew _)).get z1, (((Keep.alloc _ _).trans (Keep.alloc _ _)).trans (Keep.drew _)).get z2, (((Keep.alloc _ _).trans (Keep.alloc _ _)).trans (Keep.drew _)).get z3, (((Keep.alloc _ _).trans (Keep.alloc _ _)).trans (Keep.drew _)).get z4, (((Keep.alloc _ _).trans (Keep.alloc _ _)).trans (Keep.drew _)).get z5, (((Keep.alloc _ _).trans (Keep.alloc _ _)).trans (Keep.drew _)).get kk⟩)
            | (go_split_ands
               with_reducible exact ⟨(Keep.alloc _ _).get r4, (Keep.alloc _ _).get r5, (Keep.alloc _ _).get z0, (Keep.alloc _ _).get z1, (Keep.alloc _ _).get z2, (Keep.alloc _ _).get z3, (Keep.alloc _ _).get z4, (Keep.alloc _ _).get z5, (Keep.alloc _ _).get kk⟩)
            | (go_split_ands
               with_reducible exact ⟨((Keep.alloc _ _).trans (Keep.drew _)).get r4, ((Keep.alloc _ _).trans (Keep.drew _)).get r5, ((Keep.alloc _ _).trans (Keep.drew _)).get z0, ((Keep.alloc _ _).trans (Keep.drew _)).get z1, ((Keep.alloc _ _).trans (Keep.drew _)).get z2, ((Keep.alloc _ _).trans (Keep.drew _)).get z3, ((Keep.alloc _ _).trans (Keep.drew _)).get z4, ((Keep.alloc _ _).trans (Keep.drew _)).get z5, ((Keep.alloc _ _).trans (Keep.drew _)).get kk⟩)
            | (go_split_ands
               with_reducible exact ⟨(Keep.drew _).get r4, (Keep.drew _).get r5, (Keep.drew _).get z0, (Keep.drew _).get z1, (Keep.drew _).get z2, (Keep.drew _).get z3, (Keep.drew _).get z4, (Keep.drew _).get z5, (Keep.drew _).get kk⟩)
            | (go_split_ands
               with_reducible exact ⟨r4, r5, z0, z1, z2, z3, z4, z5, kk⟩)
            | go_keep)
          (first
            | fail)
        all_goals
          go_wp2_with fail
          go_meet
          first
            | exact ⟨wr.heap.size + 1, wr.heap.size, rfl, rfl, rfl, Ext.drew (heaps2 wr _ _).2.2, by omega, (heaps2 wr _ _).2.1, (cell_of_row _ wr.heap.size 0 _ _ _ (heaps2 wr _ _).1).trans rfl, by omega⟩
            | exact ⟨wr.heap.size, wr.heap.size + 1, rfl, rfl, rfl, Ext.drew (heaps2 wr _ _).2.2, by omega, (heaps2 wr _ _).1, (cell_of_row _ (wr.heap.size + 1) 0 _ _ _ (heaps2 wr _ _).2.1).trans rfl, by omega⟩
      case rest =>
        obtain ⟨gX, gK, rfl, rfl, rfl, hx2, hgX, hX, hK2, hKX⟩ := hcut
        have HKX := Lib.hid hKX
        have HX2 := Lib.hid hx2
        have HXX := Lib.hid hX
        have HK2 := Lib.hid hK2
        have HGX := Lib.hid hgX
        have hu5 := Ext.get hx2 r5
        have hukk := Ext.get hx2 kk
        have HC1 := Lib.hid ((hx2.block (w.heap.size + 1 + 1) (by have := HSZ.out; omega)).trans HC.out)
        have HZ1 := Lib.hid ((hx2.block (w.heap.size + 1) (by have := HSZ.out; omega)).trans HZ.out)
        clear hx2 hX hK2 hgX hKX r4 r5 z0 z1 z2 z3 z4 z5 kk
        go_upto_block 2 with fail
        go_cut [8, 9, 10] from 31 to 112 (fun t8 t9 t10 wx => ∃ (K : Pth) (a : Option Addr) (c : Nat) (ok : Bool) (n1 n2 : Int) (n3 : Nat) (n4 : ByteArray) (n5 : Option Addr) (n6 n7 : Nat) (n8 : Option Addr) (n9 n10 : Nat), t8 = .pointer (some ⟨gX, 0, none⟩) ∧ t9 = .slice a K.length c ∧ t10 = .bool ok ∧ Ext wr wx ∧ wx.heap[gX]? = some (.cells #[.int .i64 n1, .int .i64 n2, .float .f64 n3, .string n4, .slice n5 n6 n7, .slice n8 n9 n10] 26 (0, 0)) ∧ KS wx a K ∧ K.length ≤ c ∧
          (ok = true → K = kcut kx ∧ ∃ X, ((X = y ∧ (nested = true → ∀ kt lt, y ≠ .obj kt lt)) ∨ (kcut kx = [kx] ∧ GoodF y ∧ TreeOf (LV y) X ∧ ∃ kt lt, X = .obj kt lt)) ∧ n1 = (V.ofJ X).kind ∧ n2 = (V.ofJ X).n ∧ ∀ w2, Keep w0 w2 → KeepF wr.heap.size wx w2 → RV w2 (V.ofJ X) (.agg #[.int .i64 n1, .int .i64 n2, .float .f64 n3, .string n4, .slice n5 n6 n7, .slice n8 n9 n10])))
        case first =>
          obtain ⟨cap, wb, hcv, hxb, hbc⟩ := key_bytes kx wc
          have HXB := Lib.hid hxb
          have hkz2 : kx.size ≤ 900 := by have := HWT.out; omega
          have HCB := Lib.hid (containsB_any wc.heap.size cap kx (by omega) wb hbc)
          clear hxb hbc
          go_upto_region 6 with fail
          go_cut [31] from 31 to 112 (fun t31 wx => t31 = .bool (nested && dotB kx) ∧ Ext wc wx)
          case first =>
            cases nested
            · go_wp2_with fail
              go_meet
              exact ⟨rfl, Ext.refl _⟩
            · go_wp2_with (go_at_call 48; refine (HCB.out).mono ?_; rintro e w8 ⟨rfl, rfl⟩; clear HCB)
              go_meet
              exact ⟨rfl, HXB.out⟩
          case rest =>
            obtain ⟨rfl, hx3⟩ := hcut
            clear hcv HCB HXB
            have HX3w := Lib.hid (Ext.trans HX2.out hx3)
            have HC2 := Lib.hid ((hx3.block (w.heap.size + 1 + 1) (Array.getElem?_eq_some_iff.1 HC1.out).1).trans HC1.out)
            have HZ2 := Lib.hid ((hx3.block (w.heap.size + 1) (Array.getElem?_eq_some_iff.1 HZ1.out).1).trans HZ1.out)
            have HXX2 := Lib.hid ((hx3.block gX (Array.getElem?_eq_some_iff.1 HXX.out).1).trans HXX.out)
            have HK3 := Lib.hid (Ext.get hx3 HK2.out)
            have v5 := Ext.get hx3 hu5
            have vkk := Ext.get hx3 hukk
            have HDOT : Hid (∃ d, d = (nested && dotB kx)) := ⟨_, rfl⟩
            clear hx3 hu5 hukk HC1 HZ1 HXX HK2
            obtain ⟨d, hd⟩ := HDOT.out
            rw [← hd]
            have HD := Lib.hid hd
            clear hd HDOT
            cases d
            case true =>
              have c0 : wc.cell? ⟨w.heap.size + 1 + 1, 0, none⟩ = some (.int .i64 m1) := (cell_of_row _ _ _ _ _ _ HC2.out).trans rfl
              have c1 : wc.cell? ⟨w.heap.size + 1 + 1, 1, none⟩ = some (.int .i64 m2) := (cell_of_row _ _ _ _ _ _ HC2.out).trans rfl
              have c2 : wc.cell? ⟨w.heap.size + 1 + 1, 2, none⟩ = some (.float .f64 m3) := (cell_of_row _ _ _ _ _ _ HC2.out).trans rfl
              have c3 : wc.cell? ⟨w.heap.size + 1 + 1, 3, none⟩ = some (.string m4) := (cell_of_row _ _ _ _ _ _ HC2.out).trans rfl
              have c4 : wc.cell? ⟨w.heap.size + 1 + 1, 4, none⟩ = some (.slice m5 m6 m7) := (cell_of_row _ _ _ _ _ _ HC2.out).trans rfl
              have c5 : wc.cell? ⟨w.heap.size + 1 + 1, 5, none⟩ = some (.slice m8 m9 m10) := (cell_of_row _ _ _ _ _ _ HC2.out).trans rfl
              obtain ⟨⟨p0, p1, p2⟩, ⟨p3, p4, p5⟩, ⟨p6, p7, p8⟩, ⟨p9, p10, p11⟩, ⟨p12, p13, p14⟩, ⟨p15, p16, p17⟩⟩ := six_stores HZ2.out (.int .i64 m1) (.int .i64 m2) (.float .f64 m3) (.string m4) (.slice m5 m6 m7) (.slice m8 m9 m10)
              go_wp2_with fail
              refine bodyPost_ret (results_row_tmp rfl _ _ (w.heap.size + 1) 26 _ _ _ rfl (setRow_heap _ _ _ _ _ _ HZ2.out) Try.underlying26 rfl (by kernel_rfl)) rfl ?_
              exact ⟨m1, m2, m3, m4, m5, m6, m7, m8, m9, m10, false, rfl, fun h => (by cases h), below_setRow (Ext.trans HX.out HX3w.out) (g := w.heap.size + 1) (by omega) _⟩
            case false =>
              have HXL : Hid (gX < wc.heap.size) := (Array.getElem?_eq_some_iff.1 HXX2.out).1
              have x0 : wc.cell? ⟨gX, 0, none⟩ = some (.int .i64 (V.ofJ y).kind) := (cell_of_row _ _ _ _ _ _ HXX2.out).trans rfl
              have x1 : wc.cell? ⟨gX, 1, none⟩ = some (.int .i64 (V.ofJ y).n) := (cell_of_row _ _ _ _ _ _ HXX2.out).trans rfl
              have x2 : wc.cell? ⟨gX, 2, none⟩ = some (.float .f64 (V.ofJ y).f) := (cell_of_row _ _ _ _ _ _ HXX2.out).trans rfl
              have x3 : wc.cell? ⟨gX, 3, none⟩ = some (.string (V.ofJ y).s) := (cell_of_row _ _ _ _ _ _ HXX2.out).trans rfl
              have x4 : wc.cell? ⟨gX, 4, none⟩ = some (.slice yal (V.ofJ y).l.length ylc) := (cell_of_row _ _ _ _ _ _ HXX2.out).trans rfl
              have x5 : wc.cell? ⟨gX, 5, none⟩ = some (.slice yak (V.ofJ y).keys.length ykc) := (cell_of_row _ _ _ _ _ _ HXX2.out).trans rfl
              cases nested
              · have HCK := Lib.hid (cutKey_any kx (by omega) wc)
                go_wp2_with (go_at_call 49; refine (HCK.out).mono ?_; rintro e w8 ⟨a8, c8, rfl, hk8, hc8, hx8⟩; have HK8 := Lib.hid hk8; have HC8 := Lib.hid hc8; have HX8 := Lib.hid hx8; clear hk8 hc8 hx8 HCK)
                go_meet
                exact ⟨kcut kx, a8, c8, true, _, _, _, _, _, _, _, _, _, _, rfl, rfl, rfl, Ext.trans HX3w.out HX8.out, (HX8.out.block gX HXL.out).trans HXX2.out, HK8.out, HC8.out, fun _ => ⟨rfl, y, Or.inl ⟨rfl, fun h => (by cases h)⟩, rfl, rfl, fun w2 k1 _ => RV.keep k1 _ HRV.out⟩⟩
              · have hk1 : kcut kx = [kx] := dotB_none (by have := HD.out; simpa using this.symm)
                have HK1 := Lib.hid hk1
                have HKS1 : Hid (KS wc (some ⟨gK, 0, none⟩) [kx]) := fun _ => ⟨gK, 0, rfl, fun i hi => by
                  have : i = 0 := by simpa using hi
                  subst this
                  simpa using HK3.out⟩
                clear hk1
                by_cases hob : ∃ kt lt, y = .obj kt lt
                · obtain ⟨kt, lt, rfl⟩ := hob
                  have HTR : Hid (∀ v, RV w0 (V.ofJ (.obj kt lt)) v → Calls Try.prog 14 #[v, .bool true] wc (TrPost (.obj kt lt) w0 wc)) := fun v hv => HIH.out kt lt s1 s3 (by have := HWT.out; omega) true v w0 wc (HKW.out.trans HX3w.out.keep) hv
                  have HTR2 := Lib.hid (HTR.out _ HRV.out)
                  have hk8 : (V.ofJ (.obj kt lt)).kind = 8 := by rw [ofJ_obj]; rfl
                  rw [hk8] at x0 HXX2 HTR2
                  try rw [hk8]
                  clear HTR hk8
                  go_wp2_with (go_at_call 14; refine (HTR2.out).mono ?_; rintro e w8 ⟨n1, n2, n3, n4, n5, n6, n7, n8, n9, n10, b, rfl, hb, hx8⟩; have HB := Lib.hid hb; have HX8 := Lib.hid hx8; have hX8 := (hx8.block gX HXL.out).trans HXX2.out; obtain ⟨⟨p0, p1, p2⟩, ⟨p3, p4, p5⟩, ⟨p6, p7, p8⟩, ⟨p9, p10, p11⟩, ⟨p12, p13, p14⟩, ⟨p15, p16, p17⟩⟩ := six_stores hX8 (.int .i64 n1) (.int .i64 n2) (.float .f64 n3) (.string n4) (.slice n5 n6 n7) (.slice n8 n9 n10); have HX9 := Lib.hid hX8; clear hb hx8 hX8 HTR2)
                  go_meet
                  refine ⟨[kx], some ⟨gK, 0, none⟩, 1, b, n1, n2, n3, n4, n5, n6, n7, n8, n9, n10, rfl, rfl, rfl, below_setRow (Ext.trans HX3w.out HX8.out) HGX.out _, setRow_heap _ _ _ _ _ _ HX9.out, fun hn => ?_, Nat.le_refl _, fun hb => ?_⟩
                  · obtain ⟨b9, o9, e9, hc9⟩ := HKS1.out hn
                    refine ⟨b9, o9, e9, fun i hi => ?_⟩
                    simp only [Option.some.injEq, Addr.mk.injEq, and_true] at e9
                    obtain ⟨rfl, rfl⟩ := e9
                    exact (cell_setRow_other _ _ _ _ HKX.out).trans (Ext.get HX8.out (hc9 i hi))
                  · obtain ⟨hg, T, hT, hr⟩ := HB.out hb
                    obtain ⟨kt9, lt9, rfl⟩ := tree_of_obj hT
                    have hrv := hr w8 ((HKW.out.trans HX3w.out.keep).trans HX8.out.keep) (fun _ _ _ => rfl)
                    obtain ⟨e1, e2⟩ := hrv.kn
                    exact ⟨HK1.out.symm, _, Or.inr ⟨HK1.out, hg, hT, kt9, lt9, rfl⟩, e1, e2, fun w2 k1 k2 => hr w2 k1 fun k h1 h2 => (k2 k (Nat.le_trans HX3w.out.size h1) (by rw [setRow_size]; exact h2)).trans (setRow_other _ _ _ _ (fun e => by have := HXL.out; omega))⟩
                · have hk8 : ((V.ofJ y).kind == 8) = false := by cases y <;> first | rfl | exact absurd ⟨_, _, rfl⟩ hob
                  have HOB := Lib.hid hob
                  clear hob
                  go_wp2_with fail
                  go_meet
                  exact ⟨[kx], some ⟨gK, 0, none⟩, 1, true, _, _, _, _, _, _, _, _, _, _, rfl, rfl, rfl, HX3w.out, HXX2.out, HKS1.out, Nat.le_refl _, fun _ => ⟨HK1.out.symm, y, Or.inl ⟨rfl, fun _ kt lt e => HOB.out ⟨kt, lt, e⟩⟩, rfl, rfl, fun w2 k1 _ => RV.keep k1 _ HRV.out⟩⟩
        case rest =>
          obtain ⟨K, a, c, ok, n1, n2, n3, n4, n5, n6, n7, n8, n9, n10, rfl, rfl, rfl, hxw, hX9, hKS, hKc, hgood⟩ := hcut
          clear hu5 hukk HC1 HZ1 HXX HK2
          have HXW := Lib.hid hxw
          have HX9 := Lib.hid hX9
          have HKS9 := Lib.hid hKS
          have HKC := Lib.hid hKc
          have HGOOD := Lib.hid hgood
          have HC3 := Lib.hid ((hxw.block (w.heap.size + 1 + 1) (by have := HSZ.out; omega)).trans HC.out)
          have HZ3 := Lib.hid ((hxw.block (w.heap.size + 1) (by have := HSZ.out; omega)).trans HZ.out)
          have HA3 := Lib.hid ((hxw.block w.heap.size (by have := HSZ.out; omega)).trans HA.out)
          have x0 : wc.cell? ⟨gX, 0, none⟩ = some (.int .i64 n1) := (cell_of_row _ _ _ _ _ _ hX9).trans rfl
          have x1 : wc.cell? ⟨gX, 1, none⟩ = some (.int .i64 n2) := (cell_of_row _ _ _ _ _ _ hX9).trans rfl
          have x2 : wc.cell? ⟨gX, 2, none⟩ = some (.float .f64 n3) := (cell_of_row _ _ _ _ _ _ hX9).trans rfl
          have x3 : wc.cell? ⟨gX, 3, none⟩ = some (.string n4) := (cell_of_row _ _ _ _ _ _ hX9).trans rfl
          have x4 : wc.cell? ⟨gX, 4, none⟩ = some (.slice n5 n6 n7) := (cell_of_row _ _ _ _ _ _ hX9).trans rfl
          have x5 : wc.cell? ⟨gX, 5, none⟩ = some (.slice n8 n9 n10) := (cell_of_row _ _ _ _ _ _ hX9).trans rfl
          clear hxw hX9 hKS hKc hgood
          go_upto_region 12 with fail
          go_cut [11] from 64 to 112 (fun t11 wx => ∃ lf : Bool, t11 = .bool lf ∧ wc = wx ∧ (lf = true → n1 = 1 ∨ n1 = 5 ∨ n1 = 3 ∨ (n1 = 2 ∧ n2 = 1)))
          case first =>
            go_wp2_with fail
            all_goals go_meet
            all_goals exact ⟨_, rfl, rfl, fun h => by simp_all⟩
          case rest =>
            obtain ⟨lf, rfl, hww, hlf⟩ := hcut
            subst hww
            have HLF := Lib.hid hlf
            clear hlf
            go_upto_region 13 with fail
            go_cut [101] from 87 to 112 (fun t101 wx => ∃ bad : Bool, t101 = .bool bad ∧ wc = wx ∧ (bad = false → ok = true ∧ (lf = true ∨ (nested = true ∧ n1 = 8))))
            case first =>
              cases ok <;> cases lf <;> cases nested
              all_goals go_wp2_with fail
              all_goals go_meet
              all_goals exact ⟨_, rfl, rfl, fun h => by simp_all⟩
            case rest =>
              obtain ⟨bad, rfl, hww, hbad⟩ := hcut
              subst hww
              have HBAD := Lib.hid hbad
              clear hbad
              cases bad
              case true =>
                have c0 : wc.cell? ⟨w.heap.size + 1 + 1, 0, none⟩ = some (.int .i64 m1) := (cell_of_row _ _ _ _ _ _ HC3.out).trans rfl
                have c1 : wc.cell? ⟨w.heap.size + 1 + 1, 1, none⟩ = some (.int .i64 m2) := (cell_of_row _ _ _ _ _ _ HC3.out).trans rfl
                have c2 : wc.cell? ⟨w.heap.size + 1 + 1, 2, none⟩ = some (.float .f64 m3) := (cell_of_row _ _ _ _ _ _ HC3.out).trans rfl
                have c3 : wc.cell? ⟨w.heap.size + 1 + 1, 3, none⟩ = some (.string m4) := (cell_of_row _ _ _ _ _ _ HC3.out).trans rfl
                have c4 : wc.cell? ⟨w.heap.size + 1 + 1, 4, none⟩ = some (.slice m5 m6 m7) := (cell_of_row _ _ _ _ _ _ HC3.out).trans rfl
                have c5 : wc.cell? ⟨w.heap.size + 1 + 1, 5, none⟩ = some (.slice m8 m9 m10) := (cell_of_row _ _ _ _ _ _ HC3.out).trans rfl
                obtain ⟨⟨p0, p1, p2⟩, ⟨p3, p4, p5⟩, ⟨p6, p7, p8⟩, ⟨p9, p10, p11⟩, ⟨p12, p13, p14⟩, ⟨p15, p16, p17⟩⟩ := six_stores HZ3.out (.int .i64 m1) (.int .i64 m2) (.float .f64 m3) (.string m4) (.slice m5 m6 m7) (.slice m8 m9 m10)
                go_wp2_with fail
                refine bodyPost_ret (results_row_tmp rfl _ _ (w.heap.size + 1) 26 _ _ _ rfl (setRow_heap _ _ _ _ _ _ HZ3.out) Try.underlying26 rfl (by kernel_rfl)) rfl ?_
                exact ⟨m1, m2, m3, m4, m5, m6, m7, m8, m9, m10, false, rfl, fun h => (by cases h), below_setRow (Ext.trans HX.out HXW.out) (g := w.heap.size + 1) (by omega) _⟩
              case false =>
                obtain ⟨rfl, hgo⟩ := HBAD.out rfl
                obtain ⟨hKe, X, hXc, hk1, hk2, hrv⟩ := HGOOD.out rfl
                have hXl : (X = y ∧ y.isLeaf = true) ∨ (kcut kx = [kx] ∧ GoodF y ∧ TreeOf (LV y) X) := by
                  rcases hXc with ⟨rfl, hno⟩ | ⟨h1, h2, h3, kt, lt, rfl⟩
                  · refine Or.inl ⟨rfl, ?_⟩
                    rcases hgo with h | ⟨h, h8⟩
                    · have := HLF.out h
                      rw [hk1, hk2] at this
                      cases X <;> simp_all [V.ofJ, V.kind, V.n, J.isLeaf]
                    · rw [hk1] at h8
                      cases X with
                      | obj kt lt => exact absurd rfl (hno h kt lt)
                      | null => simp [V.ofJ, V.kind] at h8
                      | bool b => simp [V.ofJ, V.kind] at h8
                      | int b => simp [V.ofJ, V.kind] at h8
                      | flt b => simp [V.ofJ, V.kind] at h8
                      | str b => simp [V.ofJ, V.kind] at h8
                      | arr b => simp [V.ofJ, V.kind] at h8
                  · exact Or.inr ⟨h1, h2, h3⟩
                have KWC : Keep w0 wc := HKW.out.trans HXW.out.keep
                obtain ⟨hge, o, ho, hcall⟩ := tr_call HGR.out HST.out HPF.out (by have := HKLL.out; omega) HKL.out KWC HXW.out HSZ.out hrv hKe (by have := HWT.out; omega) HKS9.out HKC.out
                have HCALL := Lib.hid hcall
                have HGE := Lib.hid hge
                have HO := Lib.hid ho
                have HXL := Lib.hid hXl
                have HKE := Lib.hid hKe
                have HKWC := Lib.hid KWC
                have HIKM := Lib.hid HKM.out
                have hsw : w.heap.size + 3 ≤ wc.heap.size := Nat.le_trans HSZ.out HXW.out.size
                have HSW := Lib.hid hsw
                have c0 : wc.cell? ⟨w.heap.size + 1 + 1, 0, none⟩ = some (.int .i64 m1) := (cell_of_row _ _ _ _ _ _ HC3.out).trans rfl
                have c1 : wc.cell? ⟨w.heap.size + 1 + 1, 1, none⟩ = some (.int .i64 m2) := (cell_of_row _ _ _ _ _ _ HC3.out).trans rfl
                have c2 : wc.cell? ⟨w.heap.size + 1 + 1, 2, none⟩ = some (.float .f64 m3) := (cell_of_row _ _ _ _ _ _ HC3.out).trans rfl
                have c3 : wc.cell? ⟨w.heap.size + 1 + 1, 3, none⟩ = some (.string m4) := (cell_of_row _ _ _ _ _ _ HC3.out).trans rfl
                have c4 : wc.cell? ⟨w.heap.size + 1 + 1, 4, none⟩ = some (.slice m5 m6 m7) := (cell_of_row _ _ _ _ _ _ HC3.out).trans rfl
                have c5 : wc.cell? ⟨w.heap.size + 1 + 1, 5, none⟩ = some (.slice m8 m9 m10) := (cell_of_row _ _ _ _ _ _ HC3.out).trans rfl
                clear hge ho hXl hKe hk1 hk2 hrv hXc hgo hcall KWC hsw
                go_wp2_with (go_at_call 50; refine (HCALL.out).mono ?_; rintro e w8 ⟨r1, r2, r3, r4, r5, r6, r7, r8, r9, r10, rfl, hgp, hx8⟩; have HGP := Lib.hid hgp; have HX8 := Lib.hid hx8; have hC8 := (hx8.block (w.heap.size + 1 + 1) (by have := HSW.out; omega)).trans HC3.out; have hZ8 := (hx8.block (w.heap.size + 1) (by have := HSW.out; omega)).trans HZ3.out; obtain ⟨⟨p0, p1, p2⟩, ⟨p3, p4, p5⟩, ⟨p6, p7, p8⟩, ⟨p9, p10, p11⟩, ⟨p12, p13, p14⟩, ⟨p15, p16, p17⟩⟩ := six_stores hC8 (.int .i64 r1) (.int .i64 r2) (.float .f64 r3) (.string r4) (.slice r5 r6 r7) (.slice r8 r9 r10); have hCs := setRow_heap w8 (w.heap.size + 1 + 1) _ #[.int .i64 r1, .int .i64 r2, .float .f64 r3, .string r4, .slice r5 r6 r7, .slice r8 r9 r10] 26 _ hC8; have hZs := (setRow_other w8 (w.heap.size + 1 + 1) (w.heap.size + 1) #[.int .i64 r1, .int .i64 r2, .float .f64 r3, .string r4, .slice r5 r6 r7, .slice r8 r9 r10] (by omega)).trans hZ8; obtain ⟨⟨g0, g1, g2⟩, ⟨g3, g4, g5⟩, ⟨g6, g7, g8⟩, ⟨g9, g10, g11⟩, ⟨g12, g13, g14⟩, ⟨g15, g16, g17⟩⟩ := six_stores hZs (.int .i64 r1) (.int .i64 r2) (.float .f64 r3) (.string r4) (.slice r5 r6 r7) (.slice r8 r9 r10); have e0 : (w8.setRow (w.heap.size + 1 + 1) #[.int .i64 r1, .int .i64 r2, .float .f64 r3, .string r4, .slice r5 r6 r7, .slice r8 r9 r10]).cell? ⟨w.heap.size + 1 + 1, 0, none⟩ = some (.int .i64 r1) := (cell_of_row _ _ _ _ _ _ hCs).trans rfl; have e1 : (w8.setRow (w.heap.size + 1 + 1) #[.int .i64 r1, .int .i64 r2, .float .f64 r3, .string r4, .slice r5 r6 r7, .slice r8 r9 r10]).cell? ⟨w.heap.size + 1 + 1, 1, none⟩ = some (.int .i64 r2) := (cell_of_row _ _ _ _ _ _ hCs).trans rfl; have e2 : (w8.setRow (w.heap.size + 1 + 1) #[.int .i64 r1, .int .i64 r2, .float .f64 r3, .string r4, .slice r5 r6 r7, .slice r8 r9 r10]).cell? ⟨w.heap.size + 1 + 1, 2, none⟩ = some (.float .f64 r3) := (cell_of_row _ _ _ _ _ _ hCs).trans rfl; have e3 : (w8.setRow (w.heap.size + 1 + 1) #[.int .i64 r1, .int .i64 r2, .float .f64 r3, .string r4, .slice r5 r6 r7, .slice r8 r9 r10]).cell? ⟨w.heap.size + 1 + 1, 3, none⟩ = some (.string r4) := (cell_of_row _ _ _ _ _ _ hCs).trans rfl; have e4 : (w8.setRow (w.heap.size + 1 + 1) #[.int .i64 r1, .int .i64 r2, .float .f64 r3, .string r4, .slice r5 r6 r7, .slice r8 r9 r10]).cell? ⟨w.heap.size + 1 + 1, 4, none⟩ = some (.slice r5 r6 r7) := (cell_of_row _ _ _ _ _ _ hCs).trans rfl; have e5 : (w8.setRow (w.heap.size + 1 + 1) #[.int .i64 r1, .int .i64 r2, .float .f64 r3, .string r4, .slice r5 r6 r7, .slice r8 r9 r10]).cell? ⟨w.heap.size + 1 + 1, 5, none⟩ = some (.slice r8 r9 r10) := (cell_of_row _ _ _ _ _ _ hCs).trans rfl; have HC8 := Lib.hid hCs; have HZ8 := Lib.hid hZs; clear hgp hx8 hC8 hZ8 hCs hZs HCALL; generalize hbb : (growJ o K X).isSome = bb; have HBB := Lib.hid hbb; clear hbb; cases bb)
                · refine bodyPost_ret (results_row_tmp rfl _ _ (w.heap.size + 1) 26 _ _ _ rfl (setRow_heap _ _ _ _ _ _ HZ8.out) Try.underlying26 rfl (by kernel_rfl)) rfl ?_
                  exact ⟨r1, r2, r3, r4, r5, r6, r7, r8, r9, r10, false, rfl, fun h => (by cases h), below_setRow (below_setRow (Ext.trans (Ext.trans HX.out HXW.out) HX8.out) (g := w.heap.size + 1 + 1) (by omega) _) (g := w.heap.size + 1) (by omega) _⟩
                · go_roundw
                  case rel => exact ⟨m + 1, r1, r2, r3, r4, r5, r6, r7, r8, r9, r10, by omega, by go_num, below_setRow (Ext.trans (Ext.trans HX.out HXW.out) HX8.out) (g := w.heap.size + 1 + 1) (by omega) _, by rw [setRow_size]; exact Nat.le_trans HSW.out HX8.out.size, (setRow_other _ _ _ _ (by omega)).trans ((HX8.out.block w.heap.size (by have := HSW.out; omega)).trans HA3.out), HZ8.out, HC8.out, tr_next (gO := w.heap.size + 1 + 1) HGE.out HO.out HKM.out HLM.out HKWC.out HX8.out (by omega) HSW.out (fun k hk => setRow_other _ _ _ _ hk) (setRow_size _ _ _) HKE.out HXL.out HBB.out HGP.out⟩
                  case measure => simp [intOf]; omega
        
    · have hmm : m = ks.length := by omega
      subst hmm
      have c0 : wr.cell? ⟨w.heap.size + 1 + 1, 0, none⟩ = some (.int .i64 m1) := (cell_of_row _ _ _ _ _ _ HC.out).trans rfl
      have c1 : wr.cell? ⟨w.heap.size + 1 + 1, 1, none⟩ = some (.int .i64 m2) := (cell_of_row _ _ _ _ _ _ HC.out).trans rfl
      have c2 : wr.cell? ⟨w.heap.size + 1 + 1, 2, none⟩ = some (.float .f64 m3) := (cell_of_row _ _ _ _ _ _ HC.out).trans rfl
      have c3 : wr.cell? ⟨w.heap.size + 1 + 1, 3, none⟩ = some (.string m4) := (cell_of_row _ _ _ _ _ _ HC.out).trans rfl
      have c4 : wr.cell? ⟨w.heap.size + 1 + 1, 4, none⟩ = some (.slice m5 m6 m7) := (cell_of_row _ _ _ _ _ _ HC.out).trans rfl
      have c5 : wr.cell? ⟨w.heap.size + 1 + 1, 5, none⟩ = some (.slice m8 m9 m10) := (cell_of_row _ _ _ _ _ _ HC.out).trans rfl
      obtain ⟨⟨p0, p1, p2⟩, ⟨p3, p4, p5⟩, ⟨p6, p7, p8⟩, ⟨p9, p10, p11⟩, ⟨p12, p13, p14⟩, ⟨p15, p16, p17⟩⟩ := six_stores HZ.out (.int .i64 m1) (.int .i64 m2) (.float .f64 m3) (.string m4) (.slice m5 m6 m7) (.slice m8 m9 m10)
      have hne1 : w.heap.size + 1 + 1 ≠ w.heap.size + 1 := by omega
      have hne2 : w.heap.size ≠ w.heap.size + 1 := by omega
      go_wp2_with fail
      go_region_held3 (fun w' => w'.cell? ⟨w.heap.size + 1 + 1, 0, none⟩ = some (.int .i64 m1) ∧ w'.cell? ⟨w.heap.size + 1 + 1, 1, none⟩ = some (.int .i64 m2) ∧ w'.cell? ⟨w.heap.size + 1 + 1, 2, none⟩ = some (.float .f64 m3) ∧ w'.cell? ⟨w.heap.size + 1 + 1, 3, none⟩ = some (.string m4) ∧ w'.cell? ⟨w.heap.size + 1 + 1, 4, none⟩ = some (.slice m5 m6 m7) ∧ w'.cell? ⟨w.heap.size + 1 + 1, 5, none⟩ = some (.slice m8 m9 m10) ∧ w'.cell? ⟨w.heap.size, 4, none⟩ = some (.slice al ks.length lc))
        (first
          | (go_split_ands
             exact ⟨(cell_setRow_other _ _ _ _ hne1).trans c0, (cell_setRow_other _ _ _ _ hne1).trans c1, (cell_setRow_other _ _ _ _ hne1).trans c2, (cell_setRow_other _ _ _ _ hne1).trans c3, (cell_setRow_other _ _ _ _ hne1).trans c4, (cell_setRow_other _ _ _ _ hne1).trans c5, (cell_setRow_other _ _ _ _ hne2).trans r4⟩)
          | go_keep)
        (first
          | fail)
      go_wp2_with fail
      refine bodyPost_ret (results_row_tmp rfl _ _ (w.heap.size + 1) 26 _ _ _ rfl (setRow_heap _ _ _ _ _ _ HZ.out) Try.underlying26 rfl (by kernel_rfl)) rfl ?_
      have bF := below_setRow HX.out (g := w.heap.size + 1) (by omega) #[.int .i64 m1, .int .i64 m2, .float .f64 m3, .string m4, .slice m5 m6 m7, .slice m8 m9 m10]
      refine ⟨m1, m2, m3, m4, m5, m6, m7, m8, m9, m10, _, rfl, fun hb => ?_, Ext.drew bF⟩
      have h0 : 0 < ks.length := by simpa using hb
      obtain ⟨hge, o, ho, hn9, hs9⟩ := HST.out
      rw [← HKLL.out] at hge ho
      refine ⟨hge.good HNDP.out HKL.out (by have := HKLL.out; omega), ?_⟩
      cases o with
      | none =>
        obtain ⟨q, x, hq⟩ := (hge.good HNDP.out HKL.out (by have := HKLL.out; omega)).one
        exact absurd ((EP.full q x).2 hq) (ho q x)
      | some T =>
        refine ⟨T, TreeOf.congr ho EP.full, fun w2 q1 q2 => (hs9 T rfl).2 w2 q1 fun k h1 h2 => ?_⟩
        exact (q2 k (by omega) (by simpa using h2)).trans (setRow_other _ _ _ _ (by omega))
theorem treeOf_all (hgr : ∀ K, GrAt K) : ∀ n, TrAt n
  | 0 => fun ks l h => by have := (J.obj ks l).nodes_pos; omega
  | n + 1 => treeOf_step hgr n (treeOf_all hgr n)
end Go.Proofs.Ytikpedfggbibpaa
