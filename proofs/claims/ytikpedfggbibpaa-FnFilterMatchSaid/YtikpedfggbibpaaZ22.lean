/- Walks: without. -/
import Derived.Test.YtikpedfggbibpaaZ21
import Derived.Deep.CutRange
namespace Go.Proofs.Ytikpedfggbibpaa
open Go.RowKit Go.Lib
set_option linter.unusedVariables false
set_option linter.unusedSimpArgs false

theorem clone_es (b o lc n : Nat) (es : List V6) (w : World) (hn : es.length = n) (h88 : n * 88 ≤ reachN) (hc : ∀ j u, (es.flatMap V6.cells)[j]? = some u → w.cell? ⟨b, o + j, none⟩ = some u) (h1 : ∀ u ∈ es.flatMap V6.cells, u.oneCell' = true) :
    Calls Try.prog 43 #[.slice (some ⟨b, o, none⟩) n lc] w fun e w' => ∃ v', e = .returned v' ∧ w'.ownsRow w.heap.size 26 6 v' n (es.flatMap V6.cells) ∧ v' ≠ .slice none 0 0 ∧ Ext w w' := by
  unfold reachN at h88
  obtain ⟨i0, hi, hz0, hz1, hz2⟩ := info_parts Try.infoVal
  have z23 : ∀ w, (Go.sizeOf 26).run Try.prog w = .ok 6 w := fun w => by kernel_rfl
  exact AnyE.slices_Clone Try.laysCloneV i0 zVal 6 88 hi hz0 hz1 hz2 rfl (by decide) z23 b o n lc _ w (by rw [six_len, hn]) (by simp [maxLen]; omega) (by omega) hc h1

theorem two_stores {w : World} {b : Nat} {t : TypeId} {z0 z1 z2 z3 z4 z5 : Value} (hg : w.heap[b]? = some (.cells #[z0, z1, z2, z3, z4, z5] t (0, 0))) (v4 v5 : Value) :
    (w.cell? ⟨b, 4, none⟩ = some z4 ∧ w.frozen? ⟨b, 4, none⟩ = false ∧ w.setCell ⟨b, 4, none⟩ v4 = w.setRow b #[z0, z1, z2, z3, v4, z5]) ∧
    ((w.setRow b #[z0, z1, z2, z3, v4, z5]).cell? ⟨b, 5, none⟩ = some z5 ∧ (w.setRow b #[z0, z1, z2, z3, v4, z5]).frozen? ⟨b, 5, none⟩ = false ∧ (w.setRow b #[z0, z1, z2, z3, v4, z5]).setCell ⟨b, 5, none⟩ v5 = w.setRow b #[z0, z1, z2, z3, v4, v5]) := by
  refine ⟨⟨?_, frozen_of_row _ _ _ _ _ hg, setCell_eq_setRow w b 4 _ t (0, 0) v4 hg⟩, (cell_setRow_same w b 5 _ _ t _ hg).trans rfl, frozen_of_row _ _ _ _ _ (setRow_heap w b _ _ t _ hg), (setCell_eq_setRow (w.setRow b _) b 5 _ t (0, 0) v5 (setRow_heap w b _ _ t _ hg)).trans (setRow_setRow w b _ _)⟩
  rw [cell_of_row _ _ _ _ _ _ hg]
  rfl
theorem grownBy_setRow (w : World) (g : Nat) (cs : Array Value) : w.grownBy (w.setRow g cs) (some g) := ⟨rfl, rfl, rfl, by simp, fun k hk hne => setRow_other _ _ _ _ (fun e => hne (by rw [e]))⟩

theorem heaps3 (w : World) (A Z C : Obj) : (((w.alloc A).alloc Z).alloc C).heap[w.heap.size]? = some A ∧ (((w.alloc A).alloc Z).alloc C).heap[w.heap.size + 1]? = some Z ∧ (((w.alloc A).alloc Z).alloc C).heap[w.heap.size + 1 + 1]? = some C := by
  refine ⟨?_, ?_, ?_⟩
  · rw [heap_alloc_old _ _ (by simp; omega), heap_alloc_old _ _ (by simp)]
    exact heap_alloc_new w A
  · rw [heap_alloc_old _ _ (by simp)]
    have := heap_alloc_new (w.alloc A) Z
    rw [World.size_alloc] at this
    exact this
  · have := heap_alloc_new ((w.alloc A).alloc Z) C
    simp only [World.size_alloc] at this
    exact this

theorem ownsRow_lift {w : World} {base base' e size n g cap : Nat} {xs : List Value} (h : w.ownsRow base e size (.slice (some ⟨g, 0, none⟩) n cap) n xs) (hg : base' ≤ g) : w.ownsRow base' e size (.slice (some ⟨g, 0, none⟩) n cap) n xs := by
  refine ⟨h.1, ?_⟩
  rcases h.2 with ⟨h2, _⟩ | ⟨g1, cap1, cur1, h2, _, rest⟩
  · cases h2
  · simp only [Value.slice.injEq, Option.some.injEq, Addr.mk.injEq, and_true, true_and] at h2
    obtain ⟨rfl, rfl⟩ := h2
    exact Or.inr ⟨g, cap, cur1, rfl, hg, rest⟩

theorem RowAt.kept {w w' : World} {g len : Nat} {xs : List Value} {row : Option Nat} (h : RowAt w g len xs) (hg : w.grownBy w' row) (hlt : g < w.heap.size) (hne : some g ≠ row) : RowAt w' g len xs := by
  have e := hg.block g hlt hne
  refine ⟨fun j u hu => ?_, fun j hj => ?_, fun j => ?_⟩
  · rw [World.cell?_of_block (a := ⟨g, j, none⟩) e]; exact h.cells j u hu
  · rw [World.cell?_of_block (a := ⟨g, j, none⟩) e]; exact h.there j hj
  · rw [World.frozen?_of_block (a := ⟨g, j, none⟩) e]; exact h.free j

theorem ofJs_erase : ∀ (l : List J) (q : Nat), V.ofJs (l.eraseIdx q) = (V.ofJs l).eraseIdx q
  | [], _ => by simp [V.ofJs]
  | x :: xs, 0 => by simp [V.ofJs]
  | x :: xs, q + 1 => by simp [V.ofJs, ofJs_erase xs q]
theorem flat_erase : ∀ (es : List V6) (q : Nat), (es.eraseIdx q).flatMap V6.cells = (es.flatMap V6.cells).take (q * 6) ++ (es.flatMap V6.cells).drop (q * 6 + 6)
  | [], _ => by simp
  | e :: es, 0 => by
    rw [List.eraseIdx_cons_zero, List.flatMap_cons]
    have hl : e.cells.length = 6 := rfl
    simp [List.drop_append, hl, List.drop_of_length_le]
  | e :: es, q + 1 => by
    have hl : e.cells.length = 6 := rfl
    rw [List.eraseIdx_cons_succ, List.flatMap_cons, List.flatMap_cons, flat_erase es q, show (q + 1) * 6 = e.cells.length + q * 6 from by omega, show e.cells.length + q * 6 + 6 = e.cells.length + (q * 6 + 6) from by omega, List.take_length_add_append, List.drop_length_add_append, List.append_assoc]

/-- what without leaves: a value that lies in what its argument (read in w0) lies in, and in blocks that are new (since w) -/
def WoPost (x : J) (w0 w : World) (e : Ending) (w' : World) : Prop := ∃ v', e = .returned v' ∧ (∀ w'', Keep w0 w'' → KeepF w.heap.size w' w'' → RV w'' (V.ofJ x) v') ∧ Ext w w'

theorem esOne {w : World} {l : List V} {es : List V6} (h1 : es.length = l.length) (h2 : ∀ i, (h : i < l.length) → (h' : i < es.length) → RV w l[i] es[i].val) : ∀ u ∈ es.flatMap V6.cells, u.oneCell' = true := fun u hu => by
  obtain ⟨f, hf, hu'⟩ := List.mem_flatMap.1 hu
  obtain ⟨i, hi', hfe⟩ := List.mem_iff_getElem.1 hf
  have := h2 i (by omega) hi'
  rw [hfe] at this
  exact six_one this u hu'

set_option maxRecDepth 20000 in
set_option maxHeartbeats 4000000 in
theorem without_last (ks : List ByteArray) (l : List J) (s : ByteArray) (q : Nat) (hsm : l.length ≤ 1000) (hkl : ks.length = l.length) (hnd : ks.Nodup) (hkid : J.kid (.obj ks l) (.child s) q) (f : Fr) (b o c : Nat) (v : Value) (w0 w : World) (hK : Keep w0 w) (h : RV w0 (V.ofJ (.obj ks l)) v) (hf : FAt w b o f) (hok : FrOk w (.child s) f) :
    Calls Try.prog 12 #[v, .slice (some ⟨b, o, none⟩) 1 c, .bool true] w (WoPost (.obj (ks.eraseIdx q) (l.eraseIdx q)) w0 w) := by
  unfold V.ofJ RV at h
  obtain ⟨al, lc, ak, kc, rfl, z, hl, hk⟩ := h
  obtain ⟨hkq, hq⟩ := hkid
  obtain ⟨fk, fs, fa, fl, fc⟩ := f
  obtain ⟨h1, h2⟩ := hok
  simp only at h1 h2
  subst h1 h2
  have hks16 : ks.length * 16 ≤ reachN := by have := z.hkl; have := z.hkc; omega
  have hksl : ks.length ≤ reachN := by omega
  have hl88 : l.length * 88 ≤ reachN := by have := z.hlc; rw [V.ofJs_length] at this; exact this
  obtain ⟨bb, oo, rfl, hrow⟩ := hl (by intro e; have := congrArg List.length e; rw [V.ofJs_length] at this; simp at this; rw [this] at hq; simp at hq)
  obtain ⟨es, es1, es2, es3⟩ := rvs_es hrow
  have eone := esOne es1 es2
  replace es3 := fun j u hu => hK _ _ (es3 j u hu)
  replace hk := hk.keep hK
  rw [V.ofJs_length] at es1
  have lt1 := lt_of_cell hf.h0
  have f0 := hf.h0
  have f1 := hf.h1
  simp only at lt1 f0 f1
  rw [V.ofJs_length]
  have HU : Hid (∀ w1, Keep w w1 → Calls Try.prog 41 #[.slice (some ⟨b, o, none⟩) 1 c] w1 fun e w' => e = .returned (.slice (some ⟨b, o, none⟩) 1 c) ∧ w' = w1) := fun w1 hk1 =>
    unrooted_any _ 1 c w1 (by unfold reachN; omega) (fun _ => ⟨b, o, 3, rfl, hk1 _ _ hf.h0, by decide, by decide⟩)
  have HI : Hid (∀ w1, Keep w w1 → Calls Try.prog 42 #[.slice ak ks.length kc, .string fs] w1 fun e w' => e = .returned (.int .i64 (q : Int)) ∧ w' = w1) := fun w1 hk1 => by
    have := index_strs ak kc ks fs w1 (hk.keep hk1) hksl
    rw [idx_nodup hkq hnd] at this
    exact this
  have HCV : Hid (∀ w1, Keep w w1 → Calls Try.prog 43 #[.slice (some ⟨bb, oo, none⟩) l.length lc] w1 fun e w' => ∃ v', e = .returned v' ∧ w'.ownsRow w1.heap.size 26 6 v' l.length (es.flatMap V6.cells) ∧ v' ≠ .slice none 0 0 ∧ Ext w1 w') := fun w1 hk1 =>
    clone_es bb oo lc l.length es w1 es1 hl88 (fun j u hu => hk1 _ _ (es3 j u hu)) eone
  have HCK : Hid (∀ w1, Keep w w1 → Calls Try.prog 44 #[.slice ak ks.length kc] w1 fun e w' => ∃ v', e = .returned v' ∧ OwnStrs w' w1.heap.size v' ks ∧ Ext w1 w') := fun w1 hk1 => clone_strs ak kc ks w1 (hk.keep hk1) hks16
  have HZK := Lib.hid z.hks
  have HES := Lib.hid es2
  have HES1 := Lib.hid es1
  have HEO := Lib.hid eone
  have HQ : Hid (q < l.length) := hq
  have KK : ∀ (A B : Obj), Keep w ((w.alloc A).alloc B) := fun A B => (Keep.alloc _ _).trans (Keep.alloc _ _)
  have HKL : Hid (ks.length = l.length) := hkl
  clear hkl hq
  clear hf hl hk z hkq hksl hnd es3 es2 eone hrow es1 hks16 hl88 hK
  go_enter Try.func12, Try.ntmps12
  go_wp2_with (go_at_call 41; refine (HU.out _ (KK _ _)).mono ?_; rintro e w' ⟨rfl, rfl⟩)
  go_region_held3 (fun w' => w'.cell? ⟨w.heap.size, 5, none⟩ = some (.slice ak ks.length kc) ∧ w'.cell? ⟨b, o, none⟩ = some (.int .i64 3) ∧ w'.cell? ⟨b, o + 1, none⟩ = some (.string fs))
    (first
      | go_keep)
    (first
      | (go_at_call 42; refine (HI.out _ (by first | exact KK _ _ | exact (KK _ _).trans (Keep.drew _))).mono ?_; rintro e w5 ⟨rfl, rfl⟩))
  go_wp2_with fail
  have X7 : Hid (Ext w (((w.alloc (.cells #[.int .i64 8, .int .i64 0, .float .f64 0, .string ByteArray.empty, .slice (some ⟨bb, oo, none⟩) l.length lc, .slice ak ks.length kc] 26)).alloc (.cells #[.int .i64 0, .int .i64 0, .float .f64 0, .string ByteArray.empty, .slice none 0 0, .slice none 0 0] 26)).alloc
      (.cells #[.int .i64 8, .int .i64 0, .float .f64 0, .string ByteArray.empty, .slice (some ⟨bb, oo, none⟩) l.length lc, .slice ak ks.length kc] 26)).drew) := Ext.drew ((((Ext.refl w).alloc _).alloc _).alloc _)
  have hneA : w.heap.size ≠ w.heap.size + 1 + 1 := by omega
  go_cut [] from 9 to 85 (fun wx => ∃ (gL cL gK cK : Nat), Ext w wx ∧ wx.heap[w.heap.size]? = some (.cells #[.int .i64 8, .int .i64 0, .float .f64 0, .string ByteArray.empty, .slice (some ⟨bb, oo, none⟩) l.length lc, .slice ak ks.length kc] 26 (0, 0)) ∧
      wx.heap[w.heap.size + 1]? = some (.cells #[.int .i64 0, .int .i64 0, .float .f64 0, .string ByteArray.empty, .slice none 0 0, .slice none 0 0] 26 (0, 0)) ∧
      wx.heap[w.heap.size + 1 + 1]? = some (.cells #[.int .i64 8, .int .i64 0, .float .f64 0, .string ByteArray.empty, .slice (some ⟨gL, 0, none⟩) l.length cL, .slice (some ⟨gK, 0, none⟩) ks.length cK] 26 (0, 0)) ∧
      wx.ownsRow (w.heap.size + 3) 26 6 (.slice (some ⟨gL, 0, none⟩) l.length cL) l.length (es.flatMap V6.cells) ∧ wx.ownsRow (w.heap.size + 3) 9 1 (.slice (some ⟨gK, 0, none⟩) ks.length cK) ks.length (ks.map Value.string))
  case first =>
    go_region_held3 (fun w' => w'.cell? ⟨w.heap.size, 4, none⟩ = some (.slice (some ⟨bb, oo, none⟩) l.length lc) ∧ w'.cell? ⟨w.heap.size, 5, none⟩ = some (.slice ak ks.length kc))
      (first
        | (go_split_ands
           exact ⟨hk5 _ _ (by assumption), hk5 _ _ (by assumption)⟩)
        | (go_split_ands
           exact ⟨hk6 _ _ (by assumption), hk6 _ _ (by assumption)⟩)
        | (go_split_ands
           exact ⟨(cell_setRow_other _ _ _ _ hneA).trans r4, (cell_setRow_other _ _ _ _ hneA).trans r5⟩)
        | go_keep)
      (first
        | (go_at_call 43; refine (HCV.out _ (by first | exact X7.out.keep | exact (Ext.drew X7.out).keep)).mono ?_; rintro e w5 ⟨vL, rfl, hoL, hnL, hx5⟩
           have hk5 := hx5.keep
           have HOL := Lib.hid hoL
           have HNL := Lib.hid hnL
           have X5 : Hid (Ext _ w5) := hx5
           clear hoL hnL hx5)
        | (go_at_call 44; refine (HCK.out _ (by first | exact (X7.out.trans X5.out).keep | exact ((Ext.drew X7.out).trans X5.out).keep)).mono ?_; rintro e w6 ⟨vK, rfl, hoK, hx6⟩
           have hk6 := hx6.keep
           have X6 := Lib.hid (Ext.trans X5.out hx6)
           have hL9 : ∃ gL cL, vL = .slice (some ⟨gL, 0, none⟩) l.length cL ∧ w.heap.size + 3 ≤ gL := by
             rcases HOL.out.2 with ⟨h, _⟩ | ⟨g, cap, cur, h, hb, _⟩
             · exact absurd h HNL.out
             · exact ⟨g, cap, h, by simp at hb; omega⟩
           obtain ⟨gL, cL, rfl, hgL⟩ := hL9
           have hK9 : ∃ gK cK, vK = .slice (some ⟨gK, 0, none⟩) ks.length cK ∧ w.heap.size + 3 ≤ gK := by
             unfold OwnStrs at hoK
             rcases hoK.2 with ⟨_, h⟩ | ⟨g, cap, cur, h, hb, _⟩
             · have := HKL.out; have := HQ.out; omega
             · exact ⟨g, cap, h, by have := X5.out.size; simp at this; omega⟩
           obtain ⟨gK, cK, rfl, hgK⟩ := hK9
           have h3 := heaps3 w (.cells #[.int .i64 8, .int .i64 0, .float .f64 0, .string ByteArray.empty, .slice (some ⟨bb, oo, none⟩) l.length lc, .slice ak ks.length kc] 26) (.cells #[.int .i64 0, .int .i64 0, .float .f64 0, .string ByteArray.empty, .slice none 0 0, .slice none 0 0] 26) (.cells #[.int .i64 8, .int .i64 0, .float .f64 0, .string ByteArray.empty, .slice (some ⟨bb, oo, none⟩) l.length lc, .slice ak ks.length kc] 26)
           have hA6 := (X6.out.block w.heap.size (by simp; omega)).trans h3.1
           have hZ6 := (X6.out.block (w.heap.size + 1) (by simp)).trans h3.2.1
           have hC6 := (X6.out.block (w.heap.size + 1 + 1) (by simp)).trans h3.2.2
           have r4 : w6.cell? ⟨w.heap.size, 4, none⟩ = some (.slice (some ⟨bb, oo, none⟩) l.length lc) := (cell_of_row _ _ _ _ _ _ hA6).trans rfl
           have r5 : w6.cell? ⟨w.heap.size, 5, none⟩ = some (.slice ak ks.length kc) := (cell_of_row _ _ _ _ _ _ hA6).trans rfl
           obtain ⟨⟨x4, y4, t4⟩, ⟨x5, y5, t5⟩⟩ := two_stores hC6 (.slice (some ⟨gL, 0, none⟩) l.length cL) (.slice (some ⟨gK, 0, none⟩) ks.length cK)
           have HA6 := Lib.hid hA6
           have HZ6 := Lib.hid hZ6
           have HC6 := Lib.hid hC6
           have HOK := Lib.hid hoK
           have HX6 := Lib.hid hx6
           have HGL := Lib.hid hgL
           have HGK := Lib.hid hgK
           clear hA6 hZ6 hC6 hoK hx6 h3 hgL hgK))
    go_wp2_with fail
    go_meet
    have XF : Ext w (w6.setRow (w.heap.size + 1 + 1) #[.int .i64 8, .int .i64 0, .float .f64 0, .string ByteArray.empty, .slice (some ⟨gL, 0, none⟩) l.length cL, .slice (some ⟨gK, 0, none⟩) ks.length cK]) := below_setRow ((Ext.drew X7.out).trans X6.out) (by omega) _
    have nA : w.heap.size ≠ w.heap.size + 1 + 1 := by omega
    have nZ : w.heap.size + 1 ≠ w.heap.size + 1 + 1 := by omega
    have nL := HGL.out
    have nK := HGK.out
    refine ⟨gL, cL, gK, cK, XF, (setRow_other _ _ _ _ nA).trans HA6.out, (setRow_other _ _ _ _ nZ).trans HZ6.out, setRow_heap _ _ _ _ _ _ HC6.out, ?_, ?_⟩
    · exact ((ownsRow_lift (ownsRow_ext HOL.out HX6.out) nL).kept (grownBy_setRow _ _ _) (Or.inr (by simp [Value.ownBlock]; omega)))
    · exact ((ownsRow_lift HOK.out nK).kept (grownBy_setRow _ _ _) (Or.inr (by simp [Value.ownBlock]; omega)))
  case rest =>
    obtain ⟨gL, cL, gK, cK, hx, hA, hZ, hC, hoL, hoK⟩ := hcut
    obtain ⟨hRL, hnL, hmL⟩ := RowAt.of_own hoL
    obtain ⟨hRK, hnK, hmK⟩ := RowAt.of_own hoK
    have gL0 := hoL.lt gL rfl
    have gK0 := hoK.lt gK rfl
    have hne9 : gL ≠ gK := by
      have := other_row hoL hoK (by decide) gL rfl
      exact this
    obtain ⟨r, hr⟩ : ∃ r, l.length = q + 1 + r := ⟨l.length - (q + 1), by have := HQ.out; omega⟩
    have hrk : ks.length = q + 1 + r := by rw [HKL.out]; exact hr
    have HDL : Hid (∀ w1, RowAt w1 gL (cL * 6) (es.flatMap V6.cells) → Calls Try.prog 45 #[.slice (some ⟨gL, 0, none⟩) l.length cL, .int .i64 q, .int .i64 (q + 1)] w1 (DelPost gL cL (q + r) 6 (es.flatMap V6.cells) q w1)) := fun w1 hR => by
      rw [hr]
      exact delete_vals gL cL q r _ w1 hR (by rw [six_len, HES1.out, hr]) HEO.out (by omega) hmL
    have HDK : Hid (∀ w1, RowAt w1 gK (cK * 1) (ks.map Value.string) → Calls Try.prog 46 #[.slice (some ⟨gK, 0, none⟩) ks.length cK, .int .i64 q, .int .i64 (q + 1)] w1 (DelPost gK cK (q + r) 1 (ks.map Value.string) q w1)) := fun w1 hR => by
      rw [hrk]
      exact delete_strs gK cK q r _ w1 hR (by simp [hrk]) (by intro u hu; obtain ⟨x, _, rfl⟩ := List.mem_map.1 hu; rfl) (by omega) hmK
    have HRR : Hid (l.length = q + 1 + r) := hr
    have HRRK : Hid (ks.length = q + 1 + r) := hrk
    have a0 : wc.cell? ⟨w.heap.size, 0, none⟩ = some (.int .i64 8) := (cell_of_row _ _ _ _ _ _ hA).trans rfl
    have c4 : wc.cell? ⟨w.heap.size + 1 + 1, 4, none⟩ = some (.slice (some ⟨gL, 0, none⟩) l.length cL) := (cell_of_row _ _ _ _ _ _ hC).trans rfl
    have HA := Lib.hid hA
    have HZ := Lib.hid hZ
    have HC := Lib.hid hC
    have HX := Lib.hid hx
    have HRL := Lib.hid hRL
    have HRK := Lib.hid hRK
    have HNL : Hid (l.length ≤ cL) := hnL
    have HNK : Hid (ks.length ≤ cK) := hnK
    have hls : w.heap.size < wc.heap.size := (Array.getElem?_eq_some_iff.1 hA).1
    have hls1 : w.heap.size + 1 < wc.heap.size := (Array.getElem?_eq_some_iff.1 hZ).1
    have hls2 : w.heap.size + 1 + 1 < wc.heap.size := (Array.getElem?_eq_some_iff.1 hC).1
    have HLS := Lib.hid (And.intro hls (And.intro hls1 hls2))
    have wq : IntKind.i64.wrap ((q : Int) + 1) = (q : Int) + 1 := by
      have := HQ.out
      simp [IntKind.wrap, IntKind.bits, IntKind.signed]
      omega
    clear hA hZ hC hx hRL hRK hr hrk hnL hnK hmL hmK hoL hoK
    go_wp2_with (first
      | (go_at_call 45; refine (HDL.out _ HRL.out).mono ?_; rintro e w8 ⟨rfl, hc8, hg8⟩
         have hA8 := (hg8.block w.heap.size hls (by simp; omega)).trans HA.out
         have hZ8 := (hg8.block (w.heap.size + 1) hls1 (by simp; omega)).trans HZ.out
         have hC8 := (hg8.block (w.heap.size + 1 + 1) hls2 (by simp; omega)).trans HC.out
         obtain ⟨⟨x4, y4, t4⟩, _⟩ := two_stores hC8 (.slice (some ⟨gL, 0, none⟩) (q + r) cL) (.int .i64 0)
         have a0W : (w8.setRow (w.heap.size + 1 + 1) #[.int .i64 8, .int .i64 0, .float .f64 0, .string ByteArray.empty, .slice (some ⟨gL, 0, none⟩) (q + r) cL, .slice (some ⟨gK, 0, none⟩) ks.length cK]).cell? ⟨w.heap.size, 0, none⟩ = some (.int .i64 8) := (cell_setRow_other _ _ _ _ (by show w.heap.size ≠ _; omega)).trans ((cell_of_row _ _ _ _ _ _ hA8).trans rfl)
         have k5W : (w8.setRow (w.heap.size + 1 + 1) #[.int .i64 8, .int .i64 0, .float .f64 0, .string ByteArray.empty, .slice (some ⟨gL, 0, none⟩) (q + r) cL, .slice (some ⟨gK, 0, none⟩) ks.length cK]).cell? ⟨w.heap.size + 1 + 1, 5, none⟩ = some (.slice (some ⟨gK, 0, none⟩) ks.length cK) := (cell_setRow_same _ _ _ _ _ _ _ hC8).trans rfl
         have HA8 := Lib.hid hA8
         have HZ8 := Lib.hid hZ8
         have HC8 := Lib.hid hC8
         have HG8 := Lib.hid hg8
         have HCC8 := Lib.hid hc8
         clear hA8 hZ8 hC8 hg8 hc8)
      | (go_at_call 46
         have hRK8 : RowAt (w8.setRow (w.heap.size + 1 + 1) #[.int .i64 8, .int .i64 0, .float .f64 0, .string ByteArray.empty, .slice (some ⟨gL, 0, none⟩) (q + r) cL, .slice (some ⟨gK, 0, none⟩) ks.length cK]) gK (cK * 1) (ks.map Value.string) := (HRK.out.kept HG8.out (gK0.2) (by simp; omega)).kept (grownBy_setRow _ _ _) (Nat.lt_of_lt_of_le gK0.2 HG8.out.size) (by simp; omega)
         refine (HDK.out _ hRK8).mono ?_
         rintro e w9 ⟨rfl, hc9, hg9⟩
         have hB8 := setRow_heap w8 (w.heap.size + 1 + 1) _ #[.int .i64 8, .int .i64 0, .float .f64 0, .string ByteArray.empty, .slice (some ⟨gL, 0, none⟩) (q + r) cL, .slice (some ⟨gK, 0, none⟩) ks.length cK] _ _ HC8.out
         have hA9 := (hg9.block w.heap.size (by rw [setRow_size]; exact Nat.lt_of_lt_of_le HLS.out.1 HG8.out.size) (by simp; omega)).trans ((setRow_other w8 _ w.heap.size #[.int .i64 8, .int .i64 0, .float .f64 0, .string ByteArray.empty, .slice (some ⟨gL, 0, none⟩) (q + r) cL, .slice (some ⟨gK, 0, none⟩) ks.length cK] (by omega)).trans HA8.out)
         have hZ9 := (hg9.block (w.heap.size + 1) (by rw [setRow_size]; exact Nat.lt_of_lt_of_le HLS.out.2.1 HG8.out.size) (by simp; omega)).trans ((setRow_other w8 _ (w.heap.size + 1) #[.int .i64 8, .int .i64 0, .float .f64 0, .string ByteArray.empty, .slice (some ⟨gL, 0, none⟩) (q + r) cL, .slice (some ⟨gK, 0, none⟩) ks.length cK] (by omega)).trans HZ8.out)
         have hC9 := (hg9.block (w.heap.size + 1 + 1) (by rw [setRow_size]; exact Nat.lt_of_lt_of_le HLS.out.2.2 HG8.out.size) (by simp; omega)).trans hB8
         have x5 := (cell_of_row _ _ 5 _ _ _ hC9)
         simp only [List.getElem?_toArray, List.getElem?_cons_succ, List.getElem?_cons_zero] at x5
         have y5 := frozen_of_row w9 (w.heap.size + 1 + 1) 5 _ _ hC9
         have t5 : w9.setCell ⟨w.heap.size + 1 + 1, 5, none⟩ (.slice (some ⟨gK, 0, none⟩) (q + r) cK) = w9.setRow (w.heap.size + 1 + 1) #[.int .i64 8, .int .i64 0, .float .f64 0, .string ByteArray.empty, .slice (some ⟨gL, 0, none⟩) (q + r) cL, .slice (some ⟨gK, 0, none⟩) (q + r) cK] := setCell_eq_setRow w9 _ 5 _ _ _ _ hC9
         have hc := fun i => cell_setRow_same w9 (w.heap.size + 1 + 1) i _ #[.int .i64 8, .int .i64 0, .float .f64 0, .string ByteArray.empty, .slice (some ⟨gL, 0, none⟩) (q + r) cL, .slice (some ⟨gK, 0, none⟩) (q + r) cK] _ _ hC9
         have c0 : (w9.setRow (w.heap.size + 1 + 1) #[.int .i64 8, .int .i64 0, .float .f64 0, .string ByteArray.empty, .slice (some ⟨gL, 0, none⟩) (q + r) cL, .slice (some ⟨gK, 0, none⟩) (q + r) cK]).cell? ⟨w.heap.size + 1 + 1, 0, none⟩ = some (.int .i64 8) := hc 0
         have c1 : (w9.setRow (w.heap.size + 1 + 1) #[.int .i64 8, .int .i64 0, .float .f64 0, .string ByteArray.empty, .slice (some ⟨gL, 0, none⟩) (q + r) cL, .slice (some ⟨gK, 0, none⟩) (q + r) cK]).cell? ⟨w.heap.size + 1 + 1, 1, none⟩ = some (.int .i64 0) := hc 1
         have c2 : (w9.setRow (w.heap.size + 1 + 1) #[.int .i64 8, .int .i64 0, .float .f64 0, .string ByteArray.empty, .slice (some ⟨gL, 0, none⟩) (q + r) cL, .slice (some ⟨gK, 0, none⟩) (q + r) cK]).cell? ⟨w.heap.size + 1 + 1, 2, none⟩ = some (.float .f64 0) := hc 2
         have c3 : (w9.setRow (w.heap.size + 1 + 1) #[.int .i64 8, .int .i64 0, .float .f64 0, .string ByteArray.empty, .slice (some ⟨gL, 0, none⟩) (q + r) cL, .slice (some ⟨gK, 0, none⟩) (q + r) cK]).cell? ⟨w.heap.size + 1 + 1, 3, none⟩ = some (.string ByteArray.empty) := hc 3
         have c4' : (w9.setRow (w.heap.size + 1 + 1) #[.int .i64 8, .int .i64 0, .float .f64 0, .string ByteArray.empty, .slice (some ⟨gL, 0, none⟩) (q + r) cL, .slice (some ⟨gK, 0, none⟩) (q + r) cK]).cell? ⟨w.heap.size + 1 + 1, 4, none⟩ = some (.slice (some ⟨gL, 0, none⟩) (q + r) cL) := hc 4
         have c5' : (w9.setRow (w.heap.size + 1 + 1) #[.int .i64 8, .int .i64 0, .float .f64 0, .string ByteArray.empty, .slice (some ⟨gL, 0, none⟩) (q + r) cL, .slice (some ⟨gK, 0, none⟩) (q + r) cK]).cell? ⟨w.heap.size + 1 + 1, 5, none⟩ = some (.slice (some ⟨gK, 0, none⟩) (q + r) cK) := hc 5
         have hZW := (setRow_other w9 (w.heap.size + 1 + 1) (w.heap.size + 1) #[.int .i64 8, .int .i64 0, .float .f64 0, .string ByteArray.empty, .slice (some ⟨gL, 0, none⟩) (q + r) cL, .slice (some ⟨gK, 0, none⟩) (q + r) cK] (by omega)).trans hZ9
         obtain ⟨⟨p0, p1, p2⟩, ⟨p3, p4, p5⟩, ⟨p6, p7, p8⟩, ⟨p9, p10, p11⟩, ⟨p12, p13, p14⟩, ⟨p15, p16, p17⟩⟩ := six_stores hZW (.int .i64 8) (.int .i64 0) (.float .f64 0) (.string ByteArray.empty) (.slice (some ⟨gL, 0, none⟩) (q + r) cL) (.slice (some ⟨gK, 0, none⟩) (q + r) cK)
         have HZW := Lib.hid hZW
         have HG9 := Lib.hid hg9
         have HCC9 := Lib.hid hc9
         clear hc hRK8 hB8 hA9 hZ9 hC9 hZW hg9 hc9))
    refine bodyPost_ret (results_cell_row rfl _ _ (w.heap.size + 1) 26 _ _ _ rfl (setRow_heap _ _ _ _ _ _ HZW.out) Try.underlying26 rfl (by kernel_rfl)) rfl ?_
    have b8 : Ext w w8 := HX.out.grown HG8.out HX.out.size (fun k hk => by cases hk; omega)
    have b8r : Ext w (w8.setRow (w.heap.size + 1 + 1) #[.int .i64 8, .int .i64 0, .float .f64 0, .string ByteArray.empty, .slice (some ⟨gL, 0, none⟩) (q + r) cL, .slice (some ⟨gK, 0, none⟩) ks.length cK]) := below_setRow b8 (by omega) _
    have b9 : Ext w w9 := b8r.grown HG9.out b8r.size (fun k hk => by cases hk; omega)
    have b9r := below_setRow b9 (g := w.heap.size + 1 + 1) (by omega) #[.int .i64 8, .int .i64 0, .float .f64 0, .string ByteArray.empty, .slice (some ⟨gL, 0, none⟩) (q + r) cL, .slice (some ⟨gK, 0, none⟩) (q + r) cK]
    have bF := below_setRow b9r (g := w.heap.size + 1) (by omega) #[.int .i64 8, .int .i64 0, .float .f64 0, .string ByteArray.empty, .slice (some ⟨gL, 0, none⟩) (q + r) cL, .slice (some ⟨gK, 0, none⟩) (q + r) cK]
    have hrr := HRR.out
    have hrrk := HRRK.out
    have hlL : (V.ofJs (l.eraseIdx q)).length = q + r := by rw [V.ofJs_length, List.length_eraseIdx_of_lt HQ.out]; omega
    have hlK : (ks.eraseIdx q).length = q + r := by rw [List.length_eraseIdx_of_lt (by omega)]; omega
    refine ⟨_, rfl, fun w'' k1 k2 => ?_, bF⟩
    unfold V.ofJ RV
    refine ⟨some ⟨gL, 0, none⟩, cL, some ⟨gK, 0, none⟩, cK, by rw [hlL, hlK], ⟨rfl, rfl, rfl, by unfold reachN; decide, ?_, ?_, ?_, ?_, ?_⟩, fun _ => ⟨gL, 0, rfl, ?_⟩, fun _ => ⟨gK, 0, rfl, fun i hi => ?_⟩⟩
    · rw [hlL]; have := HNL.out; omega
    · rw [hlL]; unfold reachN; omega
    · rw [hlK]; have := HNK.out; omega
    · rw [hlK]; unfold reachN; omega
    · intro x hx
      exact HZK.out x (List.mem_of_mem_eraseIdx hx)
    · rw [ofJs_erase]
      refine rvs_of (es := es.eraseIdx q) ?_ (fun i h h' => ?_) (fun j u hu => ?_)
      · rw [List.length_eraseIdx_of_lt (by rw [HES1.out]; exact HQ.out), List.length_eraseIdx_of_lt (by rw [V.ofJs_length]; exact HQ.out), HES1.out, V.ofJs_length]
      · refine RV.keep k1 _ ?_
        rw [List.getElem_eraseIdx]
        simp only [List.getElem_eraseIdx]
        split
        · exact HES.out i _ _
        · exact HES.out (i + 1) _ _
      · rw [flat_erase] at hu
        have h8 := HCC8.out j u hu
        rw [Nat.zero_add]
        have s1 := (cell_setRow_other w8 (w.heap.size + 1 + 1) #[.int .i64 8, .int .i64 0, .float .f64 0, .string ByteArray.empty, .slice (some ⟨gL, 0, none⟩) (q + r) cL, .slice (some ⟨gK, 0, none⟩) ks.length cK] ⟨gL, j, none⟩ (by show gL ≠ _; omega)).trans h8
        have s2 := HG9.out.cell s1 (by simp; omega)
        have s3 := (cell_setRow_other w9 (w.heap.size + 1 + 1) #[.int .i64 8, .int .i64 0, .float .f64 0, .string ByteArray.empty, .slice (some ⟨gL, 0, none⟩) (q + r) cL, .slice (some ⟨gK, 0, none⟩) (q + r) cK] ⟨gL, j, none⟩ (by show gL ≠ _; omega)).trans s2
        exact k2.cell ((cell_setRow_other _ _ _ _ (by show gL ≠ _; omega)).trans s3) (by show w.heap.size ≤ gL; omega)
    · have e : (ks.map Value.string).take (q * 1) ++ (ks.map Value.string).drop (q * 1 + 1) = (ks.eraseIdx q).map Value.string := by
        rw [List.eraseIdx_eq_take_drop_succ, Nat.mul_one, List.map_append, List.map_take, List.map_drop]
      have h9 := HCC9.out
      rw [e] at h9
      have s2 := h9 i (.string (ks.eraseIdx q)[i]) (by rw [List.getElem?_map, List.getElem?_eq_getElem hi]; rfl)
      rw [Nat.zero_add]
      have s3 := (cell_setRow_other w9 (w.heap.size + 1 + 1) #[.int .i64 8, .int .i64 0, .float .f64 0, .string ByteArray.empty, .slice (some ⟨gL, 0, none⟩) (q + r) cL, .slice (some ⟨gK, 0, none⟩) (q + r) cK] ⟨gK, i, none⟩ (by show gK ≠ _; omega)).trans s2
      exact k2.cell ((cell_setRow_other _ _ _ _ (by show gK ≠ _; omega)).trans s3) (by show w.heap.size ≤ gK; omega)
end Go.Proofs.Ytikpedfggbibpaa
