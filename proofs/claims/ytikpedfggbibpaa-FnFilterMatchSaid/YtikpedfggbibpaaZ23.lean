/- Walks: without, with a tail. -/
import Derived.Test.YtikpedfggbibpaaZ22
namespace Go.Proofs.Ytikpedfggbibpaa
open Go.RowKit Go.Lib
set_option linter.unusedVariables false
set_option linter.unusedSimpArgs false

/-- what without does at a path of at most so many steps -/
def WithoutAt (n : Nat) : Prop := ∀ (p : List Step), p.length ≤ n → lastChild p → ∀ (j : J), j.ok → j.nodes ≤ 1000 → J.has p j → ∀ (b o c : Nat) (v : Value) (w0 w : World), Keep w0 w → RV w0 (V.ofJ j) v → p.length ≤ c →
    (∀ i, (h : i < p.length) → ∃ f, FAt w b (o + i * 13) f ∧ FrOk w p[i] f) → Calls Try.prog 12 #[v, .slice (some ⟨b, o, none⟩) p.length c, .bool true] w (WoPost (J.wo p j) w0 w)

/-- cells stored one behind another, by a name that no simp lays open -/
def putC (w : World) (g o : Nat) (vs : List Value) : World := w.setCells g o vs
theorem six_at {w : World} {g o : Nat} {u0 u1 u2 u3 u4 u5 : Value} (h0 : w.cell? ⟨g, o, none⟩ = some u0) (h1 : w.cell? ⟨g, o + 1, none⟩ = some u1) (h2 : w.cell? ⟨g, o + 2, none⟩ = some u2) (h3 : w.cell? ⟨g, o + 3, none⟩ = some u3) (h4 : w.cell? ⟨g, o + 4, none⟩ = some u4) (h5 : w.cell? ⟨g, o + 5, none⟩ = some u5)
    (hf : ∀ j, w.frozen? ⟨g, j, none⟩ = false) (v0 v1 v2 v3 v4 v5 : Value) :
    (w.frozen? ⟨g, o, none⟩ = false ∧ w.setCell ⟨g, o, none⟩ v0 = putC w g o [v0]) ∧
    ((putC w g o [v0]).cell? ⟨g, o + 1, none⟩ = some u1 ∧ (putC w g o [v0]).frozen? ⟨g, o + 1, none⟩ = false ∧ (putC w g o [v0]).setCell ⟨g, o + 1, none⟩ v1 = putC w g o [v0, v1]) ∧
    ((putC w g o [v0, v1]).cell? ⟨g, o + 2, none⟩ = some u2 ∧ (putC w g o [v0, v1]).frozen? ⟨g, o + 2, none⟩ = false ∧ (putC w g o [v0, v1]).setCell ⟨g, o + 2, none⟩ v2 = putC w g o [v0, v1, v2]) ∧
    ((putC w g o [v0, v1, v2]).cell? ⟨g, o + 3, none⟩ = some u3 ∧ (putC w g o [v0, v1, v2]).frozen? ⟨g, o + 3, none⟩ = false ∧ (putC w g o [v0, v1, v2]).setCell ⟨g, o + 3, none⟩ v3 = putC w g o [v0, v1, v2, v3]) ∧
    ((putC w g o [v0, v1, v2, v3]).cell? ⟨g, o + 4, none⟩ = some u4 ∧ (putC w g o [v0, v1, v2, v3]).frozen? ⟨g, o + 4, none⟩ = false ∧ (putC w g o [v0, v1, v2, v3]).setCell ⟨g, o + 4, none⟩ v4 = putC w g o [v0, v1, v2, v3, v4]) ∧
    ((putC w g o [v0, v1, v2, v3, v4]).cell? ⟨g, o + 5, none⟩ = some u5 ∧ (putC w g o [v0, v1, v2, v3, v4]).frozen? ⟨g, o + 5, none⟩ = false ∧ (putC w g o [v0, v1, v2, v3, v4]).setCell ⟨g, o + 5, none⟩ v5 = putC w g o [v0, v1, v2, v3, v4, v5]) := by
  have hc := fun (vs : List Value) (k : Nat) (hk : vs.length ≤ k) => World.cell?_setCells_out g vs o w ⟨g, o + k, none⟩ (fun _ _ => Or.inr (by show o + vs.length ≤ o + k; omega))
  have hz := fun (vs : List Value) (k : Nat) => World.frozen?_setCells g vs o w ⟨g, k, none⟩
  refine ⟨⟨hf _, rfl⟩, ⟨(hc [v0] 1 (by simp)).trans h1, (hz _ _).trans (hf _), rfl⟩, ⟨(hc [v0, v1] 2 (by simp)).trans h2, (hz _ _).trans (hf _), rfl⟩, ⟨(hc [v0, v1, v2] 3 (by simp)).trans h3, (hz _ _).trans (hf _), rfl⟩, ⟨(hc [v0, v1, v2, v3] 4 (by simp)).trans h4, (hz _ _).trans (hf _), rfl⟩, ⟨(hc [v0, v1, v2, v3, v4] 5 (by simp)).trans h5, (hz _ _).trans (hf _), rfl⟩⟩

/-- what could be read outside of block g can be read -/
def KeepX (g : Nat) (w w' : World) : Prop := ∀ (a : Addr) (v : Value), a.block ≠ g → w.cell? a = some v → w'.cell? a = some v
theorem KeepX.get {g : Nat} {w w' : World} (h : KeepX g w w') {a : Addr} {v : Value} (hne : a.block ≠ g) (e : w.cell? a = some v) : w'.cell? a = some v := h a v hne e
theorem Keep.get {w w' : World} (h : Keep w w') {a : Addr} {v : Value} (e : w.cell? a = some v) : w'.cell? a = some v := h a v e
theorem KeepX.put {w w8 : World} {g o : Nat} {vs : List Value} (h : Keep w w8) : KeepX g w (putC w8 g o vs) := fun a v hne e => (World.cell?_setCells_out g vs o w8 a (fun e => absurd e hne)).trans (h _ _ e)

theorem flat_set : ∀ (es : List V6) (q : Nat) (e : V6), q < es.length → ∀ j, ((es.set q e).flatMap V6.cells)[j]? = if q * 6 ≤ j ∧ j < q * 6 + 6 then e.cells[j - q * 6]? else (es.flatMap V6.cells)[j]?
  | e0 :: es, 0, e, _, j => by
    have h0 : e0.cells.length = 6 := rfl
    have h1 : e.cells.length = 6 := rfl
    rw [List.set_cons_zero, List.flatMap_cons, List.flatMap_cons]
    split
    · rw [List.getElem?_append_left (by omega)]
      simp
    · rw [List.getElem?_append_right (by omega), List.getElem?_append_right (by omega), h0, h1]
  | e0 :: es, q + 1, e, h, j => by
    have h0 : e0.cells.length = 6 := rfl
    rw [List.set_cons_succ, List.flatMap_cons, List.flatMap_cons]
    by_cases hj : j < 6
    · rw [List.getElem?_append_left (by omega), List.getElem?_append_left (by omega), if_neg (by omega)]
    · rw [List.getElem?_append_right (by omega), List.getElem?_append_right (by omega), h0, flat_set es q e (by simpa using h) (j - 6)]
      by_cases hc : q * 6 ≤ j - 6 ∧ j - 6 < q * 6 + 6
      · rw [if_pos hc, if_pos (by omega), show j - 6 - q * 6 = j - (q + 1) * 6 from by omega]
      · rw [if_neg hc, if_neg (by omega)]
theorem put_cells {w8 : World} {g q : Nat} {es : List V6} {e : V6} (hq : q < es.length) (hc : ∀ j u, (es.flatMap V6.cells)[j]? = some u → w8.cell? ⟨g, j, none⟩ = some u) : ∀ j u, ((es.set q e).flatMap V6.cells)[j]? = some u → (putC w8 g (q * 6) e.cells).cell? ⟨g, j, none⟩ = some u := by
  intro j u hu
  rw [flat_set es q e hq] at hu
  have hl : e.cells.length = 6 := rfl
  split at hu
  · have hj : j - q * 6 < e.cells.length := by omega
    rw [List.getElem?_eq_getElem hj] at hu
    have := World.cell?_setCells_in g e.cells (q * 6) w8 (fun t ht => by
      have h1 := six_get es q t hq (by omega)
      have h2 : t < es[q].cells.length := ht
      rw [List.getElem?_eq_getElem h2] at h1
      rw [hc _ _ h1]
      rfl) (j - q * 6) hj
    rw [show q * 6 + (j - q * 6) = j from by omega] at this
    exact this.trans hu
  · exact (World.cell?_setCells_out g e.cells (q * 6) w8 ⟨g, j, none⟩ (fun _ _ => by show j < _ ∨ _ ≤ j; omega)).trans (hc j u hu)

theorem own_KS {w : World} {base : Nat} {a : Option Addr} {c : Nat} {ks : List ByteArray} (h : w.ownsRow base 9 1 (.slice a ks.length c) ks.length (ks.map Value.string)) : KS w a ks ∧ (ks ≠ [] → ∃ g, a = some ⟨g, 0, none⟩ ∧ base ≤ g) ∧ ks.length ≤ c := by
  rcases h.2 with ⟨h1, h2⟩ | ⟨g, cap, cur, h1, h2, h3, h4, _⟩
  · have : ks = [] := List.length_eq_zero_iff.1 h2
    subst this
    exact ⟨fun hn => absurd rfl hn, fun hn => absurd rfl hn, by simp⟩
  · simp only [Value.slice.injEq, true_and] at h1
    obtain ⟨rfl, rfl⟩ := h1
    refine ⟨fun _ => ⟨g, 0, rfl, fun i hi => ?_⟩, fun _ => ⟨g, rfl, h2⟩, h4⟩
    have := h.cells (g := g) rfl i (.string ks[i]) (by rw [List.getElem?_map, List.getElem?_eq_getElem hi]; rfl)
    rw [Addr.add_lit] at this
    exact this

theorem wo_set_end {w0 w2 : World} {kd : Int} {ks : List ByteArray} {l : List J} {q gL cL cK : Nat} {aK : Option Addr} {es : List V6} {e9 : V6} {x : J} (k1 : Keep w0 w2) (hkd : (Lit.int .i64 kd).wf = true) (hl : l.length ≤ cL) (hl1 : l.length ≤ 1000) (hk : ks.length ≤ cK) (hk16 : ks.length * 16 ≤ reachN) (hks : ∀ x ∈ ks, x.size ≤ reachN)
    (es1 : es.length = l.length) (es2 : ∀ i, (h : i < (V.ofJs l).length) → (h' : i < es.length) → RV w0 (V.ofJs l)[i] es[i].val) (hx : RV w2 (V.ofJ x) e9.val) (hc : ∀ j u, ((es.set q e9).flatMap V6.cells)[j]? = some u → w2.cell? ⟨gL, j, none⟩ = some u) (hkk : KS w2 aK ks) :
    RV w2 (.mk kd 0 0 ByteArray.empty (V.ofJs (l.set q x)) ks) (.agg #[.int .i64 kd, .int .i64 0, .float .f64 0, .string ByteArray.empty, .slice (some ⟨gL, 0, none⟩) l.length cL, .slice aK ks.length cK]) := by
  have hlen : (V.ofJs (l.set q x)).length = l.length := by rw [V.ofJs_length, List.length_set]
  unfold RV
  refine ⟨some ⟨gL, 0, none⟩, cL, aK, cK, by rw [hlen], ⟨hkd, rfl, rfl, by unfold reachN; decide, ?_, ?_, hk, hk16, hks⟩, fun _ => ⟨gL, 0, rfl, ?_⟩, hkk⟩
  · rw [hlen]; exact hl
  · rw [hlen]; unfold reachN; omega
  · refine rvs_of (es := es.set q e9) (by rw [List.length_set, hlen, es1]) (fun i h h' => ?_) (fun j u hu => by rw [Nat.zero_add]; exact hc j u hu)
    have hi : i < l.length := by rw [hlen] at h; exact h
    rw [V.ofJs_get (l.set q x) i (by rw [List.length_set]; exact hi), List.getElem_set]
    simp only [List.getElem_set]
    split
    · exact hx
    · have := es2 i (by rw [V.ofJs_length]; exact hi) (by rw [es1]; exact hi)
      rw [V.ofJs_get l i hi] at this
      exact RV.keep k1 _ this

set_option maxRecDepth 20000 in
set_option maxHeartbeats 4000000 in
theorem without_obj (n : Nat) (ih : WithoutAt n) (st' : Step) (p : List Step) (hpn : p.length + 1 ≤ n) (hlc : lastChild (st' :: p)) (ks : List ByteArray) (l : List J) (s : ByteArray) (q : Nat) (hsm : (J.obj ks l).nodes ≤ 1000) (hok0 : (J.obj ks l).ok) (hkid : J.kid (J.obj ks l) (.child s) q) (x0 : J) (hx0 : l[q]? = some x0) (hhas : J.has (st' :: p) x0) (f : Fr) (b o c : Nat) (v : Value) (w0 w : World) (hK : Keep w0 w) (h : RV w0 (V.ofJ (J.obj ks l)) v) (hf : FAt w b o f) (hok : FrOk w (.child s) f) (hcp : p.length + 2 ≤ c) (hrest : ∀ i, (h : i < (st' :: p).length) → ∃ f, FAt w b (o + 13 + i * 13) f ∧ FrOk w (st' :: p)[i] f) :
    Calls Try.prog 12 #[v, .slice (some ⟨b, o, none⟩) (p.length + 2) c, .bool true] w (WoPost (.obj ks (l.set q (J.wo (st' :: p) x0))) w0 w) := by
  unfold V.ofJ RV at h
  obtain ⟨al, lc, ak, kc, rfl, z, hl, hk⟩ := h
  unfold J.ok at hok0
  obtain ⟨hnd, hkl, hoks⟩ := hok0
  clear hkl
  obtain ⟨hkq, hq⟩ := hkid
  obtain ⟨fk, fs, fa, fl, fc⟩ := f
  obtain ⟨h1, h2⟩ := hok
  simp only at h1 h2
  subst h1 h2
  have hks16 : ks.length * 16 ≤ reachN := by have := z.hkl; have := z.hkc; omega
  have hksl : ks.length ≤ reachN := by omega
  have hl88 : l.length * 88 ≤ reachN := by have := z.hlc; rw [V.ofJs_length] at this; exact this
  obtain ⟨bb, oo, rfl, hrow⟩ := hl (by intro e; have := congrArg List.length e; rw [V.ofJs_length] at this; simp at this; rw [this] at hq; simp at hq)
  obtain ⟨es, es1, es2, es3⟩ := rvs_es hrow
  have eone := esOne es1 es2
  replace es3 := fun j u hu => hK _ _ (es3 j u hu)
  replace hk := hk.keep hK
  rw [V.ofJs_length] at es1
  have lt1 := lt_of_cell hf.h0
  have f0 := hf.h0
  have f1 := hf.h1
  have f2 := hf.h2
  simp only at lt1 f0 f1 f2
  rw [V.ofJs_length]
  have hl1 : l.length ≤ 1000 := by have := J.nodesL_len l; simp only [J.nodes] at hsm; omega
  obtain ⟨hq9, hx9⟩ := List.getElem?_eq_some_iff.1 hx0
  have hlp : p.length ≤ 1000 := by
    have h1 := J.nodes_mem (List.getElem_mem hq9)
    rw [hx9] at h1
    have h2 := J.oks_get hoks q hq9
    rw [hx9] at h2
    have h3 := has_len _ _ h2 hhas
    simp only [J.nodes] at hsm
    simp only [List.length_cons] at h3
    omega
  have ip0 : (0 : Int) < (p.length : Int) + 2 := by omega
  have ip1 : (1 : Int) < (p.length : Int) + 2 := by omega
  have ip2 : (1 : Int) ≤ (p.length : Int) + 2 := by omega
  have iq0 : (0 : Int) ≤ (q : Int) := Int.natCast_nonneg _
  have iq1 : (q : Int) < (l.length : Int) := by omega
  have ic1 : ¬ c = 1 := by omega
  have HU : Hid (∀ w1, Keep w w1 → Calls Try.prog 41 #[.slice (some ⟨b, o, none⟩) (p.length + 2) c] w1 fun e w' => e = .returned (.slice (some ⟨b, o, none⟩) (p.length + 2) c) ∧ w' = w1) := fun w1 hk1 =>
    unrooted_any _ (p.length + 2) c w1 (by unfold reachN; omega) (fun _ => ⟨b, o, 3, rfl, hk1 _ _ hf.h0, by decide, by decide⟩)
  have HI : Hid (∀ w1, Keep w w1 → Calls Try.prog 42 #[.slice ak ks.length kc, .string fs] w1 fun e w' => e = .returned (.int .i64 (q : Int)) ∧ w' = w1) := fun w1 hk1 => by
    have := index_strs ak kc ks fs w1 (hk.keep hk1) hksl
    rw [idx_nodup hkq hnd] at this
    exact this
  have HCV : Hid (∀ w1, Keep w w1 → Calls Try.prog 43 #[.slice (some ⟨bb, oo, none⟩) l.length lc] w1 fun e w' => ∃ v', e = .returned v' ∧ w'.ownsRow w1.heap.size 26 6 v' l.length (es.flatMap V6.cells) ∧ v' ≠ .slice none 0 0 ∧ Ext w1 w') := fun w1 hk1 =>
    clone_es bb oo lc l.length es w1 es1 hl88 (fun j u hu => hk1 _ _ (es3 j u hu)) eone
  have HCK : Hid (∀ w1, Keep w w1 → Calls Try.prog 44 #[.slice ak ks.length kc] w1 fun e w' => ∃ v', e = .returned v' ∧ OwnStrs w' w1.heap.size v' ks ∧ Ext w1 w') := fun w1 hk1 => clone_strs ak kc ks w1 (hk.keep hk1) hks16
  have HZK := Lib.hid z.hks
  have HK0 : Hid (Keep w0 w) := hK
  have HW : Hid (∀ w1, Keep w w1 → KeepB w w1 → ∀ v1, RV w0 (V.ofJ x0) v1 → Calls Try.prog 12 #[v1, .slice (some ⟨b, o + 13, none⟩) (p.length + 1) (c - 1), .bool true] w1 (WoPost (J.wo (st' :: p) x0) w0 w1)) := fun w1 hk1 hkb v1 hv1 => by
    have h1 := J.nodes_mem (List.getElem_mem hq9)
    rw [hx9] at h1
    have h2 := J.oks_get hoks q hq9
    rw [hx9] at h2
    have := ih (st' :: p) (by simpa using hpn) hlc x0 h2 (by simp only [J.nodes] at hsm; omega) hhas b (o + 13) (c - 1) v1 w0 w1 (hK.trans hk1) hv1 (by simp; omega) (fun i h => by
      obtain ⟨f, h3, h4⟩ := hrest i h
      exact ⟨f, h3.keep hk1, h4.keep (t := 1000000) (by decide) (KT.of_keepB hkb)⟩)
    simpa using this
  clear ih hhas hrest hpn hlc hoks hsm
  have HE3 := Lib.hid es3
  have HES := Lib.hid es2
  have HES1 := Lib.hid es1
  have HEO := Lib.hid eone
  have HQ : Hid (q < l.length) := hq
  have HL1 : Hid (l.length ≤ 1000) := hl1
  have HK16 := Lib.hid hks16
  have KK : ∀ (A B : Obj), Keep w ((w.alloc A).alloc B) := fun A B => (Keep.alloc _ _).trans (Keep.alloc _ _)
  clear hq hl1
  clear hf hl hk z hkq hnd hksl es3 es2 eone hrow es1 hks16 hl88 hK
  go_enter Try.func12, Try.ntmps12
  go_wp2_with (go_at_call 41; refine (HU.out _ (KK _ _)).mono ?_; rintro e w' ⟨rfl, rfl⟩)
  go_region_held3 (fun w' => w'.cell? ⟨w.heap.size, 5, none⟩ = some (.slice ak ks.length kc) ∧ w'.cell? ⟨b, o, none⟩ = some (.int .i64 3) ∧ w'.cell? ⟨b, o + 1, none⟩ = some (.string fs))
    (first
      | go_keep)
    (first
      | (go_at_call 42; refine (HI.out _ (by first | exact KK _ _ | exact (KK _ _).trans (Keep.drew _))).mono ?_; rintro e w5 ⟨rfl, rfl⟩))
  go_wp2_with fail
  have X7 : Hid (Ext w (((w.alloc (.cells #[.int .i64 8, .int .i64 0, .float .f64 0, .string ByteArray.empty, .slice (some ⟨bb, oo, none⟩) l.length lc, .slice ak ks.length kc] 26)).alloc (.cells #[.int .i64 0, .int .i64 0, .float .f64 0, .string ByteArray.empty, .slice none 0 0, .slice none 0 0] 26)).alloc
      (.cells #[.int .i64 8, .int .i64 0, .float .f64 0, .string ByteArray.empty, .slice (some ⟨bb, oo, none⟩) l.length lc, .slice ak ks.length kc] 26)).drew) := Ext.drew ((((Ext.refl w).alloc _).alloc _).alloc _)
  have hneA : w.heap.size ≠ w.heap.size + 1 + 1 := by omega
  go_cut [] from 9 to 85 (fun wx => ∃ (gL cL cK : Nat) (aK : Option Addr), Ext w wx ∧ wx.heap[w.heap.size]? = some (.cells #[.int .i64 8, .int .i64 0, .float .f64 0, .string ByteArray.empty, .slice (some ⟨bb, oo, none⟩) l.length lc, .slice ak ks.length kc] 26 (0, 0)) ∧
      wx.heap[w.heap.size + 1]? = some (.cells #[.int .i64 0, .int .i64 0, .float .f64 0, .string ByteArray.empty, .slice none 0 0, .slice none 0 0] 26 (0, 0)) ∧
      wx.heap[w.heap.size + 1 + 1]? = some (.cells #[.int .i64 8, .int .i64 0, .float .f64 0, .string ByteArray.empty, .slice (some ⟨gL, 0, none⟩) l.length cL, .slice aK ks.length cK] 26 (0, 0)) ∧
      wx.ownsRow (w.heap.size + 3) 26 6 (.slice (some ⟨gL, 0, none⟩) l.length cL) l.length (es.flatMap V6.cells) ∧ wx.ownsRow (w.heap.size + 3) 9 1 (.slice aK ks.length cK) ks.length (ks.map Value.string))
  case first =>
    go_region_held3 (fun w' => w'.cell? ⟨w.heap.size, 4, none⟩ = some (.slice (some ⟨bb, oo, none⟩) l.length lc) ∧ w'.cell? ⟨w.heap.size, 5, none⟩ = some (.slice ak ks.length kc))
      (first
        | (go_split_ands
           exact ⟨hk5 _ _ (by assumption), hk5 _ _ (by assumption)⟩)
        | (go_split_ands
           exact ⟨hk6 _ _ (by assumption), hk6 _ _ (by assumption)⟩)
        | (go_split_ands
           exact ⟨(cell_setRow_other _ _ _ _ hneA).trans r4, (cell_setRow_other _ _ _ _ hneA).trans r5⟩)
        | go_keep)
      (first
        | (go_at_call 43; refine (HCV.out _ (by first | exact X7.out.keep | exact (Ext.drew X7.out).keep)).mono ?_; rintro e w5 ⟨vL, rfl, hoL, hnL, hx5⟩
           have hk5 := hx5.keep
           have HOL := Lib.hid hoL
           have HNL := Lib.hid hnL
           have X5 : Hid (Ext _ w5) := hx5
           clear hoL hnL hx5)
        | (go_at_call 44; refine (HCK.out _ (by first | exact (X7.out.trans X5.out).keep | exact ((Ext.drew X7.out).trans X5.out).keep)).mono ?_; rintro e w6 ⟨vK, rfl, hoK, hx6⟩
           have hk6 := hx6.keep
           have X6 := Lib.hid (Ext.trans X5.out hx6)
           have hL9 : ∃ gL cL, vL = .slice (some ⟨gL, 0, none⟩) l.length cL ∧ w.heap.size + 3 ≤ gL := by
             rcases HOL.out.2 with ⟨h, _⟩ | ⟨g, cap, cur, h, hb, _⟩
             · exact absurd h HNL.out
             · exact ⟨g, cap, h, by simp at hb; omega⟩
           obtain ⟨gL, cL, rfl, hgL⟩ := hL9
           have hK9 : ∃ aK cK, vK = .slice aK ks.length cK ∧ w6.ownsRow (w.heap.size + 3) 9 1 vK ks.length (ks.map Value.string) := by
             unfold OwnStrs at hoK
             rcases hoK.2 with ⟨h, h0⟩ | ⟨g, cap, cur, h, hb, hr⟩
             · exact ⟨none, 0, by rw [h0]; exact h, hoK.1, Or.inl ⟨h, h0⟩⟩
             · exact ⟨some ⟨g, 0, none⟩, cap, h, hoK.1, Or.inr ⟨g, cap, cur, h, by have := X5.out.size; simp at this; omega, hr⟩⟩
           obtain ⟨aK, cK, rfl, hoK9⟩ := hK9
           have h3 := heaps3 w (.cells #[.int .i64 8, .int .i64 0, .float .f64 0, .string ByteArray.empty, .slice (some ⟨bb, oo, none⟩) l.length lc, .slice ak ks.length kc] 26) (.cells #[.int .i64 0, .int .i64 0, .float .f64 0, .string ByteArray.empty, .slice none 0 0, .slice none 0 0] 26) (.cells #[.int .i64 8, .int .i64 0, .float .f64 0, .string ByteArray.empty, .slice (some ⟨bb, oo, none⟩) l.length lc, .slice ak ks.length kc] 26)
           have hA6 := (X6.out.block w.heap.size (by simp; omega)).trans h3.1
           have hZ6 := (X6.out.block (w.heap.size + 1) (by simp)).trans h3.2.1
           have hC6 := (X6.out.block (w.heap.size + 1 + 1) (by simp)).trans h3.2.2
           have r4 : w6.cell? ⟨w.heap.size, 4, none⟩ = some (.slice (some ⟨bb, oo, none⟩) l.length lc) := (cell_of_row _ _ _ _ _ _ hA6).trans rfl
           have r5 : w6.cell? ⟨w.heap.size, 5, none⟩ = some (.slice ak ks.length kc) := (cell_of_row _ _ _ _ _ _ hA6).trans rfl
           obtain ⟨⟨x4, y4, t4⟩, ⟨x5, y5, t5⟩⟩ := two_stores hC6 (.slice (some ⟨gL, 0, none⟩) l.length cL) (.slice aK ks.length cK)
           have HA6 := Lib.hid hA6
           have HZ6 := Lib.hid hZ6
           have HC6 := Lib.hid hC6
           have HOK := Lib.hid hoK9
           have HX6 := Lib.hid hx6
           have HGL := Lib.hid hgL
           clear hA6 hZ6 hC6 hoK hoK9 hx6 h3 hgL))
    go_wp2_with fail
    go_meet
    have XF : Ext w (w6.setRow (w.heap.size + 1 + 1) #[.int .i64 8, .int .i64 0, .float .f64 0, .string ByteArray.empty, .slice (some ⟨gL, 0, none⟩) l.length cL, .slice aK ks.length cK]) := below_setRow ((Ext.drew X7.out).trans X6.out) (by omega) _
    have nA : w.heap.size ≠ w.heap.size + 1 + 1 := by omega
    have nZ : w.heap.size + 1 ≠ w.heap.size + 1 + 1 := by omega
    have nL := HGL.out
    refine ⟨gL, cL, cK, aK, XF, (setRow_other _ _ _ _ nA).trans HA6.out, (setRow_other _ _ _ _ nZ).trans HZ6.out, setRow_heap _ _ _ _ _ _ HC6.out, ?_, ?_⟩
    · exact ((ownsRow_lift (ownsRow_ext HOL.out HX6.out) nL).kept (grownBy_setRow _ _ _) (Or.inr (by simp [Value.ownBlock]; omega)))
    · refine HOK.out.kept (grownBy_setRow _ _ _) (Or.inr (fun e => ?_))
      have := (HOK.out.lt _ e).1
      omega
  case rest =>
    obtain ⟨gL, cL, cK, aK, hx, hA, hZ, hC, hoL, hoK⟩ := hcut
    obtain ⟨hRL, hnL, hmL⟩ := RowAt.of_own hoL
    have gL0 := hoL.lt gL rfl
    have hneK := other_row hoK hoL (by decide)
    have hqe : q < es.length := by rw [HES1.out]; exact HQ.out
    have hev : RV w0 (V.ofJ x0) es[q].val := by
      have h1 := HES.out q (by rw [V.ofJs_length]; exact HQ.out) hqe
      rw [V.ofJs_get l q HQ.out] at h1
      obtain ⟨_, h2⟩ := List.getElem?_eq_some_iff.1 hx0
      rw [h2] at h1
      exact h1
    have hec : ∀ k, (hk : k < 6) → w.cell? ⟨bb, oo + q * 6 + k, none⟩ = (es[q].cells)[k]? := fun k hk => by
      have hl : k < es[q].cells.length := hk
      have h1 := six_get es q k hqe hk
      rw [List.getElem?_eq_getElem hl] at h1 ⊢
      have := HE3.out _ _ h1
      rw [← Nat.add_assoc] at this
      exact this
    have hlc9 : ∀ k, (hk : k < 6) → wc.cell? ⟨gL, q * 6 + k, none⟩ = (es[q].cells)[k]? := fun k hk => by
      have hl : k < es[q].cells.length := hk
      have h1 := six_get es q k hqe hk
      rw [List.getElem?_eq_getElem hl] at h1 ⊢
      exact hRL.cells _ _ h1
    generalize es[q] = ev at hev hec hlc9
    obtain ⟨e0, e1, e2, e3, e4, e5⟩ := ev
    obtain ⟨k1, k2, k3, k4, k5, k6, k7, k8, k9, k10, rfl, rfl, rfl, rfl, rfl, rfl⟩ := RV.shape hev
    have kc : Keep w wc := Ext.keep hx
    have d0 := kc _ _ (hec 0 (by omega))
    have d1 := kc _ _ (hec 1 (by omega))
    have d2 := kc _ _ (hec 2 (by omega))
    have d3 := kc _ _ (hec 3 (by omega))
    have d4 := kc _ _ (hec 4 (by omega))
    have d5 := kc _ _ (hec 5 (by omega))
    simp only [Nat.add_zero] at d0
    have l0 : Hid (wc.cell? ⟨gL, q * 6, none⟩ = some (.int .i64 k1)) := hlc9 0 (by omega)
    have l1 : Hid (wc.cell? ⟨gL, q * 6 + 1, none⟩ = some (.int .i64 k2)) := hlc9 1 (by omega)
    have l2 : Hid (wc.cell? ⟨gL, q * 6 + 2, none⟩ = some (.float .f64 k3)) := hlc9 2 (by omega)
    have l3 : Hid (wc.cell? ⟨gL, q * 6 + 3, none⟩ = some (.string k4)) := hlc9 3 (by omega)
    have l4 : Hid (wc.cell? ⟨gL, q * 6 + 4, none⟩ = some (.slice k5 k6 k7)) := hlc9 4 (by omega)
    have l5 : Hid (wc.cell? ⟨gL, q * 6 + 5, none⟩ = some (.slice k8 k9 k10)) := hlc9 5 (by omega)
    have a4 : wc.cell? ⟨w.heap.size, 4, none⟩ = some (.slice (some ⟨bb, oo, none⟩) l.length lc) := (cell_of_row _ _ _ _ _ _ hA).trans rfl
    have c4 : wc.cell? ⟨w.heap.size + 1 + 1, 4, none⟩ = some (.slice (some ⟨gL, 0, none⟩) l.length cL) := (cell_of_row _ _ _ _ _ _ hC).trans rfl
    have HEV : Hid (RV w0 (V.ofJ x0) (.agg #[.int .i64 k1, .int .i64 k2, .float .f64 k3, .string k4, .slice k5 k6 k7, .slice k8 k9 k10])) := hev
    have HZ := Lib.hid hZ
    have HC := Lib.hid hC
    have HX := Lib.hid hx
    have HRL := Lib.hid hRL
    have HOKK := Lib.hid hoK
    have HNK := Lib.hid hneK
    have HNL : Hid (l.length ≤ cL) := hnL
    have hbbL : bb ≠ gL := by have := lt_of_cell (HE3.out 0 _ (by rw [List.getElem?_eq_getElem (by rw [six_len]; omega)])); simp at this; omega
    have hls2 : w.heap.size + 1 + 1 < wc.heap.size := (Array.getElem?_eq_some_iff.1 HC.out).1
    have hls1 : w.heap.size + 1 < wc.heap.size := by omega
    have HGL : Hid (w.heap.size + 3 ≤ gL ∧ gL < wc.heap.size) := gL0
    have HLS : Hid (w.heap.size + 1 + 1 < wc.heap.size) := hls2
    have HQE := Lib.hid hqe
    have hbA : w.heap.size ≠ gL := by omega
    have hbC : w.heap.size + 1 + 1 ≠ gL := by omega
    have hbZ : w.heap.size + 1 ≠ gL := by omega
    have HX0 := Lib.hid hx0
    have HCP := Lib.hid hcp
    clear hev hec hlc9 hA hZ hC hx hRL hoL hoK hneK hx0 hcp hnL hmL gL0 hqe hlp hq9 hx9
    go_wp2_with fail
    go_region_held3 (fun w' => w'.cell? ⟨w.heap.size + 1 + 1, 4, none⟩ = some (.slice (some ⟨gL, 0, none⟩) l.length cL) ∧ w'.cell? ⟨w.heap.size, 4, none⟩ = some (.slice (some ⟨bb, oo, none⟩) l.length lc) ∧ w'.cell? ⟨bb, oo + q * 6, none⟩ = some (.int .i64 k1) ∧ w'.cell? ⟨bb, oo + q * 6 + 1, none⟩ = some (.int .i64 k2) ∧ w'.cell? ⟨bb, oo + q * 6 + 2, none⟩ = some (.float .f64 k3) ∧ w'.cell? ⟨bb, oo + q * 6 + 3, none⟩ = some (.string k4) ∧ w'.cell? ⟨bb, oo + q * 6 + 4, none⟩ = some (.slice k5 k6 k7) ∧ w'.cell? ⟨bb, oo + q * 6 + 5, none⟩ = some (.slice k8 k9 k10))
      (first
        | (go_split_ands
           with_reducible exact ⟨hkF.get hbC c4, hkF.get hbA a4, hkF.get hbbL d0, hkF.get hbbL d1, hkF.get hbbL d2, hkF.get hbbL d3, hkF.get hbbL d4, hkF.get hbbL d5⟩)
        | (go_split_ands
           with_reducible exact ⟨hk8.get c4, hk8.get a4, hk8.get d0, hk8.get d1, hk8.get d2, hk8.get d3, hk8.get d4, hk8.get d5⟩)
        | (go_split_ands
           exact ⟨c4, a4, d0, d1, d2, d3, d4, d5⟩))
      (first
        | (go_at_call 12; refine (HW.out _ (by first | exact HX.out.keep | exact (Ext.drew HX.out).keep) (by first | exact HX.out.keepB | exact (Ext.drew HX.out).keepB) _ HEV.out).mono ?_; rintro e w8 ⟨v9, rfl, hrv9, hx8⟩
           have hx8c : Ext wc w8 := by first | exact hx8 | exact Ext.trans (Ext.drew (Ext.refl wc)) hx8
           have hk8 := hx8c.keep
           have HRV9 : Hid (∀ w'', Keep w0 w'' → KeepF wc.heap.size w8 w'' → RV w'' (V.ofJ (J.wo (st' :: p) x0)) v9) := hrv9
           have hsh := (HRV9.out w8 ((HK0.out.trans HX.out.keep).trans hk8) (fun _ _ _ => rfl)).sh
           obtain ⟨m1, m2, m3, m4, m5, m6, m7, m8, m9, m10, rfl⟩ := hsh
           have hf8 : ∀ j, w8.frozen? ⟨gL, j, none⟩ = false := fun j => (World.frozen?_of_block (hx8c.block gL HGL.out.2)).trans (HRL.out.free j)
           have l0' := hk8 _ _ l0.out
           have l1' := hk8 _ _ l1.out
           have l2' := hk8 _ _ l2.out
           have l3' := hk8 _ _ l3.out
           have l4' := hk8 _ _ l4.out
           have l5' := hk8 _ _ l5.out
           obtain ⟨⟨p1, p2⟩, ⟨p3, p4, p5⟩, ⟨p6, p7, p8⟩, ⟨p9, p10, p11⟩, ⟨p12, p13, p14⟩, ⟨p15, p16, p17⟩⟩ := six_at l0' l1' l2' l3' l4' l5' hf8 (.int .i64 m1) (.int .i64 m2) (.float .f64 m3) (.string m4) (.slice m5 m6 m7) (.slice m8 m9 m10)
           have hkF : KeepX gL wc (putC w8 gL (q * 6) [.int .i64 m1, .int .i64 m2, .float .f64 m3, .string m4, .slice m5 m6 m7, .slice m8 m9 m10]) := KeepX.put hk8
           have HX8 := Lib.hid hx8c
           clear hx8 hx8c hrv9 hf8 l1' l2' l3' l4' l5'))
    have hC8 := (HX8.out.block (w.heap.size + 1 + 1) HLS.out).trans HC.out
    have hZ8 := (HX8.out.block (w.heap.size + 1) hls1).trans HZ.out
    have gP := grownBy_setCells gL [.int .i64 m1, .int .i64 m2, .float .f64 m3, .string m4, .slice m5 m6 m7, .slice m8 m9 m10] (q * 6) w8
    have hCP := (gP.block (w.heap.size + 1 + 1) (Nat.lt_of_lt_of_le HLS.out HX8.out.size) (fun e => hbC (Option.some.inj e))).trans hC8
    have hZP := (gP.block (w.heap.size + 1) (Nat.lt_of_lt_of_le hls1 HX8.out.size) (fun e => hbZ (Option.some.inj e))).trans hZ8
    change (putC w8 gL (q * 6) [.int .i64 m1, .int .i64 m2, .float .f64 m3, .string m4, .slice m5 m6 m7, .slice m8 m9 m10]).heap[w.heap.size + 1 + 1]? = _ at hCP
    change (putC w8 gL (q * 6) [.int .i64 m1, .int .i64 m2, .float .f64 m3, .string m4, .slice m5 m6 m7, .slice m8 m9 m10]).heap[w.heap.size + 1]? = _ at hZP
    have HGP : Hid (w8.grownBy (putC w8 gL (q * 6) [.int .i64 m1, .int .i64 m2, .float .f64 m3, .string m4, .slice m5 m6 m7, .slice m8 m9 m10]) (some gL)) := gP
    have HPC : Hid (∀ j u, ((es.set q ⟨.int .i64 m1, .int .i64 m2, .float .f64 m3, .string m4, .slice m5 m6 m7, .slice m8 m9 m10⟩).flatMap V6.cells)[j]? = some u → (putC w8 gL (q * 6) [.int .i64 m1, .int .i64 m2, .float .f64 m3, .string m4, .slice m5 m6 m7, .slice m8 m9 m10]).cell? ⟨gL, j, none⟩ = some u) :=
      put_cells (e := ⟨.int .i64 m1, .int .i64 m2, .float .f64 m3, .string m4, .slice m5 m6 m7, .slice m8 m9 m10⟩) HQE.out (fun j u hu => HX8.out.keep _ _ (HRL.out.cells j u hu))
    clear gP hC8 hZ8 p1 p2 p3 p4 p5 p6 p7 p8 p9 p10 p11 p12 p13 p14 p15 p16 p17 l0'
    generalize putC w8 gL (q * 6) [.int .i64 m1, .int .i64 m2, .float .f64 m3, .string m4, .slice m5 m6 m7, .slice m8 m9 m10] = wP at *
    have c0 : wP.cell? ⟨w.heap.size + 1 + 1, 0, none⟩ = some (.int .i64 8) := (cell_of_row _ _ _ _ _ _ hCP).trans rfl
    have c1 : wP.cell? ⟨w.heap.size + 1 + 1, 1, none⟩ = some (.int .i64 0) := (cell_of_row _ _ _ _ _ _ hCP).trans rfl
    have c2 : wP.cell? ⟨w.heap.size + 1 + 1, 2, none⟩ = some (.float .f64 0) := (cell_of_row _ _ _ _ _ _ hCP).trans rfl
    have c3 : wP.cell? ⟨w.heap.size + 1 + 1, 3, none⟩ = some (.string ByteArray.empty) := (cell_of_row _ _ _ _ _ _ hCP).trans rfl
    have c4' : wP.cell? ⟨w.heap.size + 1 + 1, 4, none⟩ = some (.slice (some ⟨gL, 0, none⟩) l.length cL) := (cell_of_row _ _ _ _ _ _ hCP).trans rfl
    have c5' : wP.cell? ⟨w.heap.size + 1 + 1, 5, none⟩ = some (.slice aK ks.length cK) := (cell_of_row _ _ _ _ _ _ hCP).trans rfl
    obtain ⟨⟨p0, p1, p2⟩, ⟨p3, p4, p5⟩, ⟨p6, p7, p8⟩, ⟨p9, p10, p11⟩, ⟨p12, p13, p14⟩, ⟨p15, p16, p17⟩⟩ := six_stores hZP (.int .i64 8) (.int .i64 0) (.float .f64 0) (.string ByteArray.empty) (.slice (some ⟨gL, 0, none⟩) l.length cL) (.slice aK ks.length cK)
    have HZP := Lib.hid hZP
    clear hCP hZP hkF hk8
    go_wp2_with fail
    refine bodyPost_ret (results_cell_row rfl _ _ (w.heap.size + 1) 26 _ _ _ rfl (setRow_heap _ _ _ _ _ _ HZP.out) Try.underlying26 rfl (by kernel_rfl)) rfl ?_
    have b8 : Ext w w8 := Ext.trans HX.out HX8.out
    have bP : Ext w wP := b8.grown HGP.out b8.size (fun k hk => by cases hk; have := HGL.out; omega)
    have bF := below_setRow bP (g := w.heap.size + 1) (by omega) #[.int .i64 8, .int .i64 0, .float .f64 0, .string ByteArray.empty, .slice (some ⟨gL, 0, none⟩) l.length cL, .slice aK ks.length cK]
    refine ⟨_, rfl, fun w2 q1 q2 => ?_, bF⟩
    have hgl := HGL.out
    obtain ⟨hks9, hkg9, hkc9⟩ := own_KS HOKK.out
    have hfar : ∀ k, wc.heap.size ≤ k → k < w8.heap.size → w2.heap[k]? = w8.heap[k]? := fun k h1 h2 => by
      have e1 := HGP.out.block k h2 (by simp; omega)
      have e2 := setRow_other wP (w.heap.size + 1) k #[.int .i64 8, .int .i64 0, .float .f64 0, .string ByteArray.empty, .slice (some ⟨gL, 0, none⟩) l.length cL, .slice aK ks.length cK] (by omega)
      have e3 := q2 k (by omega) (by rw [setRow_size]; exact Nat.lt_of_lt_of_le h2 HGP.out.size)
      exact e3.trans (e2.trans e1)
    have hcell : ∀ (g j : Nat) (u : Value), w.heap.size + 3 ≤ g → wP.cell? ⟨g, j, none⟩ = some u → w2.cell? ⟨g, j, none⟩ = some u := fun g j u h1 h2 =>
      q2.cell ((cell_setRow_other _ _ _ _ (by show g ≠ _; omega)).trans h2) (by show w.heap.size ≤ g; omega)
    have hkeys : KS w2 aK ks := fun hn => by
      obtain ⟨g, rfl, hg⟩ := hkg9 hn
      obtain ⟨b9, o9, e9, hc9⟩ := hks9 hn
      simp only [Option.some.injEq, Addr.mk.injEq, and_true] at e9
      obtain ⟨rfl, rfl⟩ := e9
      refine ⟨g, 0, rfl, fun i hi => hcell g _ _ hg ?_⟩
      have h9 := HX8.out.keep _ _ (hc9 i hi)
      rw [World.cell?_of_block (HGP.out.block g (lt_of_cell h9) (by simp; exact fun e => HNK.out g rfl e))]
      exact h9
    have := wo_set_end (kd := 8) (ks := ks) (l := l) (q := q) (gL := gL) (cL := cL) (cK := cK) (aK := aK) (es := es) (e9 := ⟨.int .i64 m1, .int .i64 m2, .float .f64 m3, .string m4, .slice m5 m6 m7, .slice m8 m9 m10⟩) (x := J.wo (st' :: p) x0) q1 (by decide) HNL.out HL1.out hkc9 HK16.out HZK.out HES1.out HES.out (HRV9.out w2 q1 hfar)
      (fun j u hu => hcell gL j u hgl.1 (HPC.out j u hu)) hkeys
    unfold V.ofJ
    exact this


set_option maxRecDepth 20000 in
set_option maxHeartbeats 4000000 in
theorem without_arr (n : Nat) (ih : WithoutAt n) (st' : Step) (p : List Step) (hpn : p.length + 1 ≤ n) (hlc : lastChild (st' :: p)) (l : List J) (nn : Int) (q : Nat) (hsm : (J.arr l).nodes ≤ 1000) (hok0 : (J.arr l).ok) (hkid : J.kid (J.arr l) (.nth nn) q) (x0 : J) (hx0 : l[q]? = some x0) (hhas : J.has (st' :: p) x0) (f : Fr) (b o c : Nat) (v : Value) (w0 w : World) (hK : Keep w0 w) (h : RV w0 (V.ofJ (J.arr l)) v) (hf : FAt w b o f) (hok : FrOk w (.nth nn) f) (hcp : p.length + 2 ≤ c) (hrest : ∀ i, (h : i < (st' :: p).length) → ∃ f, FAt w b (o + 13 + i * 13) f ∧ FrOk w (st' :: p)[i] f) :
    Calls Try.prog 12 #[v, .slice (some ⟨b, o, none⟩) (p.length + 2) c, .bool true] w (WoPost (.arr (l.set q (J.wo (st' :: p) x0))) w0 w) := by
  unfold V.ofJ RV at h
  obtain ⟨ks, hks0⟩ : ∃ ks : List ByteArray, ks = [] := ⟨_, rfl⟩
  rw [← hks0] at h
  obtain ⟨al, lc, ak, kc, rfl, z, hl, hk⟩ := h
  have HKE : Hid (ks = []) := hks0
  clear hks0
  have hoks : J.oks l := by unfold J.ok at hok0; exact hok0
  obtain ⟨rfl, hq⟩ := hkid
  obtain ⟨fk, fs, fa, fl, fc⟩ := f
  obtain ⟨h1, h2, nb, h3, h4⟩ := hok
  simp only at h1 h2 h3
  subst h1 h2 h3
  have n0 : w.cell? ⟨nb, 0, none⟩ = some (.int .i64 (q : Int)) := by rw [cell_of_row _ _ _ _ _ _ h4]; rfl
  have lt0 := lt_of_cell n0
  simp only at lt0
  have hks16 : ks.length * 16 ≤ reachN := by have := z.hkl; have := z.hkc; omega
  have hksl : ks.length ≤ reachN := by omega
  have hl88 : l.length * 88 ≤ reachN := by have := z.hlc; rw [V.ofJs_length] at this; exact this
  obtain ⟨bb, oo, rfl, hrow⟩ := hl (by intro e; have := congrArg List.length e; rw [V.ofJs_length] at this; simp at this; rw [this] at hq; simp at hq)
  obtain ⟨es, es1, es2, es3⟩ := rvs_es hrow
  have eone := esOne es1 es2
  replace es3 := fun j u hu => hK _ _ (es3 j u hu)
  replace hk := hk.keep hK
  rw [V.ofJs_length] at es1
  have lt1 := lt_of_cell hf.h0
  have f0 := hf.h0
  have f1 := hf.h1
  have f2 := hf.h2
  simp only at lt1 f0 f1 f2
  rw [V.ofJs_length]
  have hl1 : l.length ≤ 1000 := by have := J.nodesL_len l; simp only [J.nodes] at hsm; omega
  obtain ⟨hq9, hx9⟩ := List.getElem?_eq_some_iff.1 hx0
  have hlp : p.length ≤ 1000 := by
    have h1 := J.nodes_mem (List.getElem_mem hq9)
    rw [hx9] at h1
    have h2 := J.oks_get hoks q hq9
    rw [hx9] at h2
    have h3 := has_len _ _ h2 hhas
    simp only [J.nodes] at hsm
    simp only [List.length_cons] at h3
    omega
  have ip0 : (0 : Int) < (p.length : Int) + 2 := by omega
  have ip1 : (1 : Int) < (p.length : Int) + 2 := by omega
  have ip2 : (1 : Int) ≤ (p.length : Int) + 2 := by omega
  have iq0 : (0 : Int) ≤ (q : Int) := Int.natCast_nonneg _
  have iq1 : (q : Int) < (l.length : Int) := by omega
  have ic1 : ¬ c = 1 := by omega
  have HU : Hid (∀ w1, Keep w w1 → Calls Try.prog 41 #[.slice (some ⟨b, o, none⟩) (p.length + 2) c] w1 fun e w' => e = .returned (.slice (some ⟨b, o, none⟩) (p.length + 2) c) ∧ w' = w1) := fun w1 hk1 =>
    unrooted_any _ (p.length + 2) c w1 (by unfold reachN; omega) (fun _ => ⟨b, o, 4, rfl, hk1 _ _ hf.h0, by decide, by decide⟩)
  have HCV : Hid (∀ w1, Keep w w1 → Calls Try.prog 43 #[.slice (some ⟨bb, oo, none⟩) l.length lc] w1 fun e w' => ∃ v', e = .returned v' ∧ w'.ownsRow w1.heap.size 26 6 v' l.length (es.flatMap V6.cells) ∧ v' ≠ .slice none 0 0 ∧ Ext w1 w') := fun w1 hk1 =>
    clone_es bb oo lc l.length es w1 es1 hl88 (fun j u hu => hk1 _ _ (es3 j u hu)) eone
  have HCK : Hid (∀ w1, Keep w w1 → Calls Try.prog 44 #[.slice ak ks.length kc] w1 fun e w' => ∃ v', e = .returned v' ∧ OwnStrs w' w1.heap.size v' ks ∧ Ext w1 w') := fun w1 hk1 => clone_strs ak kc ks w1 (hk.keep hk1) hks16
  have HZK := Lib.hid z.hks
  have HK0 : Hid (Keep w0 w) := hK
  have HW : Hid (∀ w1, Keep w w1 → KeepB w w1 → ∀ v1, RV w0 (V.ofJ x0) v1 → Calls Try.prog 12 #[v1, .slice (some ⟨b, o + 13, none⟩) (p.length + 1) (c - 1), .bool true] w1 (WoPost (J.wo (st' :: p) x0) w0 w1)) := fun w1 hk1 hkb v1 hv1 => by
    have h1 := J.nodes_mem (List.getElem_mem hq9)
    rw [hx9] at h1
    have h2 := J.oks_get hoks q hq9
    rw [hx9] at h2
    have := ih (st' :: p) (by simpa using hpn) hlc x0 h2 (by simp only [J.nodes] at hsm; omega) hhas b (o + 13) (c - 1) v1 w0 w1 (hK.trans hk1) hv1 (by simp; omega) (fun i h => by
      obtain ⟨f, h3, h4⟩ := hrest i h
      exact ⟨f, h3.keep hk1, h4.keep (t := 1000000) (by decide) (KT.of_keepB hkb)⟩)
    simpa using this
  clear ih hhas hrest hpn hlc hoks hsm
  have HE3 := Lib.hid es3
  have HES := Lib.hid es2
  have HES1 := Lib.hid es1
  have HEO := Lib.hid eone
  have HQ : Hid (q < l.length) := hq
  have HL1 : Hid (l.length ≤ 1000) := hl1
  have HK16 := Lib.hid hks16
  have KK : ∀ (A B : Obj), Keep w ((w.alloc A).alloc B) := fun A B => (Keep.alloc _ _).trans (Keep.alloc _ _)
  clear hq hl1
  clear hf hl hk z h4 hksl es3 es2 eone hrow es1 hks16 hl88 hK
  go_enter Try.func12, Try.ntmps12
  go_wp2_with (go_at_call 41; refine (HU.out _ (KK _ _)).mono ?_; rintro e w' ⟨rfl, rfl⟩)
  have X7 : Hid (Ext w (((w.alloc (.cells #[.int .i64 7, .int .i64 0, .float .f64 0, .string ByteArray.empty, .slice (some ⟨bb, oo, none⟩) l.length lc, .slice ak ks.length kc] 26)).alloc (.cells #[.int .i64 0, .int .i64 0, .float .f64 0, .string ByteArray.empty, .slice none 0 0, .slice none 0 0] 26)).alloc
      (.cells #[.int .i64 7, .int .i64 0, .float .f64 0, .string ByteArray.empty, .slice (some ⟨bb, oo, none⟩) l.length lc, .slice ak ks.length kc] 26))) := ((((Ext.refl w).alloc _).alloc _).alloc _)
  have hneA : w.heap.size ≠ w.heap.size + 1 + 1 := by omega
  go_cut [] from 9 to 85 (fun wx => ∃ (gL cL cK : Nat) (aK : Option Addr), Ext w wx ∧ wx.heap[w.heap.size]? = some (.cells #[.int .i64 7, .int .i64 0, .float .f64 0, .string ByteArray.empty, .slice (some ⟨bb, oo, none⟩) l.length lc, .slice ak ks.length kc] 26 (0, 0)) ∧
      wx.heap[w.heap.size + 1]? = some (.cells #[.int .i64 0, .int .i64 0, .float .f64 0, .string ByteArray.empty, .slice none 0 0, .slice none 0 0] 26 (0, 0)) ∧
      wx.heap[w.heap.size + 1 + 1]? = some (.cells #[.int .i64 7, .int .i64 0, .float .f64 0, .string ByteArray.empty, .slice (some ⟨gL, 0, none⟩) l.length cL, .slice aK ks.length cK] 26 (0, 0)) ∧
      wx.ownsRow (w.heap.size + 3) 26 6 (.slice (some ⟨gL, 0, none⟩) l.length cL) l.length (es.flatMap V6.cells) ∧ wx.ownsRow (w.heap.size + 3) 9 1 (.slice aK ks.length cK) ks.length (ks.map Value.string))
  case first =>
    go_region_held3 (fun w' => w'.cell? ⟨w.heap.size, 4, none⟩ = some (.slice (some ⟨bb, oo, none⟩) l.length lc) ∧ w'.cell? ⟨w.heap.size, 5, none⟩ = some (.slice ak ks.length kc))
      (first
        | (go_split_ands
           exact ⟨hk5 _ _ (by assumption), hk5 _ _ (by assumption)⟩)
        | (go_split_ands
           exact ⟨hk6 _ _ (by assumption), hk6 _ _ (by assumption)⟩)
        | (go_split_ands
           exact ⟨(cell_setRow_other _ _ _ _ hneA).trans r4, (cell_setRow_other _ _ _ _ hneA).trans r5⟩)
        | go_keep)
      (first
        | (go_at_call 43; refine (HCV.out _ (by first | exact X7.out.keep | exact (Ext.drew X7.out).keep)).mono ?_; rintro e w5 ⟨vL, rfl, hoL, hnL, hx5⟩
           have hk5 := hx5.keep
           have HOL := Lib.hid hoL
           have HNL := Lib.hid hnL
           have X5 : Hid (Ext _ w5) := hx5
           clear hoL hnL hx5)
        | (go_at_call 44; refine (HCK.out _ (by first | exact (X7.out.trans X5.out).keep | exact ((Ext.drew X7.out).trans X5.out).keep)).mono ?_; rintro e w6 ⟨vK, rfl, hoK, hx6⟩
           have hk6 := hx6.keep
           have X6 := Lib.hid (Ext.trans X5.out hx6)
           have hL9 : ∃ gL cL, vL = .slice (some ⟨gL, 0, none⟩) l.length cL ∧ w.heap.size + 3 ≤ gL := by
             rcases HOL.out.2 with ⟨h, _⟩ | ⟨g, cap, cur, h, hb, _⟩
             · exact absurd h HNL.out
             · exact ⟨g, cap, h, by simp at hb; omega⟩
           obtain ⟨gL, cL, rfl, hgL⟩ := hL9
           have hK9 : ∃ aK cK, vK = .slice aK ks.length cK ∧ w6.ownsRow (w.heap.size + 3) 9 1 vK ks.length (ks.map Value.string) := by
             unfold OwnStrs at hoK
             rcases hoK.2 with ⟨h, h0⟩ | ⟨g, cap, cur, h, hb, hr⟩
             · exact ⟨none, 0, by rw [h0]; exact h, hoK.1, Or.inl ⟨h, h0⟩⟩
             · exact ⟨some ⟨g, 0, none⟩, cap, h, hoK.1, Or.inr ⟨g, cap, cur, h, by have := X5.out.size; simp at this; omega, hr⟩⟩
           obtain ⟨aK, cK, rfl, hoK9⟩ := hK9
           have h3 := heaps3 w (.cells #[.int .i64 7, .int .i64 0, .float .f64 0, .string ByteArray.empty, .slice (some ⟨bb, oo, none⟩) l.length lc, .slice ak ks.length kc] 26) (.cells #[.int .i64 0, .int .i64 0, .float .f64 0, .string ByteArray.empty, .slice none 0 0, .slice none 0 0] 26) (.cells #[.int .i64 7, .int .i64 0, .float .f64 0, .string ByteArray.empty, .slice (some ⟨bb, oo, none⟩) l.length lc, .slice ak ks.length kc] 26)
           have hA6 := (X6.out.block w.heap.size (by simp; omega)).trans h3.1
           have hZ6 := (X6.out.block (w.heap.size + 1) (by simp)).trans h3.2.1
           have hC6 := (X6.out.block (w.heap.size + 1 + 1) (by simp)).trans h3.2.2
           have r4 : w6.cell? ⟨w.heap.size, 4, none⟩ = some (.slice (some ⟨bb, oo, none⟩) l.length lc) := (cell_of_row _ _ _ _ _ _ hA6).trans rfl
           have r5 : w6.cell? ⟨w.heap.size, 5, none⟩ = some (.slice ak ks.length kc) := (cell_of_row _ _ _ _ _ _ hA6).trans rfl
           obtain ⟨⟨x4, y4, t4⟩, ⟨x5, y5, t5⟩⟩ := two_stores hC6 (.slice (some ⟨gL, 0, none⟩) l.length cL) (.slice aK ks.length cK)
           have HA6 := Lib.hid hA6
           have HZ6 := Lib.hid hZ6
           have HC6 := Lib.hid hC6
           have HOK := Lib.hid hoK9
           have HX6 := Lib.hid hx6
           have HGL := Lib.hid hgL
           clear hA6 hZ6 hC6 hoK hoK9 hx6 h3 hgL))
    go_wp2_with fail
    go_meet
    have XF : Ext w (w6.setRow (w.heap.size + 1 + 1) #[.int .i64 7, .int .i64 0, .float .f64 0, .string ByteArray.empty, .slice (some ⟨gL, 0, none⟩) l.length cL, .slice aK ks.length cK]) := below_setRow ((Ext.drew X7.out).trans X6.out) (by omega) _
    have nA : w.heap.size ≠ w.heap.size + 1 + 1 := by omega
    have nZ : w.heap.size + 1 ≠ w.heap.size + 1 + 1 := by omega
    have nL := HGL.out
    refine ⟨gL, cL, cK, aK, XF, (setRow_other _ _ _ _ nA).trans HA6.out, (setRow_other _ _ _ _ nZ).trans HZ6.out, setRow_heap _ _ _ _ _ _ HC6.out, ?_, ?_⟩
    · exact ((ownsRow_lift (ownsRow_ext HOL.out HX6.out) nL).kept (grownBy_setRow _ _ _) (Or.inr (by simp [Value.ownBlock]; omega)))
    · refine HOK.out.kept (grownBy_setRow _ _ _) (Or.inr (fun e => ?_))
      have := (HOK.out.lt _ e).1
      omega
  case rest =>
    obtain ⟨gL, cL, cK, aK, hx, hA, hZ, hC, hoL, hoK⟩ := hcut
    obtain ⟨hRL, hnL, hmL⟩ := RowAt.of_own hoL
    have gL0 := hoL.lt gL rfl
    have hneK := other_row hoK hoL (by decide)
    have hqe : q < es.length := by rw [HES1.out]; exact HQ.out
    have hev : RV w0 (V.ofJ x0) es[q].val := by
      have h1 := HES.out q (by rw [V.ofJs_length]; exact HQ.out) hqe
      rw [V.ofJs_get l q HQ.out] at h1
      obtain ⟨_, h2⟩ := List.getElem?_eq_some_iff.1 hx0
      rw [h2] at h1
      exact h1
    have hec : ∀ k, (hk : k < 6) → w.cell? ⟨bb, oo + q * 6 + k, none⟩ = (es[q].cells)[k]? := fun k hk => by
      have hl : k < es[q].cells.length := hk
      have h1 := six_get es q k hqe hk
      rw [List.getElem?_eq_getElem hl] at h1 ⊢
      have := HE3.out _ _ h1
      rw [← Nat.add_assoc] at this
      exact this
    have hlc9 : ∀ k, (hk : k < 6) → wc.cell? ⟨gL, q * 6 + k, none⟩ = (es[q].cells)[k]? := fun k hk => by
      have hl : k < es[q].cells.length := hk
      have h1 := six_get es q k hqe hk
      rw [List.getElem?_eq_getElem hl] at h1 ⊢
      exact hRL.cells _ _ h1
    generalize es[q] = ev at hev hec hlc9
    obtain ⟨e0, e1, e2, e3, e4, e5⟩ := ev
    obtain ⟨k1, k2, k3, k4, k5, k6, k7, k8, k9, k10, rfl, rfl, rfl, rfl, rfl, rfl⟩ := RV.shape hev
    have kc : Keep w wc := Ext.keep hx
    have d0 := kc _ _ (hec 0 (by omega))
    have d1 := kc _ _ (hec 1 (by omega))
    have d2 := kc _ _ (hec 2 (by omega))
    have d3 := kc _ _ (hec 3 (by omega))
    have d4 := kc _ _ (hec 4 (by omega))
    have d5 := kc _ _ (hec 5 (by omega))
    simp only [Nat.add_zero] at d0
    have l0 : Hid (wc.cell? ⟨gL, q * 6, none⟩ = some (.int .i64 k1)) := hlc9 0 (by omega)
    have l1 : Hid (wc.cell? ⟨gL, q * 6 + 1, none⟩ = some (.int .i64 k2)) := hlc9 1 (by omega)
    have l2 : Hid (wc.cell? ⟨gL, q * 6 + 2, none⟩ = some (.float .f64 k3)) := hlc9 2 (by omega)
    have l3 : Hid (wc.cell? ⟨gL, q * 6 + 3, none⟩ = some (.string k4)) := hlc9 3 (by omega)
    have l4 : Hid (wc.cell? ⟨gL, q * 6 + 4, none⟩ = some (.slice k5 k6 k7)) := hlc9 4 (by omega)
    have l5 : Hid (wc.cell? ⟨gL, q * 6 + 5, none⟩ = some (.slice k8 k9 k10)) := hlc9 5 (by omega)
    have a4 : wc.cell? ⟨w.heap.size, 4, none⟩ = some (.slice (some ⟨bb, oo, none⟩) l.length lc) := (cell_of_row _ _ _ _ _ _ hA).trans rfl
    have c4 : wc.cell? ⟨w.heap.size + 1 + 1, 4, none⟩ = some (.slice (some ⟨gL, 0, none⟩) l.length cL) := (cell_of_row _ _ _ _ _ _ hC).trans rfl
    have HEV : Hid (RV w0 (V.ofJ x0) (.agg #[.int .i64 k1, .int .i64 k2, .float .f64 k3, .string k4, .slice k5 k6 k7, .slice k8 k9 k10])) := hev
    have HZ := Lib.hid hZ
    have HC := Lib.hid hC
    have HX := Lib.hid hx
    have HRL := Lib.hid hRL
    have HOKK := Lib.hid hoK
    have HNK := Lib.hid hneK
    have HNL : Hid (l.length ≤ cL) := hnL
    have hbbL : bb ≠ gL := by have := lt_of_cell (HE3.out 0 _ (by rw [List.getElem?_eq_getElem (by rw [six_len]; omega)])); simp at this; omega
    have hls2 : w.heap.size + 1 + 1 < wc.heap.size := (Array.getElem?_eq_some_iff.1 HC.out).1
    have hls1 : w.heap.size + 1 < wc.heap.size := by omega
    have HGL : Hid (w.heap.size + 3 ≤ gL ∧ gL < wc.heap.size) := gL0
    have HLS : Hid (w.heap.size + 1 + 1 < wc.heap.size) := hls2
    have HQE := Lib.hid hqe
    have hbA : w.heap.size ≠ gL := by omega
    have hbC : w.heap.size + 1 + 1 ≠ gL := by omega
    have hbZ : w.heap.size + 1 ≠ gL := by omega
    have HX0 := Lib.hid hx0
    have HCP := Lib.hid hcp
    clear hev hec hlc9 hA hZ hC hx hRL hoL hoK hneK hx0 hcp hnL hmL gL0 hqe hlp hq9 hx9
    go_wp2_with fail
    go_region_held3 (fun w' => w'.cell? ⟨w.heap.size + 1 + 1, 4, none⟩ = some (.slice (some ⟨gL, 0, none⟩) l.length cL) ∧ w'.cell? ⟨w.heap.size, 4, none⟩ = some (.slice (some ⟨bb, oo, none⟩) l.length lc) ∧ w'.cell? ⟨bb, oo + q * 6, none⟩ = some (.int .i64 k1) ∧ w'.cell? ⟨bb, oo + q * 6 + 1, none⟩ = some (.int .i64 k2) ∧ w'.cell? ⟨bb, oo + q * 6 + 2, none⟩ = some (.float .f64 k3) ∧ w'.cell? ⟨bb, oo + q * 6 + 3, none⟩ = some (.string k4) ∧ w'.cell? ⟨bb, oo + q * 6 + 4, none⟩ = some (.slice k5 k6 k7) ∧ w'.cell? ⟨bb, oo + q * 6 + 5, none⟩ = some (.slice k8 k9 k10))
      (first
        | (go_split_ands
           with_reducible exact ⟨hkF.get hbC c4, hkF.get hbA a4, hkF.get hbbL d0, hkF.get hbbL d1, hkF.get hbbL d2, hkF.get hbbL d3, hkF.get hbbL d4, hkF.get hbbL d5⟩)
        | (go_split_ands
           with_reducible exact ⟨hk8.get c4, hk8.get a4, hk8.get d0, hk8.get d1, hk8.get d2, hk8.get d3, hk8.get d4, hk8.get d5⟩)
        | (go_split_ands
           exact ⟨c4, a4, d0, d1, d2, d3, d4, d5⟩))
      (first
        | (go_at_call 12; refine (HW.out _ (by first | exact HX.out.keep | exact (Ext.drew HX.out).keep) (by first | exact HX.out.keepB | exact (Ext.drew HX.out).keepB) _ HEV.out).mono ?_; rintro e w8 ⟨v9, rfl, hrv9, hx8⟩
           have hx8c : Ext wc w8 := by first | exact hx8 | exact Ext.trans (Ext.drew (Ext.refl wc)) hx8
           have hk8 := hx8c.keep
           have HRV9 : Hid (∀ w'', Keep w0 w'' → KeepF wc.heap.size w8 w'' → RV w'' (V.ofJ (J.wo (st' :: p) x0)) v9) := hrv9
           have hsh := (HRV9.out w8 ((HK0.out.trans HX.out.keep).trans hk8) (fun _ _ _ => rfl)).sh
           obtain ⟨m1, m2, m3, m4, m5, m6, m7, m8, m9, m10, rfl⟩ := hsh
           have hf8 : ∀ j, w8.frozen? ⟨gL, j, none⟩ = false := fun j => (World.frozen?_of_block (hx8c.block gL HGL.out.2)).trans (HRL.out.free j)
           have l0' := hk8 _ _ l0.out
           have l1' := hk8 _ _ l1.out
           have l2' := hk8 _ _ l2.out
           have l3' := hk8 _ _ l3.out
           have l4' := hk8 _ _ l4.out
           have l5' := hk8 _ _ l5.out
           obtain ⟨⟨p1, p2⟩, ⟨p3, p4, p5⟩, ⟨p6, p7, p8⟩, ⟨p9, p10, p11⟩, ⟨p12, p13, p14⟩, ⟨p15, p16, p17⟩⟩ := six_at l0' l1' l2' l3' l4' l5' hf8 (.int .i64 m1) (.int .i64 m2) (.float .f64 m3) (.string m4) (.slice m5 m6 m7) (.slice m8 m9 m10)
           have hkF : KeepX gL wc (putC w8 gL (q * 6) [.int .i64 m1, .int .i64 m2, .float .f64 m3, .string m4, .slice m5 m6 m7, .slice m8 m9 m10]) := KeepX.put hk8
           have HX8 := Lib.hid hx8c
           clear hx8 hx8c hrv9 hf8 l1' l2' l3' l4' l5'))
    have hC8 := (HX8.out.block (w.heap.size + 1 + 1) HLS.out).trans HC.out
    have hZ8 := (HX8.out.block (w.heap.size + 1) hls1).trans HZ.out
    have gP := grownBy_setCells gL [.int .i64 m1, .int .i64 m2, .float .f64 m3, .string m4, .slice m5 m6 m7, .slice m8 m9 m10] (q * 6) w8
    have hCP := (gP.block (w.heap.size + 1 + 1) (Nat.lt_of_lt_of_le HLS.out HX8.out.size) (fun e => hbC (Option.some.inj e))).trans hC8
    have hZP := (gP.block (w.heap.size + 1) (Nat.lt_of_lt_of_le hls1 HX8.out.size) (fun e => hbZ (Option.some.inj e))).trans hZ8
    change (putC w8 gL (q * 6) [.int .i64 m1, .int .i64 m2, .float .f64 m3, .string m4, .slice m5 m6 m7, .slice m8 m9 m10]).heap[w.heap.size + 1 + 1]? = _ at hCP
    change (putC w8 gL (q * 6) [.int .i64 m1, .int .i64 m2, .float .f64 m3, .string m4, .slice m5 m6 m7, .slice m8 m9 m10]).heap[w.heap.size + 1]? = _ at hZP
    have HGP : Hid (w8.grownBy (putC w8 gL (q * 6) [.int .i64 m1, .int .i64 m2, .float .f64 m3, .string m4, .slice m5 m6 m7, .slice m8 m9 m10]) (some gL)) := gP
    have HPC : Hid (∀ j u, ((es.set q ⟨.int .i64 m1, .int .i64 m2, .float .f64 m3, .string m4, .slice m5 m6 m7, .slice m8 m9 m10⟩).flatMap V6.cells)[j]? = some u → (putC w8 gL (q * 6) [.int .i64 m1, .int .i64 m2, .float .f64 m3, .string m4, .slice m5 m6 m7, .slice m8 m9 m10]).cell? ⟨gL, j, none⟩ = some u) :=
      put_cells (e := ⟨.int .i64 m1, .int .i64 m2, .float .f64 m3, .string m4, .slice m5 m6 m7, .slice m8 m9 m10⟩) HQE.out (fun j u hu => HX8.out.keep _ _ (HRL.out.cells j u hu))
    clear gP hC8 hZ8 p1 p2 p3 p4 p5 p6 p7 p8 p9 p10 p11 p12 p13 p14 p15 p16 p17 l0'
    generalize putC w8 gL (q * 6) [.int .i64 m1, .int .i64 m2, .float .f64 m3, .string m4, .slice m5 m6 m7, .slice m8 m9 m10] = wP at *
    have c0 : wP.cell? ⟨w.heap.size + 1 + 1, 0, none⟩ = some (.int .i64 7) := (cell_of_row _ _ _ _ _ _ hCP).trans rfl
    have c1 : wP.cell? ⟨w.heap.size + 1 + 1, 1, none⟩ = some (.int .i64 0) := (cell_of_row _ _ _ _ _ _ hCP).trans rfl
    have c2 : wP.cell? ⟨w.heap.size + 1 + 1, 2, none⟩ = some (.float .f64 0) := (cell_of_row _ _ _ _ _ _ hCP).trans rfl
    have c3 : wP.cell? ⟨w.heap.size + 1 + 1, 3, none⟩ = some (.string ByteArray.empty) := (cell_of_row _ _ _ _ _ _ hCP).trans rfl
    have c4' : wP.cell? ⟨w.heap.size + 1 + 1, 4, none⟩ = some (.slice (some ⟨gL, 0, none⟩) l.length cL) := (cell_of_row _ _ _ _ _ _ hCP).trans rfl
    have c5' : wP.cell? ⟨w.heap.size + 1 + 1, 5, none⟩ = some (.slice aK ks.length cK) := (cell_of_row _ _ _ _ _ _ hCP).trans rfl
    obtain ⟨⟨p0, p1, p2⟩, ⟨p3, p4, p5⟩, ⟨p6, p7, p8⟩, ⟨p9, p10, p11⟩, ⟨p12, p13, p14⟩, ⟨p15, p16, p17⟩⟩ := six_stores hZP (.int .i64 7) (.int .i64 0) (.float .f64 0) (.string ByteArray.empty) (.slice (some ⟨gL, 0, none⟩) l.length cL) (.slice aK ks.length cK)
    have HZP := Lib.hid hZP
    clear hCP hZP hkF hk8
    go_wp2_with fail
    refine bodyPost_ret (results_cell_row rfl _ _ (w.heap.size + 1) 26 _ _ _ rfl (setRow_heap _ _ _ _ _ _ HZP.out) Try.underlying26 rfl (by kernel_rfl)) rfl ?_
    have b8 : Ext w w8 := Ext.trans HX.out HX8.out
    have bP : Ext w wP := b8.grown HGP.out b8.size (fun k hk => by cases hk; have := HGL.out; omega)
    have bF := below_setRow bP (g := w.heap.size + 1) (by omega) #[.int .i64 7, .int .i64 0, .float .f64 0, .string ByteArray.empty, .slice (some ⟨gL, 0, none⟩) l.length cL, .slice aK ks.length cK]
    refine ⟨_, rfl, fun w2 q1 q2 => ?_, bF⟩
    have hgl := HGL.out
    obtain ⟨hks9, hkg9, hkc9⟩ := own_KS HOKK.out
    have hfar : ∀ k, wc.heap.size ≤ k → k < w8.heap.size → w2.heap[k]? = w8.heap[k]? := fun k h1 h2 => by
      have e1 := HGP.out.block k h2 (by simp; omega)
      have e2 := setRow_other wP (w.heap.size + 1) k #[.int .i64 7, .int .i64 0, .float .f64 0, .string ByteArray.empty, .slice (some ⟨gL, 0, none⟩) l.length cL, .slice aK ks.length cK] (by omega)
      have e3 := q2 k (by omega) (by rw [setRow_size]; exact Nat.lt_of_lt_of_le h2 HGP.out.size)
      exact e3.trans (e2.trans e1)
    have hcell : ∀ (g j : Nat) (u : Value), w.heap.size + 3 ≤ g → wP.cell? ⟨g, j, none⟩ = some u → w2.cell? ⟨g, j, none⟩ = some u := fun g j u h1 h2 =>
      q2.cell ((cell_setRow_other _ _ _ _ (by show g ≠ _; omega)).trans h2) (by show w.heap.size ≤ g; omega)
    have hkeys : KS w2 aK ks := fun hn => by
      obtain ⟨g, rfl, hg⟩ := hkg9 hn
      obtain ⟨b9, o9, e9, hc9⟩ := hks9 hn
      simp only [Option.some.injEq, Addr.mk.injEq, and_true] at e9
      obtain ⟨rfl, rfl⟩ := e9
      refine ⟨g, 0, rfl, fun i hi => hcell g _ _ hg ?_⟩
      have h9 := HX8.out.keep _ _ (hc9 i hi)
      rw [World.cell?_of_block (HGP.out.block g (lt_of_cell h9) (by simp; exact fun e => HNK.out g rfl e))]
      exact h9
    have := wo_set_end (kd := 7) (ks := ks) (l := l) (q := q) (gL := gL) (cL := cL) (cK := cK) (aK := aK) (es := es) (e9 := ⟨.int .i64 m1, .int .i64 m2, .float .f64 m3, .string m4, .slice m5 m6 m7, .slice m8 m9 m10⟩) (x := J.wo (st' :: p) x0) q1 (by decide) HNL.out HL1.out hkc9 HK16.out HZK.out HES1.out HES.out (HRV9.out w2 q1 hfar)
      (fun j u hu => hcell gL j u hgl.1 (HPC.out j u hu)) hkeys
    unfold V.ofJ
    rw [← HKE.out]
    exact this


theorem without_any : ∀ n, WithoutAt n
  | 0 => fun p hp hl => by
    have : p = [] := List.length_eq_zero_iff.1 (by omega)
    subst this
    exact hl.elim
  | n + 1 => fun p hp hl j hj hsm hh b o c v w0 w hK h hc hfs => by
    cases p with
    | nil => exact hl.elim
    | cons st p =>
      obtain ⟨⟨q, hq⟩, h2⟩ := hh
      have hat := J.at1_kid hj hq
      rw [hat] at h2
      obtain ⟨f, hf, hfo⟩ := hfs 0 (by simp)
      simp only [Nat.zero_mul, Nat.add_zero, List.getElem_cons_zero] at hf hfo
      cases p with
      | nil =>
        cases st with
        | nth _ => exact hl.elim
        | child s =>
          cases j <;> try exact hq.elim
          rename_i ks l
          have hj' := hj
          unfold J.ok at hj'
          have hwo : J.wo [.child s] (.obj ks l) = .obj (ks.eraseIdx q) (l.eraseIdx q) := by simp [J.wo, posOf_eq hq.1 hj'.1]
          rw [hwo]
          exact without_last ks l s q (by have := J.nodesL_len l; simp only [J.nodes] at hsm; omega) hj'.2.1 hj'.1 hq f b o c v w0 w hK h hf hfo
      | cons st' p =>
        have hr : ∀ i, (h : i < (st' :: p).length) → ∃ f, FAt w b (o + 13 + i * 13) f ∧ FrOk w (st' :: p)[i] f := fun i hi => by
          obtain ⟨f, h3, h4⟩ := hfs (i + 1) (by simpa using hi)
          exact ⟨f, by rw [show o + 13 + i * 13 = o + (i + 1) * 13 from by omega]; exact h3, by simpa using h4⟩
        have hpn : p.length + 1 ≤ n := by simp at hp; omega
        cases j <;> cases st <;> try exact hq.elim
        · rename_i l nn
          have hwo : J.wo (.nth nn :: st' :: p) (.arr l) = .arr (l.set q (J.wo (st' :: p) (l[q]'hq.2))) := by
            simp only [J.kids] at hat
            rw [← hat]
            simp [J.wo, hq.1]
          rw [hwo]
          exact without_arr n (without_any n) st' p hpn (lastChild_tail hl) l nn q hsm hj hq _ (List.getElem?_eq_getElem hq.2) h2 f b o c v w0 w hK h hf hfo (by simp at hc; omega) hr
        · rename_i ks l s
          have hj' := hj
          unfold J.ok at hj'
          have hwo : J.wo (.child s :: st' :: p) (.obj ks l) = .obj ks (l.set q (J.wo (st' :: p) (l[q]'hq.2))) := by
            simp only [J.kids] at hat
            rw [← hat]
            simp [J.wo, posOf_eq hq.1 hj'.1]
          rw [hwo]
          exact without_obj n (without_any n) st' p hpn (lastChild_tail hl) ks l s q hsm hj hq _ (List.getElem?_eq_getElem hq.2) h2 f b o c v w0 w hK h hf hfo (by simp at hc; omega) hr
end Go.Proofs.Ytikpedfggbibpaa
