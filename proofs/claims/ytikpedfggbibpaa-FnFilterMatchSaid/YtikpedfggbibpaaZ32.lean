/- Walks: diff, alt.Diff, trailOf; laws on lists of places. -/
import Derived.Test.YtikpedfggbibpaaZ31
namespace Go.Proofs.Ytikpedfggbibpaa
open Go.RowKit Go.Lib
set_option linter.unusedVariables false
set_option linter.unusedSimpArgs false

theorem diff_any : ∀ n, DiffAt n
  | 0 => fun a b h => by have := a.nodes_pos; have := b.nodes_pos; omega
  | n + 1 => fun a b hN ha han hb hbn hsa hsb g hg hev va vb vg w h1 h2 h3 => by
    cases a with
    | flt x => unfold J.nofl at han; exact han.elim
    | null => unfold RA at h1; subst h1; exact diff_null n g b hbn vb vg w h2
    | bool x => unfold RA at h1; subst h1; exact diff_bool n g x b hbn vb vg w h2
    | int x => unfold RA at h1; subst h1; exact diff_int n g x b hbn vb vg w h2
    | str x => unfold RA at h1; subst h1; exact diff_str n g x b hbn vb vg w h2
    | arr l =>
      by_cases hc : ∃ m, b = .arr m
      · obtain ⟨m, rfl⟩ := hc
        exact diff_arr n (diff_any n) l m hN (by simpa [J.ok] using ha) (by simpa [J.nofl] using han) (by simpa [J.ok] using hb) (by simpa [J.nofl] using hbn) hsa hsb g hg hev va vb vg w h1 h2 h3
      · unfold RA at h1
        obtain ⟨bb, cap, rfl, _⟩ := h1
        exact diff_arrx n g l bb cap b hbn (fun m e => hc ⟨m, e⟩) vb vg w h2
    | obj ks l =>
      by_cases hc : ∃ ks' m, b = .obj ks' m
      · obtain ⟨ks', m, rfl⟩ := hc
        exact diff_obj n (diff_any n) ks l ks' m hN ha (by simpa [J.nofl] using han) hb (by simpa [J.nofl] using hbn) hsa hsb g hg hev va vb vg w h1 h2 h3
      · unfold RA at h1
        obtain ⟨bb, es, rfl, _⟩ := h1
        exact diff_objx n g ks l bb b hbn (fun ks' m e => hc ⟨ks', m, e⟩) vb vg w h2

theorem altDiff_any (a b : J) (ha : a.ok) (han : a.nofl) (hb : b.ok) (hbn : b.nofl) (hsa : a.nodes ≤ 1000) (hsb : b.nodes ≤ 1000) (g : Ig) (hg : IgOk g) (hev : g = none ∨ evenF (a.nodes + b.nodes) a b) (va vb vg : Value) (w : World) (h1 : RA w 0 a va) (h2 : RA w 0 b vb) (h3 : IgAt w vg g) :
    Calls Try.prog 65 #[va, vb, vg] w (DiffPost (a.nodes + b.nodes) g a b w) := by
  have HC := Lib.hid (diff_any (a.nodes + b.nodes) a b (Nat.le_refl _) ha han hb hbn hsa hsb g hg hev va vb vg w h1 h2 h3)
  clear h1 h2 h3 ha han hb hbn hsa hsb hg hev
  go_enter Try.func65, Try.ntmps65
  go_wp2_with (go_at_call 92; refine (HC.out).mono ?_; rintro e w1 ⟨v, ds, rfl, hp, hd, hx⟩; have HP := Lib.hid hp; have HD := Lib.hid hd; have HX := Lib.hid hx; clear hp hd hx HC)
  go_ret
  exact ⟨_, ds, rfl, HP.out, HD.out, HX.out⟩

/-! ### lists of places -/

/-- a fragment more on a path of the call's own -/
theorem wpList_frag {ops : Array Oper} {rest : List Oper} {o : Oper} {a : Act} {Q : Exit → Act → World → Prop} (s x : Operand) (hgd : o.guard = none)
    (ho : o.op = .call { callee := .builtin .append, args := #[s, x], argTypes := #[32, 32] })
    (w w1 : World) (v : Value) (p : List Step) (st : Step) (f : Fr) (cs : Array Value) (hcs : cs = f.cells.toArray) (hG : Gath w1 w.heap.size v p) (hf : FrOk w1 st f) (hX : Ext w w1) (hp : p.length ≤ 1000000)
    (H : Nat) (hH : w1.heap.size = H) (hs : a.eval s = v) (hx : a.eval x = .slice (some ⟨H, 0, none⟩) 1 1)
    (h : ∀ g c w', Gath w' w.heap.size (.slice (some ⟨g, 0, none⟩) (p.length + 1) c) (p ++ [st]) → Ext w w' → wpList Try.prog ops Q rest (a.put o.dst (.slice (some ⟨g, 0, none⟩) (p.length + 1) c)) w') :
    wpList Try.prog ops Q (o :: rest) a (w1.alloc (.cells cs 38)) := by
  obtain ⟨i0, hi, hz0, hz1, hz2⟩ := info_parts Try.infoFrag
  subst hcs hH
  obtain ⟨fs, g1, g2, g3⟩ := hG
  have EX : Ext w1 (w1.alloc (.cells f.cells.toArray 38)) := (Ext.refl w1).alloc _
  refine wpList_append_lies _ hgd s x 32 ho w.heap.size 38 i0 zFrag 13 216 Try.underlying32 hi hz0 hz1 hz2 rfl (by decide) v p.length (fs.flatMap Fr.cells) hs (ownsRow_ext g3 EX)
    ⟨w1.heap.size, 0, none⟩ 1 1 f.cells hx rfl (cells_new w1 f.cells _) (Fr.one f) (by decide) (by unfold maxLen; omega) (by omega) (by have := hX.size; simp; omega) (w1.heap.size + 1) (by simp) ?_
  intro g c w' hown hgrow hat hlt
  refine h g c w' (Gath.snoc (f := f) g1 (fun i hi hi' => (g2 i hi hi').keep (t := 1000000) (by decide) (KT.of_keepB EX.keepB)) (ownsRow_ext g3 EX) (hf.keep (t := 1000000) (by decide) (KT.of_keepB EX.keepB)) hgrow hown) ?_
  exact (Ext.trans hX EX).grown hgrow (Ext.trans hX EX).size (fun k hk => (g3.lt k hk).1)

def frW : Fr := ⟨5, ByteArray.empty, none, 0, 0⟩
/-- a place as impl.Diff tells it: the whole is a wildcard -/
def GP (w : World) (v : Value) (p : List Step) : Prop := (p = [] → w.ownsRow 0 38 13 v 1 frW.cells) ∧ (p ≠ [] → PathAt w v p)
theorem ownsRow_KT {t e : TypeId} (he : e ≠ t) {w w' : World} (k : KT t w w') {base size n : Nat} {v : Value} {xs : List Value} (h : w.ownsRow base e size v n xs) : w'.ownsRow base e size v n xs := by
  refine ⟨h.1, ?_⟩
  rcases h.2 with h | ⟨g, cap, cur, rfl, hb, hh, rest⟩
  · exact Or.inl h
  · exact Or.inr ⟨g, cap, cur, rfl, hb, k g _ _ he hh, rest⟩

/-- what may stand in a list of places -/
structure PQ (Q : World → Value → List Step → Prop) : Prop where
  keep : ∀ {t : TypeId} {w w' : World} {v : Value} {p : List Step}, 3 ≠ t → 38 ≠ t → KT t w w' → Q w v p → Q w' v p
  shape : ∀ {w : World} {v : Value} {p : List Step}, Q w v p → ∃ a n c, v = .slice a n c
theorem GP.pq : PQ GP :=
  ⟨fun {t w w' v p} ht ht' k h => ⟨fun e => ownsRow_KT ht' k (h.1 e), fun e => (h.2 e).keep ht ht' k⟩, fun {w v p} h => by
    by_cases e : p = []
    · rcases (h.1 e).2 with ⟨e, _⟩ | ⟨g, cap, cur, e, _⟩
      · exact ⟨_, _, _, e⟩
      · exact ⟨_, _, _, e⟩
    · obtain ⟨a, c, e, _⟩ := (h.2 e).sh
      exact ⟨_, _, _, e⟩⟩
theorem PathN.pq : PQ PathN :=
  ⟨fun {t w w' v p} ht ht' k h => ⟨h.1.keep ht ht' k, h.2⟩, fun {w v p} h => by
    obtain ⟨a, c, e, _⟩ := h.1.sh
    exact ⟨_, _, _, e⟩⟩
theorem PQ.ext {Q : World → Value → List Step → Prop} (hQ : PQ Q) {w w' : World} {v : Value} {p : List Step} (k : Ext w w') (h : Q w v p) : Q w' v p := hQ.keep (t := 1000000) (by decide) (by decide) (KT.of_keepB k.keepB) h
/-- places in a row of the call's own -/
def PLs (Q : World → Value → List Step → Prop) (w : World) (base : Nat) (v : Value) (ps : List (List Step)) : Prop :=
  ∃ vs : List Value, vs.length = ps.length ∧ (∀ i, (h : i < ps.length) → (h' : i < vs.length) → Q w vs[i] ps[i]) ∧ w.ownsRow base 32 1 v ps.length vs
theorem PLs.nil (Q : World → Value → List Step → Prop) (w : World) (base : Nat) : PLs Q w base (.slice none 0 0) [] := ⟨[], rfl, fun i h => by simp at h, World.ownsRow_nil _ _ _ _⟩
theorem PLs.ext {Q : World → Value → List Step → Prop} (hQ : PQ Q) {w w' : World} (k : Ext w w') {base : Nat} {v : Value} {ps : List (List Step)} (h : PLs Q w base v ps) : PLs Q w' base v ps := by
  obtain ⟨vs, h1, h2, h3⟩ := h
  exact ⟨vs, h1, fun i hi hi' => hQ.ext k (h2 i hi hi'), ownsRow_ext h3 k⟩
theorem PLs.base {Q : World → Value → List Step → Prop} {w : World} {base base' : Nat} {v : Value} {ps : List (List Step)} (h : PLs Q w base v ps) (hb : base' ≤ base) : PLs Q w base' v ps := by
  obtain ⟨vs, h1, h2, h3⟩ := h
  exact ⟨vs, h1, h2, ownsRow_base h3 hb⟩
theorem PLs.shape {Q : World → Value → List Step → Prop} {w : World} {base : Nat} {v : Value} {ps : List (List Step)} (h : PLs Q w base v ps) : ∃ a c, v = .slice a ps.length c ∧ (∀ i, i < ps.length → ∃ g u, a = some ⟨g, 0, none⟩ ∧ w.cell? ⟨g, i, none⟩ = some u ∧ ∃ p, ps[i]? = some p ∧ Q w u p) := by
  obtain ⟨vs, h1, h2, h3⟩ := h
  rcases h3.2 with ⟨e, h0⟩ | ⟨g, cap, cur, rfl, hb, hh, hc, rest⟩
  · exact ⟨none, 0, by rw [h0]; exact e, fun i hi => by omega⟩
  · refine ⟨_, cap, rfl, fun i hi => ⟨g, vs[i]'(by omega), rfl, ?_, ps[i], List.getElem?_eq_getElem hi, h2 i hi (by omega)⟩⟩
    have := h3.cells (g := g) rfl i (vs[i]'(by omega)) (List.getElem?_eq_getElem (by omega))
    rw [Addr.add_lit, Nat.zero_add] at this
    exact this
/-- a place more in a list of the call's own -/
theorem wpList_place {Qp : World → Value → List Step → Prop} (hQ : PQ Qp) {ops : Array Oper} {rest : List Oper} {o : Oper} {a : Act} {Q : Exit → Act → World → Prop} (s x : Operand) (hgd : o.guard = none)
    (ho : o.op = .call { callee := .builtin .append, args := #[s, x], argTypes := #[30, 30] })
    (w w1 : World) (v u : Value) (ps : List (List Step)) (p : List Step) (hP : PLs Qp w1 w.heap.size v ps) (hu : Qp w1 u p) (hX : Ext w w1) (hp : ps.length ≤ 1000000)
    (H : Nat) (hH : w1.heap.size = H) (hs : a.eval s = v) (hx : a.eval x = .slice (some ⟨H, 0, none⟩) 1 1)
    (h : ∀ g c w', PLs Qp w' w.heap.size (.slice (some ⟨g, 0, none⟩) (ps.length + 1) c) (ps ++ [p]) → Ext w w' → wpList Try.prog ops Q rest (a.put o.dst (.slice (some ⟨g, 0, none⟩) (ps.length + 1) c)) w') :
    wpList Try.prog ops Q (o :: rest) a (w1.alloc (.cells #[u] 32)) := by
  obtain ⟨i0, hi, hz0, hz1, hz2⟩ := info_parts Try.infoPath
  subst hH
  have EX : Ext w1 (w1.alloc (.cells #[u] 32)) := (Ext.refl w1).alloc _
  obtain ⟨vs, h1, h2, h3⟩ := hP
  obtain ⟨a9, n9, c9, hu9⟩ := hQ.shape hu
  refine wpList_append_lies _ hgd s x 30 ho w.heap.size 32 i0 (.slice none 0 0) 1 24 Try.underlying30 hi hz0 hz1 hz2 rfl (by decide) v ps.length vs hs (ownsRow_ext h3 EX)
    ⟨w1.heap.size, 0, none⟩ 1 1 [u] hx rfl (cell_one_new _ _ _) (by intro y hy; simp at hy; subst hy; rw [hu9]; rfl) (by decide) (by unfold maxLen; omega) (by omega) (by have := hX.size; simp; omega) (w1.heap.size + 1) (by simp) ?_
  intro g c w' hown hgrow hat hlt
  have kt := KT.of_own (ownsRow_ext h3 EX) hgrow
  refine h g c w' ⟨vs ++ [u], by simp [h1], fun i hi hi' => ?_, by simpa using hown⟩ ((Ext.trans hX EX).grown hgrow (Ext.trans hX EX).size (fun k hk => (h3.lt k hk).1))
  by_cases hc : i < ps.length
  · rw [List.getElem_append_left hc, List.getElem_append_left (by omega)]
    exact hQ.keep (by decide) (by decide) kt (hQ.ext EX (h2 i hc (by omega)))
  · have hi2 : i = ps.length := by simp at hi; omega
    subst hi2
    rw [List.getElem_append_right (Nat.le_refl _), List.getElem_append_right (by omega)]
    simp only [Nat.sub_self, h1, List.getElem_singleton]
    exact hQ.keep (by decide) (by decide) kt (hQ.ext EX hu)

def TrailPost (p : List Step) (w : World) (e : Ending) (w' : World) : Prop := ∃ v, e = .returned v ∧ GP w' v p ∧ Ext w w'

set_option maxRecDepth 20000 in
set_option maxHeartbeats 2000000 in
theorem trailOf_whole (b c : Nat) (w : World) (h : w.cell? ⟨b, 0, none⟩ = some .nilIface) : Calls Try.prog 64 #[.slice (some ⟨b, 0, none⟩) 1 c] w (TrailPost [] w) := by
  obtain ⟨i0, hi, hz0, hz1, hz2⟩ := info_parts Try.infoFrag
  go_enter Try.func64, Try.ntmps64
  go_wp2
  refine wp_loop_rounds 2 ?_
  rw [rounds_succ]
  go_wp2_with (at_builtin; refine wpList_append_lies _ rfl (.tmp 16) (.tmp 18) 32 rfl w.heap.size 38 i0 zFrag 13 216 Try.underlying32 hi hz0 hz1 hz2 rfl (by decide) (.slice none 0 0) 0 [] rfl (World.ownsRow_nil _ _ _ _) ⟨w.heap.size, 0, none⟩ 1 1 frW.cells rfl rfl (cells_new w frW.cells _) (Fr.one _) (by decide) (by unfold maxLen; omega) (by omega) (by simp) (w.heap.size + 1) (by simp) ?_; intro g9 c9 w9 hown hgrow hat hlt; have HO := Lib.hid hown; have HX : Hid (Ext w w9) := ((Ext.refl w).alloc (.cells frW.cells.toArray 38)).grown hgrow (by simp) (fun k hk => by cases hk); clear hown hgrow hat hlt)
  rw [rounds_succ]
  go_wp2
  go_ret
  exact ⟨_, rfl, ⟨fun _ => ownsRow_base HO.out (Nat.zero_le _), fun h => absurd rfl h⟩, HX.out⟩

set_option maxRecDepth 20000 in
set_option maxHeartbeats 2000000 in
theorem trailOf_path (p : List Step) (hp : p ≠ []) (hp1 : p.length ≤ 100000) (b c : Nat) (w : World) (h : ∀ i, (h : i < p.length) → w.cell? ⟨b, i, none⟩ = some p[i].val) : Calls Try.prog 64 #[.slice (some ⟨b, 0, none⟩) p.length c] w (TrailPost p w) := by
  have HC := Lib.hid h
  have HP := Lib.hid hp
  clear h hp
  go_enter Try.func64, Try.ntmps64
  go_wp2
  go_loopw [3, 11] (fun o i wr => ∃ m : Nat, m ≤ p.length ∧ i = .int .i64 m ∧ Gath wr w.heap.size o (p.take m) ∧ Ext w wr) (fun _ i _ => p.length - (intOf i).toNat)
  case atStart => exact ⟨0, Nat.zero_le _, rfl, gath_nil _ _, Ext.refl _⟩
  case round =>
    obtain ⟨m, hm, rfl, hg, hx⟩ := hrel
    have HG := Lib.hid hg
    have HX := Lib.hid hx
    clear hg hx
    by_cases hlt : m < p.length
    · have hcell := HX.out.keep _ _ (HC.out m hlt)
      have HT : Hid (p.take (m + 1) = p.take m ++ [p[m]]) := List.take_succ_eq_append_getElem hlt
      have hl : (p.take m).length = m := by rw [List.length_take]; omega
      have HL := Lib.hid hl
      clear hl
      generalize p[m] = st at hcell HT
      rcases st with s1 | n1
      · simp only [Step.val] at hcell
        go_wp2_with (at_builtin; refine wpList_frag (.tmp 23) (.tmp 26) rfl rfl w wr u3 (p.take m) (.child s1) ⟨3, s1, none, 0, 0⟩ _ rfl HG.out ⟨rfl, rfl⟩ HX.out (by rw [HL.out]; omega) wr.heap.size rfl rfl rfl ?_; intro g9 c9 w9 hg9 hx9; have HG9 := Lib.hid hg9; have HX9 := Lib.hid hx9; clear hg9 hx9)
        go_roundw
        case rel => exact ⟨m + 1, by omega, by go_num, by rw [HT.out]; have h9 := HG9.out; rwa [HL.out] at h9, HX9.out⟩
        case measure => simp [intOf]; omega
      · simp only [Step.val] at hcell
        have EX : Hid (Ext wr (wr.alloc (.cells #[.int .i64 n1] 3))) := (Ext.refl wr).alloc _
        go_wp2_with (at_builtin; refine wpList_frag (.tmp 31) (.tmp 35) rfl rfl w (wr.alloc (.cells #[.int .i64 n1] 3)) u3 (p.take m) (.nth n1) ⟨4, ByteArray.empty, some ⟨wr.heap.size, 0, none⟩, 1, 1⟩ _ rfl (HG.out.keepB EX.out) ⟨rfl, rfl, _, rfl, heap_alloc_new _ _⟩ (Ext.trans HX.out EX.out) (by rw [HL.out]; omega) (wr.heap.size + 1) (by simp) rfl rfl ?_; intro g9 c9 w9 hg9 hx9; have HG9 := Lib.hid hg9; have HX9 := Lib.hid hx9; clear hg9 hx9)
        go_roundw
        case rel => exact ⟨m + 1, by omega, by go_num, by rw [HT.out]; have h9 := HG9.out; rwa [HL.out] at h9, HX9.out⟩
        case measure => simp [intOf]; omega
    · have hme : m = p.length := by omega
      subst hme
      have HF : Hid (PathAt wr u3 p) := by have := HG.out.path; rwa [List.take_length] at this
      clear HG
      go_wp2
      go_ret
      exact ⟨_, rfl, ⟨fun e => absurd e HP.out, fun _ => HF.out⟩, HX.out⟩

theorem trailOf_any (d : DI) (hp : d.2.2.length ≤ 100000) (w : World) (h : APath w d) : Calls Try.prog 64 #[dval d] w (TrailPost d.2.2 w) := by
  obtain ⟨g, c, p⟩ := d
  cases p with
  | nil => exact trailOf_whole g c w (h.cell 0 .nilIface rfl)
  | cons st p =>
    have e : (enc (st :: p)).length = (st :: p).length := by simp [enc]
    have := trailOf_path (st :: p) (by simp) hp g c w (fun i hi => h.cell i _ (by
      show (enc (st :: p))[i]? = _
      rw [enc_cons, ← List.map_cons, List.getElem?_map, List.getElem?_eq_getElem hi]
      rfl))
    simpa [dval, e] using this
end Go.Proofs.Ytikpedfggbibpaa
