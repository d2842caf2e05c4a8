/- Walks: allPlaces. -/
import Derived.Test.YtikpedfggbibpaaZ19
import Derived.Deep.CutRange
import Derived.Laws.CopyOwn
namespace Go.Proofs.Ytikpedfggbibpaa
open Go.RowKit Go.Lib
set_option linter.unusedVariables false
set_option linter.unusedSimpArgs false

theorem Try.infoPath : (Try.prog.info? 32).map (fun i => (i.zero, i.size, i.bytes)) = some (some (.slice none 0 0), 1, 24) := by kernel_rfl
theorem PathAt.sh {w : World} {v : Value} {p : List Step} (h : PathAt w v p) : ∃ a c, v = .slice a p.length c ∧ p.length ≤ c := by
  obtain ⟨fs, h1, h2, h3⟩ := h
  rcases h3.2 with ⟨rfl, h0⟩ | ⟨g, cap, cur, rfl, hb, hh, hc, rest⟩
  · exact ⟨none, 0, by rw [h0], by omega⟩
  · exact ⟨_, _, rfl, hc⟩
theorem steps_len (j : J) (hj : j.ok) : j.steps.length ≤ j.nodes := by
  cases j with
  | arr l => have := J.nodesL_len l; simp [J.steps, J.nodes]; omega
  | obj ks l => have := J.nodesL_len l; unfold J.ok at hj; have h := sortK_length ks; simp [J.steps, J.nodes]; omega
  | _ => simp [J.steps]
/-- the row that a fresh slice of one element owns -/
theorem own_fresh (w : World) (base e size : Nat) (cs : List Value) (hb : base ≤ w.heap.size) (hs : cs.length = size) : (w.alloc (.cells cs.toArray e)).ownsRow base e size (.slice (some ⟨w.heap.size, 0, none⟩) 1 1) 1 cs :=
  ⟨by omega, .inr ⟨w.heap.size, 1, cs.toArray, rfl, hb, heap_alloc_new _ _, Nat.le_refl _, by decide, by simp; omega, by simp [← hs]⟩⟩

theorem FAt.keep {w w' : World} (k : Keep w w') {b o : Nat} {f : Fr} (h : FAt w b o f) : FAt w' b o f :=
  ⟨k _ _ h.h0, k _ _ h.h1, k _ _ h.h2, k _ _ h.h3, k _ _ h.h4, k _ _ h.h5, k _ _ h.h6, k _ _ h.h7, k _ _ h.h8, k _ _ h.h9, k _ _ h.h10, k _ _ h.h11, k _ _ h.h12⟩
theorem FrOk.ext {w w' : World} (k : Ext w w') {st : Step} {f : Fr} (h : FrOk w st f) : FrOk w' st f := h.keep (t := 1000000) (by decide) (KT.of_keepB k.keepB)

theorem six_stores {w : World} {b : Nat} {t : TypeId} {z0 z1 z2 z3 z4 z5 : Value} (hg : w.heap[b]? = some (.cells #[z0, z1, z2, z3, z4, z5] t (0, 0))) (v0 v1 v2 v3 v4 v5 : Value) :
    (w.cell? ⟨b, 0, none⟩ = some z0 ∧ w.frozen? ⟨b, 0, none⟩ = false ∧ w.setCell ⟨b, 0, none⟩ v0 = w.setRow b #[v0, z1, z2, z3, z4, z5]) ∧
    ((w.setRow b #[v0, z1, z2, z3, z4, z5]).cell? ⟨b, 1, none⟩ = some z1 ∧ (w.setRow b #[v0, z1, z2, z3, z4, z5]).frozen? ⟨b, 1, none⟩ = false ∧ (w.setRow b #[v0, z1, z2, z3, z4, z5]).setCell ⟨b, 1, none⟩ v1 = w.setRow b #[v0, v1, z2, z3, z4, z5]) ∧
    ((w.setRow b #[v0, v1, z2, z3, z4, z5]).cell? ⟨b, 2, none⟩ = some z2 ∧ (w.setRow b #[v0, v1, z2, z3, z4, z5]).frozen? ⟨b, 2, none⟩ = false ∧ (w.setRow b #[v0, v1, z2, z3, z4, z5]).setCell ⟨b, 2, none⟩ v2 = w.setRow b #[v0, v1, v2, z3, z4, z5]) ∧
    ((w.setRow b #[v0, v1, v2, z3, z4, z5]).cell? ⟨b, 3, none⟩ = some z3 ∧ (w.setRow b #[v0, v1, v2, z3, z4, z5]).frozen? ⟨b, 3, none⟩ = false ∧ (w.setRow b #[v0, v1, v2, z3, z4, z5]).setCell ⟨b, 3, none⟩ v3 = w.setRow b #[v0, v1, v2, v3, z4, z5]) ∧
    ((w.setRow b #[v0, v1, v2, v3, z4, z5]).cell? ⟨b, 4, none⟩ = some z4 ∧ (w.setRow b #[v0, v1, v2, v3, z4, z5]).frozen? ⟨b, 4, none⟩ = false ∧ (w.setRow b #[v0, v1, v2, v3, z4, z5]).setCell ⟨b, 4, none⟩ v4 = w.setRow b #[v0, v1, v2, v3, v4, z5]) ∧
    ((w.setRow b #[v0, v1, v2, v3, v4, z5]).cell? ⟨b, 5, none⟩ = some z5 ∧ (w.setRow b #[v0, v1, v2, v3, v4, z5]).frozen? ⟨b, 5, none⟩ = false ∧ (w.setRow b #[v0, v1, v2, v3, v4, z5]).setCell ⟨b, 5, none⟩ v5 = w.setRow b #[v0, v1, v2, v3, v4, v5]) := by
  have key : ∀ (cs : Array Value) (i : Nat) (z v : Value), cs[i]? = some z → (w.setRow b cs).cell? ⟨b, i, none⟩ = some z ∧ (w.setRow b cs).frozen? ⟨b, i, none⟩ = false ∧ (w.setRow b cs).setCell ⟨b, i, none⟩ v = w.setRow b (cs.setIfInBounds i v) := fun cs i z v h =>
    ⟨(cell_setRow_same w b i _ cs t _ hg).trans h, frozen_of_row _ _ _ _ _ (setRow_heap w b _ cs t _ hg), (setCell_eq_setRow (w.setRow b cs) b i cs t (0, 0) v (setRow_heap w b _ cs t _ hg)).trans (setRow_setRow w b _ _)⟩
  refine ⟨⟨?_, frozen_of_row _ _ _ _ _ hg, setCell_eq_setRow w b 0 _ t (0, 0) v0 hg⟩, key _ 1 _ v1 rfl, key _ 2 _ v2 rfl, key _ 3 _ v3 rfl, key _ 4 _ v4 rfl, key _ 5 _ v5 rfl⟩
  rw [cell_of_row _ _ _ _ _ _ hg]
  rfl

theorem Places.kept {w w' : World} {base : Nat} {v : Value} {ps : List (List Step)} {row : Option Nat} (h : Places w base v ps) (hg : w.grownBy w' row) (hk : KT 32 w w') (hne : v.ownBlock ≠ row) : Places w' base v ps := by
  obtain ⟨vs, h1, h2, h3⟩ := h
  exact ⟨vs, h1, fun i hi hi' => ⟨(h2 i hi hi').1.keep (by decide) (by decide) hk, (h2 i hi hi').2⟩, h3.kept hg (Or.inr hne)⟩

theorem under_mono (j : J) : ∀ (d m : Nat), m + d ≤ j.steps.length → j.under m ≤ j.under (m + d)
  | 0, m, _ => Nat.le_refl _
  | d + 1, m, h => by
    have h1 := under_mono j d m (by omega)
    have h2 := J.under_succ (j := j) (m := m + d) (by omega)
    rw [Nat.add_succ, Nat.succ_eq_add_one] at *
    omega
theorem has_len : ∀ (p : List Step) (j : J), j.ok → J.has p j → p.length ≤ j.nodes
  | [], j, _, _ => by simp
  | st :: p, j, hj, h => by
    unfold J.has at h
    obtain ⟨⟨q, hq⟩, h2⟩ := h
    have h1 := J.at1_lt hj hq
    have h3 := has_len p _ (J.at1_ok hj hq) h2
    simp only [List.length_cons]
    omega
theorem flat_len (fs : List Fr) : (fs.flatMap Fr.cells).length = fs.length * 13 := by
  induction fs with
  | nil => rfl
  | cons f fs ih => rw [List.flatMap_cons, List.length_append, ih, List.length_cons]; show 13 + _ = _; omega
theorem flat_one (fs : List Fr) : ∀ u ∈ fs.flatMap Fr.cells, u.oneCell' = true := fun u hu => by
  obtain ⟨f, _, hf⟩ := List.mem_flatMap.1 hu
  exact Fr.one f u hf
/-- a path of at least one step, as it lies -/
theorem PathAt.news {w : World} {v : Value} {p : List Step} (h : PathAt w v p) (hp : 0 < p.length) :
    ∃ g cap, ∃ fs : List Fr, v = .slice (some ⟨g, 0, none⟩) p.length cap ∧ fs.length = p.length ∧ (∀ i, (h : i < p.length) → (h' : i < fs.length) → FrOk w p[i] fs[i]) ∧ (∀ j u, (fs.flatMap Fr.cells)[j]? = some u → w.cell? ((⟨g, 0, none⟩ : Addr).add j) = some u) := by
  obtain ⟨fs, h1, h2, h3⟩ := h
  rcases h3.2 with ⟨_, h0⟩ | ⟨g, cap, cur, rfl, hb, hh, hc, rest⟩
  · omega
  · exact ⟨g, cap, fs, rfl, h1, h2, h3.cells rfl⟩
theorem other_row {w : World} {base e e' size size' n n' g cap : Nat} {base' : Nat} {v : Value} {xs xs' : List Value} (h : w.ownsRow base e size v n xs) (h' : w.ownsRow base' e' size' (.slice (some ⟨g, 0, none⟩) n' cap) n' xs') (hne : e ≠ e') : ∀ k, v.ownBlock = some k → k ≠ g := by
  rintro k hk rfl
  rcases h.2 with ⟨rfl, _⟩ | ⟨g1, cap1, cur1, rfl, _, hh, _⟩
  · cases hk
  · simp only [Value.ownBlock, Option.some.injEq] at hk
    subst hk
    rcases h'.2 with ⟨h2, _⟩ | ⟨g2, cap2, cur2, h2, _, hh2, _⟩
    · cases h2
    · simp only [Value.slice.injEq, Option.some.injEq, Addr.mk.injEq, and_true, true_and] at h2
      obtain ⟨rfl, _⟩ := h2
      rw [hh] at hh2
      simp only [Option.some.injEq, Obj.cells.injEq] at hh2
      exact hne hh2.2.1

theorem inner_step {wb wr W3 w4 : World} {B base base' g8 n8 c8 : Nat} {o o' v4 u : Value} {S p : List Step} {ps rest : List (List Step)} {vs : List Value} (X3 : Ext wr W3)
    (h1 : vs.length = ps.length) (h2 : ∀ i, (h : i < ps.length) → (h' : i < vs.length) → PathN wr vs[i] ps[i]) (ho : wr.ownsRow base 32 1 o ps.length vs) (hu : PathN W3 u p)
    (hg : W3.grownBy w4 o.ownBlock) (ho' : w4.ownsRow base 32 1 o' (ps.length + 1) (vs ++ [u])) (hat : o'.ownBlock = o.ownBlock ∨ ∃ k, o'.ownBlock = some k ∧ W3.heap.size ≤ k)
    (hne : ∀ k, o.ownBlock = some k → k ≠ g8) (hg8 : g8 < wr.heap.size) (hB : Below B wb wr) (hBb : B ≤ base) (hBw : B ≤ wr.heap.size) (hP : PathAt wr v4 S) (hR : Places wr base' (.slice (some ⟨g8, 0, none⟩) n8 c8) rest) :
    Places w4 base o' (ps ++ [p]) ∧ (∀ k, o'.ownBlock = some k → k ≠ g8) ∧ Below B wb w4 ∧ PathAt w4 v4 S ∧ Places w4 base' (.slice (some ⟨g8, 0, none⟩) n8 c8) rest := by
  have ho3 := ownsRow_ext ho X3
  have kt := KT.of_own ho3 hg
  refine ⟨Places.snoc h1 (fun i h h' => ⟨(h2 i h h').1.ext X3.keepB, (h2 i h h').2⟩) ho3 hu hg ho', fun k hk => ?_, ?_, ?_, ?_⟩
  · rcases hat with h | ⟨k', h, hk'⟩
    · exact hne k (h.symm.trans hk)
    · rw [h] at hk
      cases hk
      have := X3.size
      omega
  · exact Below.grown (hB.trans (X3.mono hBw)) hg (by have := hB.size; have := X3.size; omega) (fun k hk => Nat.le_trans hBb (ho.lt k hk).1)
  · exact (hP.ext X3.keepB).keep (by decide) (by decide) kt
  · exact (hR.ext X3).kept hg kt (fun h => hne g8 h.symm rfl)
theorem cons_path {w : World} {v : Value} {st : Step} {p : List Step} {f : Fr} {fs : List Fr} (hf : FrOk w st f) (hl : fs.length = p.length) (h : ∀ i, (h : i < p.length) → (h' : i < fs.length) → FrOk w p[i] fs[i])
    (ho : w.ownsRow 0 38 13 v (1 + p.length) (f.cells ++ fs.flatMap Fr.cells)) : PathN w v (st :: p) := by
  refine ⟨⟨f :: fs, by simp [hl], fun i hi hi' => ?_, ?_⟩, fun h => by cases h⟩
  · cases i with
    | zero => exact hf
    | succ i => exact h i (by simpa using hi) (by simpa using hi')
  · rw [List.flatMap_cons, List.length_cons, Nat.add_comm]
    exact ho

theorem step_append_none {P : Program} {ops : Array Oper} {o : Oper} {a : Act} {w : World} {K : Act → World → Prop} {Q : Exit → Act → World → Prop} {E : Prop} (hgd : o.guard = none) (s x : Operand) (t : TypeId)
    (ho : o.op = .call { callee := .builtin .append, args := #[s, x], argTypes := #[t, t] }) (base : Nat) (e : TypeId) (i : TypeInfo) (size : Nat) (ht : P.underlying t = some (.slice e)) (hi : P.info? e = some i) (hsize : i.size = size)
    (v : Value) (n : Nat) (xs : List Value) (hs : a.eval s = v) (hown : w.ownsRow base e size v n xs) (hx : a.eval x = .slice none 0 0) (h : K (a.put o.dst v) w) :
    if Region.wanted o (yielded ops a.tmps) = true then Oper.wp P o a w K Q else E := by
  have hw : Region.wanted o (yielded ops a.tmps) = true := by simp [Region.wanted, hgd]
  rw [if_pos hw]
  have hrun := run_append_owned_none (P := P) w base t o.type e i size ht hi v n xs hown
  unfold Oper.wp
  simp [execOp, ho, resolve, invoke, builtin, hs, hx, hrun, Result.andThen]
  exact h

theorem Places.base {w : World} {base base' : Nat} {v : Value} {ps : List (List Step)} (h : Places w base v ps) (hb : base' ≤ base) : Places w base' v ps := by
  obtain ⟨vs, h1, h2, h3⟩ := h
  exact ⟨vs, h1, h2, ownsRow_base h3 hb⟩

def AllAt (N : Nat) : Prop := ∀ (j : J), j.nodes ≤ N → j.nodes ≤ 1000 → j.ok → ∀ (v : Value) (w : World), RV w (V.ofJ j) v → Calls Try.prog 10 #[v] w (PlacesPost j w)

set_option maxRecDepth 20000 in
set_option maxHeartbeats 4000000 in
theorem allPlaces_step (N : Nat) (ih : AllAt N) : AllAt (N + 1) := by
  intro j hN hsm hok v w h
  have HM : Hid (∀ w1, Ext w w1 → Calls Try.prog 35 #[v] w1 (StepsPost j w1)) := fun w1 he => members_any j hsm hok v w1 (RV.keep he.keep _ h)
  have HAT : Hid (∀ (w1 : World) (st : Step) (q : Nat) (f : Fr) (b o c : Nat), Ext w w1 → j.kid st q → FAt w1 b o f → FrOk w1 st f → Calls Try.prog 36 #[v, .slice (some ⟨b, o, none⟩) 1 c] w1 (AtPost w j q w1)) :=
    fun w1 st q f b o c he hkid hf hfo => at_one j st q hsm hok hkid f b o c v w w1 he.keep h hf hfo
  have HSL : Hid (j.steps.length ≤ 1000) := by have := steps_len j hok; exact Nat.le_trans this hsm
  obtain ⟨k, n, f, s, al, ll, lc, ak, kl, kc, rfl⟩ := h.sh
  have IH := Lib.hid ih
  have HN := Lib.hid hN
  have HSM := Lib.hid hsm
  have HOK := Lib.hid hok
  clear h ih hN hsm hok
  obtain ⟨i0, hi, hz0, hz1, hz2⟩ := info_parts Try.infoFrag
  obtain ⟨i1, hi', hz0', hz1', hz2'⟩ := info_parts Try.infoPath
  go_enter Try.func10, Try.ntmps10
  go_wp2_with (go_at_call 35; refine (HM.out _ (((Ext.refl _).alloc _).alloc _)).mono ?_; rintro e w3 ⟨v4, rfl, hp4, hx3⟩; obtain ⟨a4, c4, rfl, hc4⟩ := hp4.sh; have HP4 := Lib.hid hp4; have HX3 := Lib.hid hx3; clear hp4 hx3 HM)
  have hns := HSL.out
  generalize hS : j.steps = S at *
  have HS := Lib.hid hS
  clear hS
  go_loopw [3, 5] (fun o i wr => ∃ m : Nat, m ≤ S.length ∧ i = .int .i64 m ∧ (∃ ps, ps.length = 1 + j.under m ∧ (∀ p ∈ ps, J.has p j) ∧ Places wr (w.heap.size + 1) o ps) ∧
      Below (w.heap.size + 1) (w.alloc (.cells #[.int .i64 k, .int .i64 n, .float .f64 f, .string s, .slice al ll lc, .slice ak kl kc] 26)) wr ∧ PathAt wr (.slice a4 S.length c4) S)
    (fun _ i _ => S.length - (intOf i).toNat)
  case atStart =>
    refine ⟨0, Nat.zero_le _, rfl, ⟨[[]], by simp [J.under], fun p hp => ?_, ?_⟩, HX3.out.mono (by simp) |> fun h => (Below.alloc (Below.refl _ _) (by simp) _).trans h, HP4.out⟩
    · simp only [List.mem_singleton] at hp
      subst hp
      unfold J.has
      trivial
    · refine Places.ext HX3.out ⟨[.slice none 0 0], rfl, fun i h h' => ?_, ?_⟩
      · have hi0 : i = 0 := by simp at h; omega
        subst hi0
        exact ⟨(gath_nil _ 0).path, fun _ => rfl⟩
      · have := own_fresh (w.alloc (.cells #[.int .i64 k, .int .i64 n, .float .f64 f, .string s, .slice al ll lc, .slice ak kl kc] 26)) (w.heap.size + 1) 32 1 [.slice none 0 0] (by simp) rfl
        rw [World.size_alloc] at this
        exact this
  case round =>
    obtain ⟨m, hm, rfl, ⟨ps, hpl, hps, hpp⟩, hb, hp⟩ := hrel
    obtain ⟨b0, b1, b2, b3, b4, b5⟩ := box_cells hb
    have HB := Lib.hid hb
    have HPL := Lib.hid hpl
    have HPS := Lib.hid hps
    have HPP := Lib.hid hpp
    have HP := Lib.hid hp
    clear hb hpl hps hpp hp
    by_cases hlt : m < S.length
    · obtain ⟨q, hkid⟩ : ∃ q, j.kid S[m] q := by
        have h0 := HS.out
        subst h0
        exact steps_kid HOK.out hlt
      obtain ⟨b9, c9, fr, e9, hfa, hfo, hc9⟩ := HP.out.frag m hlt
      simp only [Value.slice.injEq, true_and] at e9
      obtain ⟨rfl, rfl⟩ := e9
      have HFA := Lib.hid hfa
      have HFO := Lib.hid hfo
      have HKID := Lib.hid hkid
      have EX : Hid (Ext w wr) := (Ext.refl w).trans ((Below.alloc (Below.refl _ _) (Nat.le_refl _) _).trans (HB.out.mono (by omega)))
      clear hfa hfo hkid
      have i0' : (0 : Int) ≤ (m : Int) := Int.natCast_nonneg _
      have i1' : (m : Int) + 1 ≤ (S.length : Int) := by omega
      have i2' : (m : Int) + 1 ≤ (c4 : Int) := by omega
      have i3' : (m : Int) ≤ (m : Int) + 1 := by omega
      have i4' : ¬ c4 = m := by omega
      have i5' : IntKind.i64.wrap ((m : Int) + 1) = (m : Int) + 1 := by
        simp [IntKind.wrap, IntKind.bits, IntKind.signed]
        omega
      have hltr : w.heap.size < wr.heap.size := lt_of_cell b0
      have hne1 : w.heap.size ≠ wr.heap.size := by omega
      go_wp2_with fail
      go_cut [6, 7] from 13 to 49 (fun s6 s7 wx => ∃ (BX : Nat) (k' n' : Int) (f' : Nat) (s' : ByteArray) (al' : Option Addr) (ll' lc' : Nat) (ak' : Option Addr) (kl' kc' : Nat), s6 = .pointer (some ⟨BX, 0, none⟩) ∧ s7 = .bool true ∧
          RV w (V.ofJ (j.at1 S[m])) (.agg #[.int .i64 k', .int .i64 n', .float .f64 f', .string s', .slice al' ll' lc', .slice ak' kl' kc']) ∧ Ext wr wx ∧
          wx.cell? ⟨BX, 0, none⟩ = some (.int .i64 k') ∧ wx.cell? ⟨BX, 1, none⟩ = some (.int .i64 n') ∧ wx.cell? ⟨BX, 2, none⟩ = some (.float .f64 f') ∧
          wx.cell? ⟨BX, 3, none⟩ = some (.string s') ∧ wx.cell? ⟨BX, 4, none⟩ = some (.slice al' ll' lc') ∧ wx.cell? ⟨BX, 5, none⟩ = some (.slice ak' kl' kc'))
      case first =>
        go_region_held3 (fun w' => w'.cell? ⟨w.heap.size, 0, none⟩ = some (.int .i64 k) ∧ w'.cell? ⟨w.heap.size, 1, none⟩ = some (.int .i64 n) ∧ w'.cell? ⟨w.heap.size, 2, none⟩ = some (.float .f64 f) ∧
            w'.cell? ⟨w.heap.size, 3, none⟩ = some (.string s) ∧ w'.cell? ⟨w.heap.size, 4, none⟩ = some (.slice al ll lc) ∧ w'.cell? ⟨w.heap.size, 5, none⟩ = some (.slice ak kl kc))
          (first
            | (go_split_ands
               exact ⟨Keep.alloc _ _ _ _ q0, Keep.alloc _ _ _ _ q1, Keep.alloc _ _ _ _ q2, Keep.alloc _ _ _ _ q3, Keep.alloc _ _ _ _ q4, Keep.alloc _ _ _ _ q5⟩)
            | (go_split_ands
               exact ⟨q0, q1, q2, q3, q4, q5⟩)
            | (go_split_ands
               exact ⟨b0, b1, b2, b3, b4, b5⟩)
            | (go_split_ands
               exact ⟨Keep.alloc _ _ _ _ b0, Keep.alloc _ _ _ _ b1, Keep.alloc _ _ _ _ b2, Keep.alloc _ _ _ _ b3, Keep.alloc _ _ _ _ b4, Keep.alloc _ _ _ _ b5⟩)
            | (go_split_ands
               exact ⟨(cell_setRow_other _ _ _ _ hne1).trans q0, (cell_setRow_other _ _ _ _ hne1).trans q1, (cell_setRow_other _ _ _ _ hne1).trans q2, (cell_setRow_other _ _ _ _ hne1).trans q3, (cell_setRow_other _ _ _ _ hne1).trans q4, (cell_setRow_other _ _ _ _ hne1).trans q5⟩)
            | go_keep)
          (first
            | (go_at_call 36; refine (HAT.out _ S[m] q fr b9 (m * 13) (c4 - m) (by first | exact Ext.drew EX.out | exact Ext.alloc (Ext.drew EX.out) _) HKID.out (HFA.out.keep (by first | exact Keep.drew _ | exact (Keep.drew _).trans (Keep.alloc _ _))) (HFO.out.ext (by first | exact Ext.drew (Ext.refl _) | exact Ext.alloc (Ext.drew (Ext.refl _)) _))).mono ?_; rintro e w5 ⟨hq, v', rfl, hrv, hx5⟩
               have hk5 := hx5.keep
               have hlt5 : w.heap.size < w5.heap.size := Nat.lt_of_lt_of_le hltr (by have := hx5.size; simp at this; omega)
               have X5 : Hid (Ext wr w5) := (by first | exact Ext.trans (Ext.drew (Ext.refl wr)) hx5 | exact Ext.trans (Ext.alloc (Ext.drew (Ext.refl wr)) _) hx5)
               have HB5 := Lib.hid (HB.out.trans (X5.out.mono (by omega)))
               obtain ⟨q0, q1, q2, q3, q4, q5⟩ := box_cells HB5.out
               have HRV := Lib.hid hrv
               obtain ⟨k', n', f', s', al', ll', lc', ak', kl', kc', rfl⟩ := hrv.sh
               first
                | (have hh5 := (hx5.block wr.heap.size (Nat.lt_of_lt_of_eq (Nat.lt_succ_self _) (World.size_alloc wr _).symm)).trans (heap_alloc_new wr _)
                   obtain ⟨⟨x0, y0, t0⟩, ⟨x1, y1, t1⟩, ⟨x2, y2, t2⟩, ⟨x3, y3, t3⟩, ⟨x4, y4, t4⟩, ⟨x5, y5, t5⟩⟩ := six_stores hh5 (.int .i64 k') (.int .i64 n') (.float .f64 f') (.string s') (.slice al' ll' lc') (.slice ak' kl' kc')
                   have HH5 := Lib.hid hh5
                   clear hh5)
                | skip
               clear hrv hx5))
        · go_wp2_with fail
          go_meet
          obtain ⟨x0, x1, x2, x3, x4, x5⟩ := box_cells' (w := w5) (c0 := .int .i64 k') (c1 := .int .i64 n') (c2 := .float .f64 f') (c3 := .string s') (c4 := .slice al' ll' lc') (c5 := .slice ak' kl' kc') (t := 26) (Keep.refl _)
          exact ⟨w5.heap.size, k', n', f', s', al', ll', lc', ak', kl', kc', rfl, rfl, by rw [J.at1_kid HOK.out HKID.out]; exact HRV.out, X5.out.alloc _, x0, x1, x2, x3, x4, x5⟩
        · go_wp2_with fail
          go_meet
          have hc := fun i => cell_setRow_same w5 wr.heap.size i _ #[.int .i64 k', .int .i64 n', .float .f64 f', .string s', .slice al' ll' lc', .slice ak' kl' kc'] _ _ HH5.out
          exact ⟨wr.heap.size, k', n', f', s', al', ll', lc', ak', kl', kc', rfl, rfl, by rw [J.at1_kid HOK.out HKID.out]; exact HRV.out, below_setRow X5.out (Nat.le_refl _) _, hc 0, hc 1, hc 2, hc 3, hc 4, hc 5⟩
      case rest =>
        obtain ⟨BX, k', n', f', s', al', ll', lc', ak', kl', kc', rfl, rfl, hrv, hxc, x0, x1, x2, x3, x4, x5⟩ := hcut
        have HX := Lib.hid hxc
        have HQ := Lib.hid (IH.out (j.at1 S[m]) (by have h1 := J.at1_lt HOK.out HKID.out; have := HN.out; omega) (by have h1 := J.at1_lt HOK.out HKID.out; have := HSM.out; omega) (J.at1_ok HOK.out HKID.out) _ wc (RV.keep (EX.out.trans hxc).keep _ hrv))
        have HNP : Hid (0 < (j.at1 S[m]).nodes) := J.nodes_pos _
        have HSM9 : Hid ((j.at1 S[m]).nodes ≤ 1000) := by have h1 := J.at1_lt HOK.out HKID.out; have := HSM.out; exact (by omega : (j.at1 S[m]).nodes ≤ 1000)
        clear hrv hxc
        go_wp2_with (go_at_call 10; refine (HQ.out).mono ?_; rintro e w7 ⟨v8, rest, rfl, hrl, hrp, hpl8, hx7⟩; obtain ⟨vs8, l8, p8, o8⟩ := hpl8; have HX7 := Lib.hid hx7; have HRL := Lib.hid hrl; have HRP := Lib.hid hrp; have HP8 := Lib.hid p8; have HO8 := Lib.hid o8; have HL8 := Lib.hid l8; clear hx7 hrl hrp p8 o8 l8 HQ x0 x1 x2 x3 x4 x5)
        have hg8 : ∃ g8 cap8, v8 = .slice (some ⟨g8, 0, none⟩) rest.length cap8 ∧ wc.heap.size ≤ g8 := by
          rcases HO8.out.2 with ⟨rfl, h0⟩ | ⟨g, cap, cur, rfl, hb, hh, hc, _⟩
          · have := HRL.out; have := HNP.out; omega
          · exact ⟨g, cap, rfl, hb⟩
        obtain ⟨g8, cap8, rfl, hg8⟩ := hg8
        have hr0 : rest.length ≤ 1000 := by rw [HRL.out]; exact HSM9.out
        have HX9 : Hid (Ext wr w7) := HX.out.trans HX7.out
        have H30 : Hid (∀ k, u3.ownBlock = some k → k ≠ g8) := fun k hk => by
          obtain ⟨vs, _, _, ho⟩ := HPP.out
          have := (ho.lt k hk).2
          have := HX.out.size
          omega
        go_loopw [3, 9] (fun o i wq => ∃ nn : Nat, nn ≤ rest.length ∧ i = .int .i64 nn ∧ Places wq (w.heap.size + 1) o (ps ++ (rest.take nn).map (S[m] :: ·)) ∧ (∀ k, o.ownBlock = some k → k ≠ g8) ∧
            Below (w.heap.size + 1) (w.alloc (.cells #[.int .i64 k, .int .i64 n, .float .f64 f, .string s, .slice al ll lc, .slice ak kl kc] 26)) wq ∧ PathAt wq (.slice (some ⟨b9, 0, none⟩) S.length c4) S ∧ Places wq wc.heap.size (.slice (some ⟨g8, 0, none⟩) rest.length cap8) rest)
          (fun _ i _ => rest.length - (intOf i).toNat)
        case atStart =>
          exact ⟨0, Nat.zero_le _, rfl, by simpa using HPP.out.ext HX9.out, H30.out, HB.out.trans (HX9.out.mono (by omega)), HP.out.ext HX9.out.keepB, ⟨vs8, HL8.out, HP8.out, HO8.out⟩⟩
        case round =>
          obtain ⟨n9, hn9, rfl, hpp9, hne9, hb9, hp9, hp89⟩ := hrel
          by_cases hlt9 : n9 < rest.length
          · obtain ⟨b9', c9', fr9, e9, hfa, hfo, _⟩ := hp9.frag m hlt
            simp only [Value.slice.injEq, Option.some.injEq, Addr.mk.injEq, and_true, true_and] at e9
            obtain ⟨rfl, rfl⟩ := e9
            obtain ⟨fk, fs, fa, fl, fc⟩ := fr9
            have a0 := hfa.h0
            have a1 := hfa.h1
            have a2 := hfa.h2
            have a3 := hfa.h3
            have a4 := hfa.h4
            have a5 := hfa.h5
            have a6 := hfa.h6
            have a7 := hfa.h7
            have a8 := hfa.h8
            have a9 := hfa.h9
            have a10 := hfa.h10
            have a11 := hfa.h11
            have a12 := hfa.h12
            simp only at a0 a1 a2
            have HFO9 := Lib.hid hfo
            obtain ⟨vsO, lO, pO, oO⟩ := hpp9
            have hneb : ∀ k, u3.ownBlock = some k → k ≠ b9 := by
              obtain ⟨fsS, _, _, oS⟩ := hp9
              exact other_row oO oS (by decide)
            obtain ⟨vs9, l9, p9, o9⟩ := hp89
            have hpn := p9 n9 hlt9 (by omega)
            have hcell : wr.cell? ⟨g8, n9, none⟩ = some vs9[n9] := by
              have := o9.cells (g := g8) rfl n9 vs9[n9] (by rw [List.getElem?_eq_getElem])
              rw [Addr.add_lit, Nat.zero_add] at this
              exact this
            have hlb : b9 < wr.heap.size := lt_of_cell a0
            have hlg : g8 < wr.heap.size := lt_of_cell hcell
            have HNEB := Lib.hid hneb
            have HNE9 := Lib.hid hne9
            have HB9 := Lib.hid hb9
            have HP9 := Lib.hid hp9
            have HLO := Lib.hid lO
            have HPO := Lib.hid pO
            have HOO := Lib.hid oO
            have HR9 : Hid (Places wr wc.heap.size (.slice (some ⟨g8, 0, none⟩) rest.length cap8) rest) := ⟨vs9, l9, p9, o9⟩
            have hsz : ps.length + n9 + 1 ≤ 1000 := by
              have h1 := HPL.out
              have h2 := HRL.out
              have h0 := HS.out
              subst h0
              have h3 := J.under_succ (j := j) hlt
              have h4 := under_mono j (j.steps.length - (m + 1)) (m + 1) (by omega)
              rw [show m + 1 + (j.steps.length - (m + 1)) = j.steps.length from by omega] at h4
              have h5 := J.under_all HOK.out
              have h6 := HSM.out
              omega
            have hln : (ps ++ (rest.take n9).map (S[m] :: ·)).length = ps.length + n9 := by simp; omega
            have hlp : (rest[n9]).length ≤ 1000 := by
              have := has_len _ _ (J.at1_ok HOK.out HKID.out) (HRP.out _ (List.getElem_mem hlt9))
              have := HSM9.out
              omega
            rw [hln] at HOO
            generalize hpv : vs9[n9] = pv at hcell hpn
            generalize hpp : rest[n9] = pp at hpn hlp
            have HPP9 := Lib.hid hpp
            have HLN := Lib.hid hln
            have HSZ := Lib.hid hsz
            have i6' : (0 : Int) ≤ (n9 : Int) := Int.natCast_nonneg _
            have i7' : (n9 : Int) < (rest.length : Int) := by omega
            have i8' : (0 : Int) ≤ (m : Int) := Int.natCast_nonneg _
            have i9' : (m : Int) < (S.length : Int) := by omega
            clear hpv hpp hfa hfo pO oO lO o9 p9 hp9 hb9 hneb hne9 hln i1' i2' i3' i4' i5'
            by_cases hpe : pp = []
            · obtain rfl := hpn.2 hpe
              have X2 : Hid (Ext wr (wr.alloc (.cells (Fr.cells ⟨fk, fs, fa, fl, fc⟩).toArray 38)).drew) := Ext.drew ((Ext.refl wr).alloc _)
              have k2 := X2.out.keep
              go_wp2_with fail
              go_region_held3 (fun w' => w'.cell? ⟨b9, m * 13, none⟩ = some (.int .i64 fk) ∧ w'.cell? ⟨b9, m * 13 + 1, none⟩ = some (.string fs) ∧ w'.cell? ⟨b9, m * 13 + 2, none⟩ = some (.slice fa fl fc) ∧
                  w'.cell? ⟨b9, m * 13 + 3, none⟩ = some (.slice none 0 0) ∧ w'.cell? ⟨b9, m * 13 + 4, none⟩ = some (.int .i64 0) ∧ w'.cell? ⟨b9, m * 13 + 5, none⟩ = some (.int .i64 0) ∧ w'.cell? ⟨b9, m * 13 + 6, none⟩ = some (.int .i64 0) ∧
                  w'.cell? ⟨b9, m * 13 + 7, none⟩ = some (.float .f64 0) ∧ w'.cell? ⟨b9, m * 13 + 8, none⟩ = some (.string ByteArray.empty) ∧ w'.cell? ⟨b9, m * 13 + 9, none⟩ = some (.slice none 0 0) ∧ w'.cell? ⟨b9, m * 13 + 10, none⟩ = some (.slice none 0 0) ∧
                  w'.cell? ⟨b9, m * 13 + 11, none⟩ = some (.slice none 0 0) ∧ w'.cell? ⟨b9, m * 13 + 12, none⟩ = some (.slice none 0 0) ∧ w'.cell? ⟨g8, n9, none⟩ = some (.slice none 0 0))
                (first
                  | (go_split_ands
                     exact ⟨a0, a1, a2, a3, a4, a5, a6, a7, a8, a9, a10, a11, a12, hcell⟩)
                  | (go_split_ands
                     exact ⟨((Keep.alloc wr _).trans (Keep.drew _)) _ _ a0, ((Keep.alloc wr _).trans (Keep.drew _)) _ _ a1, ((Keep.alloc wr _).trans (Keep.drew _)) _ _ a2, ((Keep.alloc wr _).trans (Keep.drew _)) _ _ a3, ((Keep.alloc wr _).trans (Keep.drew _)) _ _ a4, ((Keep.alloc wr _).trans (Keep.drew _)) _ _ a5, ((Keep.alloc wr _).trans (Keep.drew _)) _ _ a6, ((Keep.alloc wr _).trans (Keep.drew _)) _ _ a7, ((Keep.alloc wr _).trans (Keep.drew _)) _ _ a8, ((Keep.alloc wr _).trans (Keep.drew _)) _ _ a9, ((Keep.alloc wr _).trans (Keep.drew _)) _ _ a10, ((Keep.alloc wr _).trans (Keep.drew _)) _ _ a11, ((Keep.alloc wr _).trans (Keep.drew _)) _ _ a12, ((Keep.alloc wr _).trans (Keep.drew _)) _ _ hcell⟩)
                  | (go_split_ands
                     exact ⟨k2 _ _ a0, k2 _ _ a1, k2 _ _ a2, k2 _ _ a3, k2 _ _ a4, k2 _ _ a5, k2 _ _ a6, k2 _ _ a7, k2 _ _ a8, k2 _ _ a9, k2 _ _ a10, k2 _ _ a11, k2 _ _ a12, k2 _ _ hcell⟩)
                  | (go_split_ands
                     exact ⟨(k2.trans (Keep.alloc _ _)) _ _ a0, (k2.trans (Keep.alloc _ _)) _ _ a1, (k2.trans (Keep.alloc _ _)) _ _ a2, (k2.trans (Keep.alloc _ _)) _ _ a3, (k2.trans (Keep.alloc _ _)) _ _ a4, (k2.trans (Keep.alloc _ _)) _ _ a5, (k2.trans (Keep.alloc _ _)) _ _ a6, (k2.trans (Keep.alloc _ _)) _ _ a7, (k2.trans (Keep.alloc _ _)) _ _ a8, (k2.trans (Keep.alloc _ _)) _ _ a9, (k2.trans (Keep.alloc _ _)) _ _ a10, (k2.trans (Keep.alloc _ _)) _ _ a11, (k2.trans (Keep.alloc _ _)) _ _ a12, (k2.trans (Keep.alloc _ _)) _ _ hcell⟩)
                  | (go_split_ands
                     exact ⟨k4 _ _ _ HNEB.out a0, k4 _ _ _ HNEB.out a1, k4 _ _ _ HNEB.out a2, k4 _ _ _ HNEB.out a3, k4 _ _ _ HNEB.out a4, k4 _ _ _ HNEB.out a5, k4 _ _ _ HNEB.out a6, k4 _ _ _ HNEB.out a7, k4 _ _ _ HNEB.out a8, k4 _ _ _ HNEB.out a9, k4 _ _ _ HNEB.out a10, k4 _ _ _ HNEB.out a11, k4 _ _ _ HNEB.out a12, k4 _ _ _ HNE9.out hcell⟩)
                  | (go_split_ands
                     exact ⟨(((Keep.alloc wr _).trans (Keep.alloc _ _)).trans (Keep.drew _)) _ _ a0, (((Keep.alloc wr _).trans (Keep.alloc _ _)).trans (Keep.drew _)) _ _ a1, (((Keep.alloc wr _).trans (Keep.alloc _ _)).trans (Keep.drew _)) _ _ a2, (((Keep.alloc wr _).trans (Keep.alloc _ _)).trans (Keep.drew _)) _ _ a3, (((Keep.alloc wr _).trans (Keep.alloc _ _)).trans (Keep.drew _)) _ _ a4, (((Keep.alloc wr _).trans (Keep.alloc _ _)).trans (Keep.drew _)) _ _ a5, (((Keep.alloc wr _).trans (Keep.alloc _ _)).trans (Keep.drew _)) _ _ a6, (((Keep.alloc wr _).trans (Keep.alloc _ _)).trans (Keep.drew _)) _ _ a7, (((Keep.alloc wr _).trans (Keep.alloc _ _)).trans (Keep.drew _)) _ _ a8, (((Keep.alloc wr _).trans (Keep.alloc _ _)).trans (Keep.drew _)) _ _ a9, (((Keep.alloc wr _).trans (Keep.alloc _ _)).trans (Keep.drew _)) _ _ a10, (((Keep.alloc wr _).trans (Keep.alloc _ _)).trans (Keep.drew _)) _ _ a11, (((Keep.alloc wr _).trans (Keep.alloc _ _)).trans (Keep.drew _)) _ _ a12, (((Keep.alloc wr _).trans (Keep.alloc _ _)).trans (Keep.drew _)) _ _ hcell⟩)
                  | go_keep)
                (first
                  | (refine step_append_none rfl (.tmp 42) (.tmp 46) 32 rfl 0 38 i0 13 Try.underlying32 hi hz1 (.slice (some ⟨wr.heap.size, 0, none⟩) 1 1) 1 (Fr.cells ⟨fk, fs, fa, fl, fc⟩) rfl (ownsRow_drew (own_fresh wr 0 38 13 (Fr.cells ⟨fk, fs, fa, fl, fc⟩) (Nat.zero_le _) rfl)) rfl ?_)
                  | (refine step_append_lies _ rfl (.tmp 37) (.tmp 48) 30 rfl (w.heap.size + 1) 32 i1 (.slice none 0 0) 1 24 Try.underlying30 hi' hz0' hz1' hz2' rfl (by decide) u3 (ps.length + n9) vsO rfl ((ownsRow_ext HOO.out X2.out).alloc _) ⟨wr.heap.size + 1, 0, none⟩ 1 1 [_] rfl rfl (by have h9 := cell_one_new (wr.alloc (.cells (Fr.cells ⟨fk, fs, fa, fl, fc⟩).toArray 38)); simp only [World.size_alloc] at h9; exact h9 _ _) (by intro u hu; simp at hu; subst hu; rfl) (by decide) (by simp [maxLen]; omega) (by omega) (by have := X2.out.size; have := HB9.out.size; simp at *; omega) _ rfl ?_
                     intro g4 cap4 w4 hown4 hgrow4 hat4 hlt4
                     have HOWN4 := Lib.hid hown4
                     have HGROW4 := Lib.hid hgrow4
                     have HAT4 := Lib.hid hat4
                     have k4 : ∀ (b i : Nat) (v : Value), (∀ k, u3.ownBlock = some k → k ≠ b) → wr.cell? ⟨b, i, none⟩ = some v → w4.cell? ⟨b, i, none⟩ = some v := fun b i v hne h => hgrow4.cell ((X2.out.keep.trans (Keep.alloc _ _)) _ _ h) (fun e => hne b e.symm rfl)
                     clear hown4 hgrow4 hat4))
              have X3 : Hid (Ext wr ((wr.alloc (.cells (Fr.cells ⟨fk, fs, fa, fl, fc⟩).toArray 38)).alloc (.cells #[.slice (some ⟨wr.heap.size, 0, none⟩) 1 1] 32)).drew) := Ext.drew (((Ext.refl wr).alloc _).alloc _)
              have HSTEP := Lib.hid (inner_step X3.out HLO.out HPO.out (by rw [HLN.out]; exact HOO.out) (cons_path (st := S[m]) (p := []) (fs := []) (HFO9.out.ext X3.out) rfl (fun i h => by simp at h) (by simpa using ownsRow_drew ((own_fresh wr 0 38 13 (Fr.cells ⟨fk, fs, fa, fl, fc⟩) (Nat.zero_le _) rfl).alloc _))) HGROW4.out (by rw [HLN.out]; exact HOWN4.out)
                (by rcases HAT4.out with h | h
                    · exact Or.inl h.symm
                    · exact Or.inr ⟨g4, rfl, Nat.le_of_eq h.symm⟩) HNE9.out hlg HB9.out (Nat.le_refl _) (by have := HB9.out.size; simpa using this) HP9.out HR9.out)
              go_wp2_with fail
              go_roundw
              case rel =>
                refine ⟨n9 + 1, by omega, by go_num, ?_, HSTEP.out.2.1, HSTEP.out.2.2.1, HSTEP.out.2.2.2.1, HSTEP.out.2.2.2.2⟩
                rw [List.take_succ_eq_append_getElem hlt9, List.map_append, ← List.append_assoc, HPP9.out, hpe]
                exact HSTEP.out.1
              case measure => simp [intOf]; omega
            · obtain ⟨gp, cp, fsp, rfl, hfl, hfok, hnews⟩ := hpn.1.news (List.length_pos_iff.2 hpe)
              have HFL := Lib.hid hfl
              have HFOK := Lib.hid hfok
              have HNEWS : Hid (∀ w', Keep wr w' → ∀ j u, (fsp.flatMap Fr.cells)[j]? = some u → w'.cell? ((⟨gp, 0, none⟩ : Addr).add j) = some u) := fun w' hk j u hu => hk _ _ (hnews j u hu)
              have hpos : 0 < pp.length := List.length_pos_iff.2 hpe
              clear hfl hfok hnews hpn
              go_wp2_with fail
              go_region_held3 (fun w' => w'.cell? ⟨b9, m * 13, none⟩ = some (.int .i64 fk) ∧ w'.cell? ⟨b9, m * 13 + 1, none⟩ = some (.string fs) ∧ w'.cell? ⟨b9, m * 13 + 2, none⟩ = some (.slice fa fl fc) ∧
                  w'.cell? ⟨b9, m * 13 + 3, none⟩ = some (.slice none 0 0) ∧ w'.cell? ⟨b9, m * 13 + 4, none⟩ = some (.int .i64 0) ∧ w'.cell? ⟨b9, m * 13 + 5, none⟩ = some (.int .i64 0) ∧ w'.cell? ⟨b9, m * 13 + 6, none⟩ = some (.int .i64 0) ∧
                  w'.cell? ⟨b9, m * 13 + 7, none⟩ = some (.float .f64 0) ∧ w'.cell? ⟨b9, m * 13 + 8, none⟩ = some (.string ByteArray.empty) ∧ w'.cell? ⟨b9, m * 13 + 9, none⟩ = some (.slice none 0 0) ∧ w'.cell? ⟨b9, m * 13 + 10, none⟩ = some (.slice none 0 0) ∧
                  w'.cell? ⟨b9, m * 13 + 11, none⟩ = some (.slice none 0 0) ∧ w'.cell? ⟨b9, m * 13 + 12, none⟩ = some (.slice none 0 0) ∧ w'.cell? ⟨g8, n9, none⟩ = some (.slice (some ⟨gp, 0, none⟩) pp.length cp))
                (first
                  | (go_split_ands
                     exact ⟨a0, a1, a2, a3, a4, a5, a6, a7, a8, a9, a10, a11, a12, hcell⟩)
                  | (go_split_ands
                     exact ⟨((Keep.alloc wr _).trans (Keep.drew _)) _ _ a0, ((Keep.alloc wr _).trans (Keep.drew _)) _ _ a1, ((Keep.alloc wr _).trans (Keep.drew _)) _ _ a2, ((Keep.alloc wr _).trans (Keep.drew _)) _ _ a3, ((Keep.alloc wr _).trans (Keep.drew _)) _ _ a4, ((Keep.alloc wr _).trans (Keep.drew _)) _ _ a5, ((Keep.alloc wr _).trans (Keep.drew _)) _ _ a6, ((Keep.alloc wr _).trans (Keep.drew _)) _ _ a7, ((Keep.alloc wr _).trans (Keep.drew _)) _ _ a8, ((Keep.alloc wr _).trans (Keep.drew _)) _ _ a9, ((Keep.alloc wr _).trans (Keep.drew _)) _ _ a10, ((Keep.alloc wr _).trans (Keep.drew _)) _ _ a11, ((Keep.alloc wr _).trans (Keep.drew _)) _ _ a12, ((Keep.alloc wr _).trans (Keep.drew _)) _ _ hcell⟩)
                  | (go_split_ands
                     exact ⟨k2 _ _ a0, k2 _ _ a1, k2 _ _ a2, k2 _ _ a3, k2 _ _ a4, k2 _ _ a5, k2 _ _ a6, k2 _ _ a7, k2 _ _ a8, k2 _ _ a9, k2 _ _ a10, k2 _ _ a11, k2 _ _ a12, k2 _ _ hcell⟩)
                  | (go_split_ands
                     exact ⟨(k2.trans (Keep.alloc w2 _)) _ _ a0, (k2.trans (Keep.alloc w2 _)) _ _ a1, (k2.trans (Keep.alloc w2 _)) _ _ a2, (k2.trans (Keep.alloc w2 _)) _ _ a3, (k2.trans (Keep.alloc w2 _)) _ _ a4, (k2.trans (Keep.alloc w2 _)) _ _ a5, (k2.trans (Keep.alloc w2 _)) _ _ a6, (k2.trans (Keep.alloc w2 _)) _ _ a7, (k2.trans (Keep.alloc w2 _)) _ _ a8, (k2.trans (Keep.alloc w2 _)) _ _ a9, (k2.trans (Keep.alloc w2 _)) _ _ a10, (k2.trans (Keep.alloc w2 _)) _ _ a11, (k2.trans (Keep.alloc w2 _)) _ _ a12, (k2.trans (Keep.alloc w2 _)) _ _ hcell⟩)
                  | (go_split_ands
                     exact ⟨k4 _ _ _ HNEB.out a0, k4 _ _ _ HNEB.out a1, k4 _ _ _ HNEB.out a2, k4 _ _ _ HNEB.out a3, k4 _ _ _ HNEB.out a4, k4 _ _ _ HNEB.out a5, k4 _ _ _ HNEB.out a6, k4 _ _ _ HNEB.out a7, k4 _ _ _ HNEB.out a8, k4 _ _ _ HNEB.out a9, k4 _ _ _ HNEB.out a10, k4 _ _ _ HNEB.out a11, k4 _ _ _ HNEB.out a12, k4 _ _ _ HNE9.out hcell⟩)
                  | go_keep)
                (first
                  | (refine step_append_lies _ rfl (.tmp 42) (.tmp 46) 32 rfl 0 38 i0 zFrag 13 216 Try.underlying32 hi hz0 hz1 hz2 rfl (by decide) (.slice (some ⟨wr.heap.size, 0, none⟩) 1 1) 1 (Fr.cells ⟨fk, fs, fa, fl, fc⟩) rfl (ownsRow_drew (own_fresh wr 0 38 13 (Fr.cells ⟨fk, fs, fa, fl, fc⟩) (Nat.zero_le _) rfl)) ⟨gp, 0, none⟩ pp.length cp (fsp.flatMap Fr.cells) rfl (by rw [flat_len, HFL.out]) (HNEWS.out _ ((Keep.alloc wr _).trans (Keep.drew _))) (flat_one fsp) hpos (by simp [maxLen]; omega) (by omega) (Nat.zero_le _) _ rfl ?_
                     intro g2 cap2 w2 hown2 hgrow2 hat2 hlt2
                     have X2 : Hid (Ext wr w2) := Below.grown (Ext.drew ((Ext.refl wr).alloc (.cells (Fr.cells ⟨fk, fs, fa, fl, fc⟩).toArray 38))) hgrow2 (by simp) (fun k hk => by cases hk; exact Nat.le_refl _)
                     have HOWN2 := Lib.hid hown2
                     have k2 := X2.out.keep
                     clear hown2 hgrow2)
                  | (refine step_append_lies _ rfl (.tmp 37) (.tmp 48) 30 rfl (w.heap.size + 1) 32 i1 (.slice none 0 0) 1 24 Try.underlying30 hi' hz0' hz1' hz2' rfl (by decide) u3 (ps.length + n9) vsO rfl ((ownsRow_ext HOO.out X2.out).alloc _) ⟨w2.heap.size, 0, none⟩ 1 1 [_] rfl rfl (cell_one_new _ _ _) (by intro u hu; simp at hu; subst hu; rfl) (by decide) (by simp [maxLen]; omega) (by omega) (by have := X2.out.size; have := HB9.out.size; simp at *; omega) _ rfl ?_
                     intro g4 cap4 w4 hown4 hgrow4 hat4 hlt4
                     have HOWN4 := Lib.hid hown4
                     have HGROW4 := Lib.hid hgrow4
                     have HAT4 := Lib.hid hat4
                     have k4 : ∀ (b i : Nat) (v : Value), (∀ k, u3.ownBlock = some k → k ≠ b) → wr.cell? ⟨b, i, none⟩ = some v → w4.cell? ⟨b, i, none⟩ = some v := fun b i v hne h => hgrow4.cell ((X2.out.keep.trans (Keep.alloc _ _)) _ _ h) (fun e => hne b e.symm rfl)
                     clear hown4 hgrow4 hat4))
              have X3 : Hid (Ext wr (w2.alloc (.cells #[.slice (some ⟨g2, 0, none⟩) (1 + pp.length) cap2] 32))) := X2.out.alloc _
              have HSTEP := Lib.hid (inner_step X3.out HLO.out HPO.out (by rw [HLN.out]; exact HOO.out) (cons_path (st := S[m]) (p := pp) (HFO9.out.ext X3.out) HFL.out (fun i h h' => (HFOK.out i h h').ext X3.out) ((ownsRow_base HOWN2.out (Nat.zero_le _)).alloc _)) HGROW4.out (by rw [HLN.out]; exact HOWN4.out)
                (by rcases HAT4.out with h | h
                    · exact Or.inl h.symm
                    · exact Or.inr ⟨g4, rfl, Nat.le_of_eq h.symm⟩) HNE9.out hlg HB9.out (Nat.le_refl _) (by have := HB9.out.size; simpa using this) HP9.out HR9.out)
              go_wp2_with fail
              go_roundw
              case rel =>
                refine ⟨n9 + 1, by omega, by go_num, ?_, HSTEP.out.2.1, HSTEP.out.2.2.1, HSTEP.out.2.2.2.1, HSTEP.out.2.2.2.2⟩
                rw [List.take_succ_eq_append_getElem hlt9, List.map_append, ← List.append_assoc, HPP9.out]
                exact HSTEP.out.1
              case measure => simp [intOf]; omega
          · have hn : n9 = rest.length := by omega
            subst hn
            rw [List.take_length] at hpp9
            have HPP9 := Lib.hid hpp9
            have HB9 := Lib.hid hb9
            have HP9 := Lib.hid hp9
            clear hpp9 hne9 hb9 hp9 hp89 i1' i2' i3' i4' i5'
            go_wp2
            go_roundw
            case rel =>
              refine ⟨m + 1, by omega, by go_num, ⟨_, ?_, ?_, HPP9.out⟩, HB9.out, HP9.out⟩
              · have h1 := HPL.out
                have h2 := HRL.out
                have h0 := HS.out
                subst h0
                have h3 := J.under_succ (j := j) hlt
                simp only [List.length_append, List.length_map]
                omega
              · intro p hp
                rcases List.mem_append.1 hp with h | h
                · exact HPS.out p h
                · obtain ⟨p', hp', rfl⟩ := List.mem_map.1 h
                  unfold J.has
                  exact ⟨⟨q, HKID.out⟩, HRP.out p' hp'⟩
            case measure => simp [intOf]; omega
    · have hm' : m = S.length := by omega
      subst hm'
      clear b0 b1 b2 b3 b4 b5
      go_wp2
      go_ret
      have h0 := HS.out
      subst h0
      exact ⟨_, ps, rfl, by rw [HPL.out]; exact J.under_all HOK.out, HPS.out, HPP.out.base (by omega), (Ext.refl w).trans ((Below.alloc (Below.refl _ _) (Nat.le_refl _) _).trans (HB.out.mono (by omega)))⟩

theorem allPlaces_any : ∀ N, AllAt N
  | 0 => fun j h => by have := j.nodes_pos; omega
  | N + 1 => allPlaces_step N (allPlaces_any N)
end Go.Proofs.Ytikpedfggbibpaa
