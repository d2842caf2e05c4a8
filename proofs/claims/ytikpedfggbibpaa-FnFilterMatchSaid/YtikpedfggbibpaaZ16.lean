/- Paths in memory; walks: child, nth, unrooted. -/
import Derived.Test.YtikpedfggbibpaaZ15
import Derived.Deep.DeepAppendWide
namespace Go.Proofs.Ytikpedfggbibpaa
open Go.RowKit Go.Lib
set_option linter.unusedVariables false
set_option linter.unusedSimpArgs false

inductive Step where
  | child (s : ByteArray)
  | nth (n : Int)

/-- a fragment's own parts -/
structure Fr where
  k : Int
  s : ByteArray
  a : Option Addr
  l : Nat
  c : Nat

def Fr.cells (f : Fr) : List Value := [.int .i64 f.k, .string f.s, .slice f.a f.l f.c, .slice none 0 0, .int .i64 0, .int .i64 0, .int .i64 0, .float .f64 0, .string ByteArray.empty, .slice none 0 0, .slice none 0 0, .slice none 0 0, .slice none 0 0]

def FrOk (w : World) : Step → Fr → Prop
  | .child s, f => f.k = 3 ∧ f.s = s
  | .nth n, f => f.k = 4 ∧ f.l = 1 ∧ ∃ b, f.a = some ⟨b, 0, none⟩ ∧ w.heap[b]? = some (.cells #[.int .i64 n] 3)

/-- only a row of this type of elements may have turned -/
def KT (t : TypeId) (w w' : World) : Prop := ∀ (k : Nat) (cs : Array Value) (u : TypeId), u ≠ t → w.heap[k]? = some (.cells cs u (0, 0)) → w'.heap[k]? = some (.cells cs u (0, 0))
theorem KT.of_keepB {t : TypeId} {w w' : World} (h : KeepB w w') : KT t w w' := fun k cs u _ e => (h k (Array.getElem?_eq_some_iff.1 e).1).trans e
theorem KT.of_own {t : TypeId} {w w' : World} {base size n : Nat} {v : Value} {xs : List Value} (ho : w.ownsRow base t size v n xs) (hg : w.grownBy w' v.ownBlock) : KT t w w' := fun k cs u hu e => by
  refine (hg.block k (Array.getElem?_eq_some_iff.1 e).1 (fun hk => ?_)).trans e
  rcases ho.2 with ⟨rfl, _⟩ | ⟨g, cap, cur, rfl, _, hh, _⟩
  · cases hk
  · simp only [Value.ownBlock, Option.some.injEq] at hk
    subst hk
    rw [hh] at e
    simp only [Option.some.injEq, Obj.cells.injEq] at e
    exact hu e.2.1.symm
theorem KT.trans {t : TypeId} {a b c : World} (h : KT t a b) (k : KT t b c) : KT t a c := fun i cs u hu e => k i cs u hu (h i cs u hu e)
theorem FrOk.keep {t : TypeId} (ht : 3 ≠ t) {w w' : World} (k : KT t w w') : ∀ {st : Step} {f : Fr}, FrOk w st f → FrOk w' st f
  | .child s, f, h => h
  | .nth n, f, ⟨h1, h2, b, h3, h4⟩ => ⟨h1, h2, b, h3, k b _ _ ht h4⟩

/-- a path lies in memory, in a row of its own -/
def PathAt (w : World) (v : Value) (p : List Step) : Prop :=
  ∃ fs : List Fr, fs.length = p.length ∧ (∀ i, (h : i < p.length) → (h' : i < fs.length) → FrOk w p[i] fs[i]) ∧ w.ownsRow 0 38 13 v p.length (fs.flatMap Fr.cells)
theorem PathAt.keep {t : TypeId} (ht : 3 ≠ t) (ht' : 38 ≠ t) {w w' : World} (k : KT t w w') {v : Value} {p : List Step} (h : PathAt w v p) : PathAt w' v p := by
  obtain ⟨fs, h1, h2, h3⟩ := h
  refine ⟨fs, h1, fun i hi hi' => (h2 i hi hi').keep ht k, h3.1, ?_⟩
  rcases h3.2 with h | ⟨g, cap, cur, rfl, hb, hh, rest⟩
  · exact Or.inl h
  · exact Or.inr ⟨g, cap, cur, rfl, hb, k g _ _ ht' hh, rest⟩
theorem PathAt.ext {w w' : World} (k : KeepB w w') {v : Value} {p : List Step} (h : PathAt w v p) : PathAt w' v p :=
  PathAt.keep (t := 1000000) (by decide) (by decide) (KT.of_keepB k) h

theorem flat_get (fs : List Fr) (i j : Nat) (hi : i < fs.length) (hj : j < 13) : (fs.flatMap Fr.cells)[i * 13 + j]? = (fs[i].cells)[j]? := by
  induction fs generalizing i with
  | nil => simp at hi
  | cons f fs ih =>
    rw [List.flatMap_cons]
    have hl : f.cells.length = 13 := rfl
    cases i with
    | zero => rw [List.getElem?_append_left (by omega)]; simp
    | succ i =>
      rw [List.getElem?_append_right (by omega), hl, show (i + 1) * 13 + j - 13 = i * 13 + j from by omega, ih i (by simpa using hi)]
      simp

/-- the cells of a fragment on a path -/
structure FAt (w : World) (b o : Nat) (f : Fr) : Prop where
  h0 : w.cell? ⟨b, o, none⟩ = some (.int .i64 f.k)
  h1 : w.cell? ⟨b, o + 1, none⟩ = some (.string f.s)
  h2 : w.cell? ⟨b, o + 2, none⟩ = some (.slice f.a f.l f.c)
  h3 : w.cell? ⟨b, o + 3, none⟩ = some (.slice none 0 0)
  h4 : w.cell? ⟨b, o + 4, none⟩ = some (.int .i64 0)
  h5 : w.cell? ⟨b, o + 5, none⟩ = some (.int .i64 0)
  h6 : w.cell? ⟨b, o + 6, none⟩ = some (.int .i64 0)
  h7 : w.cell? ⟨b, o + 7, none⟩ = some (.float .f64 0)
  h8 : w.cell? ⟨b, o + 8, none⟩ = some (.string ByteArray.empty)
  h9 : w.cell? ⟨b, o + 9, none⟩ = some (.slice none 0 0)
  h10 : w.cell? ⟨b, o + 10, none⟩ = some (.slice none 0 0)
  h11 : w.cell? ⟨b, o + 11, none⟩ = some (.slice none 0 0)
  h12 : w.cell? ⟨b, o + 12, none⟩ = some (.slice none 0 0)

theorem PathAt.frag {w : World} {v : Value} {p : List Step} (h : PathAt w v p) (i : Nat) (hi : i < p.length) :
    ∃ b cap f, v = .slice (some ⟨b, 0, none⟩) p.length cap ∧ FAt w b (i * 13) f ∧ FrOk w p[i] f ∧ p.length ≤ cap := by
  obtain ⟨fs, h1, h2, h3⟩ := h
  rcases h3.2 with ⟨_, h⟩ | ⟨g, cap, cur, rfl, hb, hh, hc, rest⟩
  · omega
  · have hi' : i < fs.length := by omega
    have hcell : ∀ j, (hj : j < 13) → w.cell? ⟨g, i * 13 + j, none⟩ = (fs[i].cells)[j]? := fun j hj => by
      have e := flat_get fs i j hi' hj
      have hlt : j < fs[i].cells.length := hj
      rw [List.getElem?_eq_getElem hlt] at e ⊢
      have := h3.cells (g := g) rfl (i * 13 + j) _ e
      rw [Addr.add_lit] at this
      simpa using this
    exact ⟨g, cap, fs[i], rfl, ⟨hcell 0 (by omega), hcell 1 (by omega), hcell 2 (by omega), hcell 3 (by omega), hcell 4 (by omega), hcell 5 (by omega), hcell 6 (by omega), hcell 7 (by omega), hcell 8 (by omega), hcell 9 (by omega), hcell 10 (by omega), hcell 11 (by omega), hcell 12 (by omega)⟩, h2 i hi hi', hc⟩

theorem child_any (s : ByteArray) (w : World) : Calls Try.prog 61 #[.string s] w fun e w' => e = .returned (.agg #[.int .i64 3, .string s, .slice none 0 0, .slice none 0 0, .int .i64 0, .int .i64 0, .int .i64 0, .float .f64 0, .string ByteArray.empty, .slice none 0 0, .slice none 0 0, .slice none 0 0, .slice none 0 0]) ∧ Ext w w' := by
  go_enter Try.func61, Try.ntmps61
  go_wp2
  refine bodyPost_ret (results_cell_row rfl _ _ w.heap.size 38 _ _ _ rfl (heap_alloc_new _ _) Try.underlying38 rfl (by kernel_rfl)) rfl ?_
  exact ⟨rfl, (Ext.refl _).alloc _⟩

theorem nth_any (n : Int) (w : World) : Calls Try.prog 69 #[.int .i64 n] w fun e w' => e = .returned (.agg #[.int .i64 4, .string ByteArray.empty, .slice (some ⟨w.heap.size + 1, 0, none⟩) 1 1, .slice none 0 0, .int .i64 0, .int .i64 0, .int .i64 0, .float .f64 0, .string ByteArray.empty, .slice none 0 0, .slice none 0 0, .slice none 0 0, .slice none 0 0]) ∧ w'.heap[w.heap.size + 1]? = some (.cells #[.int .i64 n] 3) ∧ Ext w w' := by
  go_enter Try.func69, Try.ntmps69
  go_wp2
  refine bodyPost_ret (results_cell_row rfl _ _ w.heap.size 38 _ _ _ rfl ((heap_alloc_old _ _ (by simp)).trans (heap_alloc_new _ _)) Try.underlying38 rfl (by kernel_rfl)) rfl ?_
  refine ⟨rfl, ?_, ((Ext.refl _).alloc _).alloc _⟩
  have := heap_alloc_new (w.alloc
          (Obj.cells
            #[Value.int IntKind.i64 4, Value.string { data := #[] },
              Value.slice (some { block := w.heap.size + 1, off := 0 }) 1 1, Value.slice none 0 0,
              Value.int IntKind.i64 0, Value.int IntKind.i64 0, Value.int IntKind.i64 0, Value.float FloatKind.f64 0,
              Value.string { data := #[] }, Value.slice none 0 0, Value.slice none 0 0, Value.slice none 0 0,
              Value.slice none 0 0]
            38)) (Obj.cells #[Value.int IntKind.i64 n] 3)
  simpa using this

theorem unrooted_any (a : Option Addr) (n c : Nat) (w : World) (hn : n ≤ reachN) (h : 0 < n → ∃ b o k, a = some ⟨b, o, none⟩ ∧ w.cell? ⟨b, o, none⟩ = some (.int .i64 k) ∧ k ≠ 1 ∧ k ≠ 2) :
    Calls Try.prog 41 #[.slice a n c] w fun e w' => e = .returned (.slice a n c) ∧ w' = w := by
  unfold reachN at hn
  rcases Nat.eq_zero_or_pos n with rfl | h0
  · clear h
    go_enter Try.func41, Try.ntmps41
    go_wp2
    refine wp_loop_rounds 1 ?_
    rw [rounds_succ]
    go_wp2
    go_ret
    exact ⟨rfl, rfl⟩
  · obtain ⟨b, o, k, rfl, hc, h1, h2⟩ := h h0
    have q1 : (k == 1) = false := by simp [h1]
    have q2 : (k == 2) = false := by simp [h2]
    have h0' : (0 : Int) < (n : Int) := by omega
    clear h h1 h2
    go_enter Try.func41, Try.ntmps41
    go_wp2
    refine wp_loop_rounds 1 ?_
    rw [rounds_succ]
    go_wp2
    go_ret
    exact ⟨rfl, rfl⟩
end Go.Proofs.Ytikpedfggbibpaa
