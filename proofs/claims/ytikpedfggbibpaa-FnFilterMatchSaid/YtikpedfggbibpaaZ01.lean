/- Values in memory: the abstract value, and what it means that one lies in the world. No program in sight. -/
import Derived.WalkKit
import Derived.WalkSpells
import Derived.WalkLawsBesides
import Derived.Lib.Hide
namespace Go.Proofs.Ytikpedfggbibpaa
open Go.RowKit
set_option linter.unusedVariables false

@[go_sem] theorem run_store_float {P : Program} {w : World} {a : Addr} {m : Mode} (k : FloatKind) (b : Nat) : (store a (.float k b) m).run P w = stored P w a (.float k b) m := run_store P w a _ m rfl

/-! ### worlds -/

/-- what could be read can be read -/
def Keep (w w' : World) : Prop := ∀ a v, w.cell? a = some v → w'.cell? a = some v

theorem lt_of_cell {w : World} {a : Addr} {v : Value} (h : w.cell? a = some v) : a.block < w.heap.size := by
  unfold World.cell? at h
  split at h
  · rename_i hh
    exact (Array.getElem?_eq_some_iff.1 hh).1
  · cases h

theorem Keep.refl (w : World) : Keep w w := fun _ _ h => h
theorem Keep.trans {a b c : World} (h : Keep a b) (k : Keep b c) : Keep a c := fun x v e => k x v (h x v e)
theorem Keep.of_below {w w' : World} {B : Nat} (hb : Below B w w') (hB : w.heap.size ≤ B) : Keep w w' := fun a v h => by
  rw [hb.cell (Nat.lt_of_lt_of_le (lt_of_cell h) hB)]; exact h
theorem Keep.alloc (w : World) (o : Obj) : Keep w (w.alloc o) := fun a v h => Eq.trans (World.cell?_alloc_lt _ _ _ (lt_of_cell h)) h
theorem Keep.drew (w : World) : Keep w w.drew := fun _ _ h => h

/-- the frame of nearly every contract: nothing that was there has turned -/
abbrev Ext (w w' : World) : Prop := Below w.heap.size w w'
theorem Ext.keep {w w' : World} (h : Ext w w') : Keep w w' := Keep.of_below h (Nat.le_refl _)
theorem Ext.trans {a b c : World} (h : Ext a b) (k : Ext b c) : Ext a c := Below.trans h (k.mono h.size)
theorem Ext.refl (w : World) : Ext w w := Below.refl _ _
theorem Ext.alloc {a w : World} (h : Ext a w) (o : Obj) : Ext a (w.alloc o) := Below.alloc h h.size o

theorem Ext.drewN {a w : World} (h : Ext a w) (n : Nat) : Ext a (w.drewN n) := below_drewN h n

theorem bytes_beq (p q : ByteArray) : (p.toList == q.toList) = decide (p = q) := by
  rw [ByteArray.toList_eq, ByteArray.toList_eq, Bool.eq_iff_iff]
  simp only [beq_iff_eq, decide_eq_true_eq]
  constructor
  · intro h
    obtain ⟨⟨p⟩⟩ := p
    obtain ⟨⟨q⟩⟩ := q
    simp at h
    rw [h]
  · rintro rfl
    rfl

/-- what a contract says that hands back some boolean -/
def SomeBool (w : World) (e : Ending) (w' : World) : Prop := (∃ b, e = .returned (.bool b)) ∧ Ext w w'
theorem SomeBool.mk {w w' : World} (b : Bool) (h : Ext w w') : SomeBool w (.returned (.bool b)) w' := ⟨⟨b, rfl⟩, h⟩
/-- what a contract says that hands back this value -/
def Gives (v : Value) (w : World) (e : Ending) (w' : World) : Prop := e = .returned v ∧ Ext w w'
theorem Gives.mk {w w' : World} {v u : Value} (e : u = v) (h : Ext w w') : Gives v w (.returned u) w' := ⟨by rw [e], h⟩

/-- a struct of six fields that has been boxed, in a later world -/
theorem box_cells {w wr : World} {c0 c1 c2 c3 c4 c5 : Value} {t : TypeId} (h : Below (w.heap.size + 1) (w.alloc (.cells #[c0, c1, c2, c3, c4, c5] t)) wr) :
    wr.cell? ⟨w.heap.size, 0, none⟩ = some c0 ∧ wr.cell? ⟨w.heap.size, 1, none⟩ = some c1 ∧ wr.cell? ⟨w.heap.size, 2, none⟩ = some c2 ∧
    wr.cell? ⟨w.heap.size, 3, none⟩ = some c3 ∧ wr.cell? ⟨w.heap.size, 4, none⟩ = some c4 ∧ wr.cell? ⟨w.heap.size, 5, none⟩ = some c5 := by
  refine ⟨?_, ?_, ?_, ?_, ?_, ?_⟩ <;> (rw [h.cell (by simp)]; simp)

/-! ### values -/

/-- what a string and a slice take at most, in bytes -/
def reachN : Nat := 140737488351232

inductive V where
  | mk (kind n : Int) (f : Nat) (s : ByteArray) (l : List V) (keys : List ByteArray)

namespace V
def kind : V → Int | mk k _ _ _ _ _ => k
def n : V → Int | mk _ n _ _ _ _ => n
def f : V → Nat | mk _ _ f _ _ _ => f
def s : V → ByteArray | mk _ _ _ s _ _ => s
def l : V → List V | mk _ _ _ _ l _ => l
def keys : V → List ByteArray | mk _ _ _ _ _ k => k

mutual
/-- how many values -/
def nodes : V → Nat
  | mk _ _ _ _ l _ => 1 + nodesL l
def nodesL : List V → Nat
  | [] => 0
  | x :: xs => nodes x + nodesL xs
end
theorem nodes_mem : ∀ {l : List V} {x : V}, x ∈ l → nodes x ≤ nodesL l
  | y :: ys, x, h => by
    rw [nodesL]
    rcases List.mem_cons.1 h with rfl | h
    · omega
    · have := nodes_mem h
      omega
theorem nodes_child {x : V} {i : Nat} (h : i < x.l.length) : nodes x.l[i] < nodes x := by
  cases x with
  | mk k n f s l ks =>
    have := nodes_mem (List.getElem_mem h)
    simp only [V.l] at this
    simp only [nodes, V.l] at *
    omega
end V

/-- the bytes of texts -/
def ksum (ks : List ByteArray) : Nat := (ks.map (·.size)).sum
theorem ksum_snoc (ks : List ByteArray) (k : Nat) (h : k < ks.length) : ksum (ks.take (k + 1)) = ksum (ks.take k) + ks[k].size := by
  unfold ksum
  rw [List.take_succ_eq_append_getElem h, List.map_append, List.sum_append]
  simp

namespace V
mutual
/-- parts and bytes -/
def wt : V → Nat
  | mk _ _ _ s l ks => 1 + s.size + ks.length + ksum ks + wtL l
def wtL : List V → Nat
  | [] => 0
  | x :: xs => wt x + wtL xs
end
theorem wtL_append : ∀ (a b : List V), wtL (a ++ b) = wtL a + wtL b
  | [], b => by simp [wtL]
  | x :: xs, b => by simp only [List.cons_append, wtL, wtL_append xs b]; omega
theorem wtL_snoc (l : List V) (k : Nat) (h : k < l.length) : wtL (l.take (k + 1)) = wtL (l.take k) + wt l[k] := by
  rw [List.take_succ_eq_append_getElem h, wtL_append]
  simp [wtL]
end V

/-- texts that lie in a row -/
def KS (w : World) (a : Option Addr) (ks : List ByteArray) : Prop :=
  ks ≠ [] → ∃ b o, a = some ⟨b, o, none⟩ ∧ ∀ i (h : i < ks.length), w.cell? ⟨b, o + i, none⟩ = some (.string ks[i])

/-- the sizes that a value's own parts have -/
structure Szs (k n : Int) (f : Nat) (s : ByteArray) (ll lc kl kc : Nat) (ks : List ByteArray) : Prop where
  wk : (Lit.int .i64 k).wf = true
  wn : (Lit.int .i64 n).wf = true
  wf : (Lit.float .f64 f).wf = true
  hs : s.size ≤ reachN
  hll : ll ≤ lc
  hlc : ll * 88 ≤ reachN
  hkl : kl ≤ kc
  hkc : kl * 16 ≤ reachN
  hks : ∀ x ∈ ks, x.size ≤ reachN

mutual
/-- a struct's value is this value, in this world -/
def RV (w : World) : V → Value → Prop
  | .mk k n f s l ks, v => ∃ al lc ak kc, v = .agg #[.int .i64 k, .int .i64 n, .float .f64 f, .string s, .slice al l.length lc, .slice ak ks.length kc] ∧
      Szs k n f s l.length lc ks.length kc ks ∧ (l ≠ [] → ∃ b o, al = some ⟨b, o, none⟩ ∧ RVs w b o l) ∧ KS w ak ks
/-- values that lie in a row -/
def RVs (w : World) (b : Nat) : Nat → List V → Prop
  | _, [] => True
  | o, x :: xs => (∃ c0 c1 c2 c3 c4 c5, w.cell? ⟨b, o, none⟩ = some c0 ∧ w.cell? ⟨b, o + 1, none⟩ = some c1 ∧ w.cell? ⟨b, o + 2, none⟩ = some c2 ∧ w.cell? ⟨b, o + 3, none⟩ = some c3 ∧
      w.cell? ⟨b, o + 4, none⟩ = some c4 ∧ w.cell? ⟨b, o + 5, none⟩ = some c5 ∧ RV w x (.agg #[c0, c1, c2, c3, c4, c5])) ∧ RVs w b (o + 6) xs
end

theorem KS.keep {w w' : World} {a : Option Addr} {ks : List ByteArray} (h : KS w a ks) (k : Keep w w') : KS w' a ks := fun hn => by
  obtain ⟨b, o, e, hc⟩ := h hn
  exact ⟨b, o, e, fun i hi => k _ _ (hc i hi)⟩

mutual
theorem RV.keep {w w' : World} (k : Keep w w') : ∀ (x : V) {v : Value}, RV w x v → RV w' x v
  | .mk _ _ _ _ l _, v, h => by
    unfold RV at h ⊢
    obtain ⟨al, lc, ak, kc, e, z, hl, hk⟩ := h
    refine ⟨al, lc, ak, kc, e, z, fun hn => ?_, hk.keep k⟩
    obtain ⟨b, o, e', hr⟩ := hl hn
    exact ⟨b, o, e', RVs.keep k l hr⟩
theorem RVs.keep {w w' : World} (k : Keep w w') {b : Nat} : ∀ (l : List V) {o : Nat}, RVs w b o l → RVs w' b o l
  | [], _, _ => by unfold RVs; trivial
  | x :: xs, o, h => by
    unfold RVs at h ⊢
    obtain ⟨⟨c0, c1, c2, c3, c4, c5, h0, h1, h2, h3, h4, h5, hx⟩, hr⟩ := h
    exact ⟨⟨c0, c1, c2, c3, c4, c5, k _ _ h0, k _ _ h1, k _ _ h2, k _ _ h3, k _ _ h4, k _ _ h5, RV.keep k x hx⟩, RVs.keep k xs hr⟩
end

/-- the six cells of a value in a row, and that value -/
structure ElemAt (w : World) (b o : Nat) (x : V) (c0 c1 c2 c3 c4 c5 : Value) : Prop where
  h0 : w.cell? ⟨b, o, none⟩ = some c0
  h1 : w.cell? ⟨b, o + 1, none⟩ = some c1
  h2 : w.cell? ⟨b, o + 2, none⟩ = some c2
  h3 : w.cell? ⟨b, o + 3, none⟩ = some c3
  h4 : w.cell? ⟨b, o + 4, none⟩ = some c4
  h5 : w.cell? ⟨b, o + 5, none⟩ = some c5
  rv : RV w x (.agg #[c0, c1, c2, c3, c4, c5])

theorem RVs.get {w : World} {b : Nat} : ∀ {l : List V} {o : Nat} (_ : RVs w b o l) (i : Nat) (hi : i < l.length), ∃ c0 c1 c2 c3 c4 c5, ElemAt w b (o + i * 6) l[i] c0 c1 c2 c3 c4 c5
  | x :: xs, o, h, 0, _ => by
    unfold RVs at h
    obtain ⟨⟨c0, c1, c2, c3, c4, c5, h0, h1, h2, h3, h4, h5, hx⟩, _⟩ := h
    exact ⟨c0, c1, c2, c3, c4, c5, by simpa using h0, by simpa using h1, by simpa using h2, by simpa using h3, by simpa using h4, by simpa using h5, hx⟩
  | x :: xs, o, h, i + 1, hi => by
    unfold RVs at h
    obtain ⟨c0, c1, c2, c3, c4, c5, e⟩ := RVs.get h.2 i (by simpa using hi)
    have he : o + (i + 1) * 6 = o + 6 + i * 6 := by omega
    rw [he]
    exact ⟨c0, c1, c2, c3, c4, c5, e⟩

/-- the six cells of a value have these kinds -/
theorem RV.shape {w : World} : ∀ {x : V} {c0 c1 c2 c3 c4 c5 : Value}, RV w x (.agg #[c0, c1, c2, c3, c4, c5]) →
    ∃ k n f s al ll lc ak kl kc, c0 = .int .i64 k ∧ c1 = .int .i64 n ∧ c2 = .float .f64 f ∧ c3 = .string s ∧ c4 = .slice al ll lc ∧ c5 = .slice ak kl kc
  | .mk _ _ _ _ _ _, _, _, _, _, _, _, h => by
    unfold RV at h
    obtain ⟨al, lc, ak, kc, e, _⟩ := h
    simp only [Value.agg.injEq, Array.mk.injEq, List.cons.injEq, and_true] at e
    obtain ⟨rfl, rfl, rfl, rfl, rfl, rfl⟩ := e
    exact ⟨_, _, _, _, _, _, _, _, _, _, rfl, rfl, rfl, rfl, rfl, rfl⟩

/-- the row of a value's elements -/
theorem RV.elem {w : World} {k n : Int} {f : Nat} {s : ByteArray} {l : List V} {ks : List ByteArray} {al : Option Addr} (h : l ≠ [] → ∃ b o, al = some ⟨b, o, none⟩ ∧ RVs w b o l) (i : Nat) (hi : i < l.length) :
    ∃ b o c0 c1 c2 c3 c4 c5, al = some ⟨b, o, none⟩ ∧ ElemAt w b (o + i * 6) l[i] c0 c1 c2 c3 c4 c5 := by
  obtain ⟨b, o, e, hr⟩ := h (by intro hh; subst hh; simp at hi)
  obtain ⟨c0, c1, c2, c3, c4, c5, he⟩ := hr.get i hi
  exact ⟨b, o, c0, c1, c2, c3, c4, c5, e, he⟩

end Go.Proofs.Ytikpedfggbibpaa
