/- Reading the arguments: a struct that can be read as data is a value in memory. -/
import Derived.Test.YtikpedfggbibpaaZ24
import Derived.ProofKit
import Derived.SizedLaws
import Derived.OpenShut
import Derived.ShutString
import Derived.ChangeOld
import Derived.Below
namespace Go.Proofs.Ytikpedfggbibpaa
open Go.ChangeShapes Go.WideShapes Go.RowKit
set_option linter.unusedVariables false
set_option linter.unusedSimpArgs false

section
variable {H : Type} {enc : TypeId × Value → H} {P : Program} {w : World} {base : Nat} {spare : Nat → Bool} {held : Bool}
theorem trod_float' {k : FloatKind} {t : TypeId} {fuel : Nat} {cs : List Value} {x : DataW H × List MemPlace} (ht : P.underlying t = some (.float k)) (h : DataW.trod enc P w base spare held fuel t cs = some x) : ∃ n, cs = [.float k n] ∧ x = (.lit (.float k n), []) ∧ (Lit.float k n).wf = true := by
  cases fuel with
  | zero => simp [DataW.trod] at h
  | succ n =>
    unfold DataW.trod at h
    rw [ht] at h
    split at h <;> simp_all
end

theorem Try.cells_val : Try.prog.cellsOf 26 = 6 := by kernel_rfl
theorem Try.cells_int : Try.prog.cellsOf 3 = 1 := by kernel_rfl
theorem Try.cells_flt : Try.prog.cellsOf 22 = 1 := by kernel_rfl
theorem Try.cells_str : Try.prog.cellsOf 9 = 1 := by kernel_rfl
theorem Try.cells_vals : Try.prog.cellsOf 23 = 1 := by kernel_rfl
theorem Try.cells_strs : Try.prog.cellsOf 24 = 1 := by kernel_rfl
theorem Try.bytes_val : Try.prog.bytesOf 26 = 88 := by kernel_rfl
theorem Try.bytes_str : Try.prog.bytesOf 9 = 16 := by kernel_rfl

theorem weightsAll_mem {H : Type} {P : Program} {e : TypeId} : ∀ {l : List (DataW H)} {i : Nat} {d : DataW H}, l[i]? = some d → ∀ n ∈ d.weights P e, n ∈ DataW.weightsAll P e l
  | x :: xs, 0, d, h, n, hn => by
    simp only [List.getElem?_cons_zero, Option.some.injEq] at h
    subst h
    simp only [DataW.weightsAll, List.mem_append]
    exact Or.inl hn
  | x :: xs, i + 1, d, h, n, hn => by
    simp only [DataW.weightsAll, List.mem_append]
    exact Or.inr (weightsAll_mem (by simpa using h) n hn)

/-- the addresses that cells are read at have no spot -/
theorem addr_plain {w : World} {a : Addr} {v : Value} (h : w.cell? a = some v) : a = ⟨a.block, a.off, none⟩ := by
  have := World.cell?_spot h
  cases a
  simp only at this
  rw [this]

section
variable {H : Type} {enc : TypeId × Value → H} {W : World}

/-- what is asked of the sizes of a datum -/
def Small (t : TypeId) (d : DataW H) : Prop := ∀ n ∈ d.weights Try.prog t, n ≤ reachBytes

theorem read_strs {fuel : Nat} {cs : List Value} {x : DataW H × List MemPlace} (h : DataW.trod enc Try.prog W 0 (fun _ => true) true fuel 24 cs = some x) (hs : Small 24 x.1) :
    ∃ a ks c, cs = [.slice a ks.length c] ∧ KS W a ks ∧ ks.length ≤ c ∧ ks.length * 16 ≤ reachN ∧ ∀ s ∈ ks, s.size ≤ reachN := by
  rcases open_strings Try.underlying24 Try.underlying9 Try.cells_str h with ⟨rfl, rfl⟩ | ⟨a, len, cap, ss, rfl, _, hl, hm, hz, rfl, hcell, hsz⟩
  · exact ⟨none, [], 0, rfl, fun hn => absurd rfl hn, by simp, by simp, by simp⟩
  · have hlen : (ss.take len).length = len := by simp at hz; simp; omega
    have h1 := hs ((strs (ss.take len) : List (DataW H)).length * Try.prog.bytesOf 9 + (strs (ss.drop len) : List (DataW H)).length * Try.prog.bytesOf 9) (by
      simp only [DataW.weights, Try.underlying24]
      rw [Nat.add_mul]
      simp)
    rw [Try.bytes_str] at h1
    simp only [strs, List.length_map, hlen, reachBytes] at h1
    refine ⟨some a, ss.take len, cap, by rw [hlen], fun hn => ?_, by rw [hlen]; exact hl, by rw [hlen]; unfold reachN; omega, fun s hsm => ?_⟩
    · have h0 : 0 < len := by
        rcases Nat.eq_zero_or_pos len with h | h
        · rw [h] at hn; simp at hn
        · exact h
      have hc0 := hcell 0 (by simp at hz; omega)
      have hp := addr_plain (a := a) (by simpa [Addr.add] using hc0)
      refine ⟨a.block, a.off, by rw [← hp], fun i hi => ?_⟩
      have hi' : i < ss.length := by simp at hz; omega
      have := hcell i hi'
      rw [hp, Addr.add_lit] at this
      rw [this]
      simp [List.getD, hi']
    · obtain ⟨i, hi, he⟩ := List.mem_iff_getElem.1 hsm
      have h2 := hs s.data.toList.length (by
        simp only [DataW.weights, Try.underlying24, List.mem_cons, List.mem_append]
        refine Or.inr (Or.inl (weightsAll_mem (i := i) (d := .lit (.string s.data.toList)) ?_ _ (by simp [DataW.weights])))
        simp only [strs, List.getElem?_map]
        rw [List.getElem?_eq_getElem hi, he]
        rfl)
      simp only [reachBytes] at h2
      unfold reachN
      exact h2

set_option maxRecDepth 100000 in
theorem read_val : ∀ (fuel : Nat) (cs : List Value) (x : DataW H × List MemPlace), DataW.trod enc Try.prog W 0 (fun _ => true) true fuel 26 cs = some x → Small 26 x.1 → ∃ y : V, RV W y (.agg cs.toArray) := by
  intro fuel
  induction fuel using Nat.strongRecOn with
  | _ fuel ih =>
  intro cs x h hs
  obtain ⟨xs, n, rfl, rfl, hlen, hxs, hf⟩ := DataW.trod_struct Try.underlying26 h
  rw [Try.cells_val] at hlen
  match cs, hlen with
  | [c0, c1, c2, c3, c4, c5], _ =>
  match xs, hxs with
  | [y0, y1, y2, y3, y4, y5], _ =>
  have f0 := hf 0 _ rfl
  have f1 := hf 1 _ rfl
  have f2 := hf 2 _ rfl
  have f3 := hf 3 _ rfl
  have f4 := hf 4 _ rfl
  have f5 := hf 5 _ rfl
  change DataW.trod enc Try.prog W 0 (fun _ => true) true n 3 (([c0, c1, c2, c3, c4, c5].drop 0).take (Try.prog.cellsOf 3)) = some y0 at f0
  change DataW.trod enc Try.prog W 0 (fun _ => true) true n 3 (([c0, c1, c2, c3, c4, c5].drop 1).take (Try.prog.cellsOf 3)) = some y1 at f1
  change DataW.trod enc Try.prog W 0 (fun _ => true) true n 22 (([c0, c1, c2, c3, c4, c5].drop 2).take (Try.prog.cellsOf 22)) = some y2 at f2
  change DataW.trod enc Try.prog W 0 (fun _ => true) true n 9 (([c0, c1, c2, c3, c4, c5].drop 3).take (Try.prog.cellsOf 9)) = some y3 at f3
  change DataW.trod enc Try.prog W 0 (fun _ => true) true n 23 (([c0, c1, c2, c3, c4, c5].drop 4).take (Try.prog.cellsOf 23)) = some y4 at f4
  change DataW.trod enc Try.prog W 0 (fun _ => true) true n 24 (([c0, c1, c2, c3, c4, c5].drop 5).take (Try.prog.cellsOf 24)) = some y5 at f5
  rw [Try.cells_int] at f0 f1
  rw [Try.cells_flt] at f2
  rw [Try.cells_str] at f3
  rw [Try.cells_vals] at f4
  rw [Try.cells_strs] at f5
  simp only [List.drop_succ_cons, List.drop_zero, List.take_succ_cons, List.take_zero] at f0 f1 f2 f3 f4 f5
  obtain ⟨k0, e0, rfl, w0⟩ := DataW.trod_int Try.underlying3 f0
  obtain ⟨k1, e1, rfl, w1⟩ := DataW.trod_int Try.underlying3 f1
  obtain ⟨k2, e2, rfl, w2⟩ := trod_float' Try.underlying22 f2
  obtain ⟨k3, e3, rfl, w3⟩ := DataW.trod_string Try.underlying9 f3
  simp only [List.cons.injEq, and_true] at e0 e1 e2 e3
  subst e0 e1 e2 e3
  have hsm : ∀ n ∈ DataW.weightsEach Try.prog [3, 3, 22, 9, 23, 24] [.lit (.int .i64 k0), .lit (.int .i64 k1), .lit (.float .f64 k2), .lit (.string k3.data.toList), y4.1, y5.1], n ≤ reachBytes := fun n hn => hs n (by
    simp only [DataW.weights, Try.underlying26]
    exact hn)
  have s3 : k3.size ≤ reachN := by
    have := hsm k3.data.toList.length (by simp [DataW.weightsEach, DataW.weights])
    simp only [reachBytes] at this
    unfold reachN
    exact this
  have s4 : Small 23 y4.1 := fun n hn => hsm n (by simp only [DataW.weightsEach, List.mem_append]; exact Or.inr (Or.inr (Or.inr (Or.inr (Or.inl hn)))))
  have s5 : Small 24 y5.1 := fun n hn => hsm n (by simp only [DataW.weightsEach, List.mem_append]; exact Or.inr (Or.inr (Or.inr (Or.inr (Or.inr (Or.inl hn))))))
  obtain ⟨a5, ks, kc, e5, hks, k1', k2', k3'⟩ := read_strs f5 s5
  simp only [List.cons.injEq, and_true] at e5
  subst e5
  have key : ∃ (al : Option Addr) (l : List V) (lc : Nat), c4 = .slice al l.length lc ∧ l.length ≤ lc ∧ l.length * 88 ≤ reachN ∧ (l ≠ [] → ∃ b o, al = some ⟨b, o, none⟩ ∧ RVs W b o l) := by
    rcases DataW.trod_slice Try.underlying23 f4 with ⟨e4, _⟩ | ⟨a, len, cap, elems, rest, m, rfl, e4, rfl, hb, hl, hm, hel, hels, _, _⟩
    · simp only [List.cons.injEq, and_true] at e4
      exact ⟨none, [], 0, e4, by simp, by simp, fun h => absurd rfl h⟩
    · simp only [List.cons.injEq, and_true] at e4
      subst e4
      have h1 := s4 ((elems.map (·.1)).length * Try.prog.bytesOf 26 + (rest.map (·.1)).length * Try.prog.bytesOf 26) (by
        simp only [DataW.weights, Try.underlying23]
        rw [Nat.add_mul]
        simp)
      rw [Try.bytes_val] at h1
      simp only [List.length_map, hel, reachBytes] at h1
      have each : ∀ i, i < len → ∃ (y : V) (d0 d1 d2 d3 d4 d5 : Value), (∀ j, (h : j < 6) → W.cell? (a.add (i * 6 + j)) = [d0, d1, d2, d3, d4, d5][j]?) ∧ RV W y (.agg #[d0, d1, d2, d3, d4, d5]) := fun i hi => by
        have h2 := hels i hi
        rw [Try.cells_val, List.getElem?_eq_getElem (by omega)] at h2
        obtain ⟨ds, h3, h4⟩ := Option.bind_eq_some_iff.1 h2
        obtain ⟨_, h5, h6⟩ := World.cells?_some h3
        match ds, h5 with
        | [d0, d1, d2, d3, d4, d5], _ =>
        obtain ⟨y, hy⟩ := ih m (by omega) _ _ h4 (fun n hn => s4 n (by
          simp only [DataW.weights, Try.underlying23, List.mem_cons, List.mem_append]
          refine Or.inr (Or.inl (weightsAll_mem (i := i) (d := elems[i].1) ?_ _ hn))
          rw [List.getElem?_map, List.getElem?_eq_getElem (by omega)]
          rfl))
        refine ⟨y, d0, d1, d2, d3, d4, d5, fun j hj => ?_, hy⟩
        have := h6 j hj
        rwa [Go.Deep.add_add] at this
      obtain ⟨Y, hY⟩ : ∃ Y : Nat → V, ∀ i, i < len → ∃ (d0 d1 d2 d3 d4 d5 : Value), (∀ j, (h : j < 6) → W.cell? (a.add (i * 6 + j)) = [d0, d1, d2, d3, d4, d5][j]?) ∧ RV W (Y i) (.agg #[d0, d1, d2, d3, d4, d5]) := by
        classical
        refine ⟨fun i => if hi : i < len then Classical.choose (each i hi) else .mk 0 0 0 ByteArray.empty [] [], fun i hi => ?_⟩
        simp only [dif_pos hi]
        exact Classical.choose_spec (each i hi)
      have hlenY : ((List.range len).map Y).length = len := by simp
      refine ⟨some a, (List.range len).map Y, cap, by rw [hlenY], by rw [hlenY]; exact hl, by rw [hlenY]; unfold reachN; omega, fun hn => ?_⟩
      have h0 : 0 < len := by
        rcases Nat.eq_zero_or_pos len with h | h
        · rw [h] at hn; simp at hn
        · exact h
      obtain ⟨d0, d1, d2, d3, d4, d5, hc, _⟩ := hY 0 h0
      have hc0 := hc 0 (by omega)
      have hp := addr_plain (a := a) (v := d0) (by simpa [Addr.add] using hc0)
      refine ⟨a.block, a.off, by rw [← hp], ?_⟩
      have gen : ∀ (r k : Nat), k + r = len → RVs W a.block (a.off + k * 6) ((List.range' k r).map Y) := by
        intro r
        induction r with
        | zero => intro k _; simp only [List.range'_zero, List.map_nil]; unfold RVs; trivial
        | succ r ihr =>
          intro k hk
          rw [List.range'_succ, List.map_cons]
          unfold RVs
          obtain ⟨d0, d1, d2, d3, d4, d5, hc, hy⟩ := hY k (by omega)
          have hcc : ∀ j, (h : j < 6) → W.cell? ⟨a.block, a.off + k * 6 + j, none⟩ = [d0, d1, d2, d3, d4, d5][j]? := fun j hj => by
            have := hc j hj
            rw [hp, Addr.add_lit, ← Nat.add_assoc] at this
            exact this
          refine ⟨⟨d0, d1, d2, d3, d4, d5, hcc 0 (by omega), hcc 1 (by omega), hcc 2 (by omega), hcc 3 (by omega), hcc 4 (by omega), hcc 5 (by omega), hy⟩, ?_⟩
          have := ihr (k + 1) (by omega)
          rw [show a.off + (k + 1) * 6 = a.off + k * 6 + 6 from by omega] at this
          exact this
      have := gen len 0 (by omega)
      rw [Nat.zero_mul, Nat.add_zero, ← List.range_eq_range'] at this
      exact this
  obtain ⟨al, l, lc, rfl, l1, l2, l3⟩ := key
  refine ⟨.mk k0 k1 k2 k3 l ks, ?_⟩
  unfold RV
  exact ⟨al, lc, a5, kc, rfl, ⟨w0, w1, w2, s3, l1, l2, k1', k2', k3'⟩, l3, hks⟩

set_option maxRecDepth 100000 in
/-- an argument that is a value -/
theorem open_val {base : Nat} {v : Value} {d : DataW H} {p : List MemPlace} (hv : Value.okWide Try.prog W .any base 26 v) (h : DataW.Trod enc Try.prog W 0 (fun _ => true) true 26 v d p) (hs : Small 26 d) : ∃ y : V, RV W y v := by
  obtain ⟨cs, rfl, _⟩ := okWide_struct Try.underlying26 hv
  obtain ⟨fuel, hf⟩ := h
  obtain ⟨y, hy⟩ := read_val fuel _ _ hf hs
  exact ⟨y, by simpa [Value.cells] using hy⟩
end
end Go.Proofs.Ytikpedfggbibpaa
