/- Plain data: the abstract datum, its value, and what it means that an interface value is it. Maps with text keys: what a store of a new key, and a look-up, do. -/
import Derived.Test.YtikpedfggbibpaaZ07
import Derived.Carry
namespace Go.Proofs.Ytikpedfggbibpaa
open Go.RowKit
set_option linter.unusedVariables false

inductive J where
  | null
  | bool (b : Bool)
  | int (n : Int)
  | flt (b : Nat)
  | str (s : ByteArray)
  | arr (l : List J)
  | obj (ks : List ByteArray) (l : List J)

mutual
def V.ofJ : J → V
  | .null => .mk 1 0 0 ByteArray.empty [] []
  | .bool b => .mk 2 (if b then 1 else 0) 0 ByteArray.empty [] []
  | .int n => .mk 3 n 0 ByteArray.empty [] []
  | .flt b => .mk 4 0 b ByteArray.empty [] []
  | .str s => .mk 5 0 0 s [] []
  | .arr l => .mk 7 0 0 ByteArray.empty (V.ofJs l) []
  | .obj ks l => .mk 8 0 0 ByteArray.empty (V.ofJs l) ks
def V.ofJs : List J → List V
  | [] => []
  | x :: xs => V.ofJ x :: V.ofJs xs
end
theorem V.ofJs_length : ∀ (l : List J), (V.ofJs l).length = l.length
  | [] => rfl
  | x :: xs => by simp [V.ofJs, V.ofJs_length xs]
theorem V.ofJs_get : ∀ (l : List J) (i : Nat) (h : i < l.length), (V.ofJs l)[i]'(by rw [V.ofJs_length]; exact h) = V.ofJ l[i]
  | x :: xs, 0, _ => by simp [V.ofJs]
  | x :: xs, i + 1, h => by
    have := V.ofJs_get xs i (by simpa using h)
    simp only [V.ofJs, List.getElem_cons_succ]
    exact this

mutual
def J.ok : J → Prop
  | .flt b => nanB b = false ∧ infB b = false
  | .arr l => J.oks l
  | .obj ks l => ks.Nodup ∧ ks.length = l.length ∧ J.oks l
  | _ => True
def J.oks : List J → Prop
  | [] => True
  | x :: xs => J.ok x ∧ J.oks xs
end
mutual
/-- no floats -/
def J.nofl : J → Prop
  | .flt _ => False
  | .arr l => J.nofls l
  | .obj ks l => J.nofls l
  | _ => True
def J.nofls : List J → Prop
  | [] => True
  | x :: xs => J.nofl x ∧ J.nofls xs
end
mutual
def J.nodes : J → Nat
  | .arr l => 1 + J.nodesL l
  | .obj ks l => 1 + J.nodesL l
  | _ => 1
def J.nodesL : List J → Nat
  | [] => 0
  | x :: xs => J.nodes x + J.nodesL xs
end
theorem J.nodes_mem : ∀ {l : List J} {x : J}, x ∈ l → x.nodes ≤ J.nodesL l
  | y :: ys, x, h => by
    rw [J.nodesL]
    rcases List.mem_cons.1 h with rfl | h
    · omega
    · have := J.nodes_mem h
      omega
theorem J.nodes_pos : ∀ (j : J), 0 < j.nodes := by
  intro j
  cases j <;> simp [J.nodes] <;> omega
theorem J.oks_get : ∀ {l : List J} (h : J.oks l) (i : Nat) (hi : i < l.length), (l[i]).ok
  | x :: xs, h, 0, _ => by unfold J.oks at h; exact h.1
  | x :: xs, h, i + 1, hi => by unfold J.oks at h; exact J.oks_get h.2 i (by simpa using hi)
theorem J.nofls_get : ∀ {l : List J} (h : J.nofls l) (i : Nat) (hi : i < l.length), (l[i]).nofl
  | x :: xs, h, 0, _ => by unfold J.nofls at h; exact h.1
  | x :: xs, h, i + 1, hi => by unfold J.nofls at h; exact J.nofls_get h.2 i (by simpa using hi)

mutual
/-- a value that is clean and whole, without numbers that are texts, is that of a datum -/
theorem V.toJ : ∀ (x : V), CleanV x → WholeV x → NoKind 6 x → ∃ j, x = V.ofJ j ∧ j.ok ∧ (NoKind 4 x → j.nofl)
  | .mk k n f s l ks, hc, hw, hk => by
    unfold CleanV at hc
    unfold WholeV at hw
    rcases hc with ⟨rfl, rfl, rfl, rfl, rfl, rfl⟩ | ⟨hk23, rfl, rfl, rfl, rfl⟩ | ⟨rfl, rfl, rfl, rfl, rfl⟩ | ⟨hk56, rfl, rfl, rfl, rfl⟩ | ⟨hk78, rfl, rfl, rfl, hks, hcl⟩
    · exact ⟨.null, by simp [V.ofJ], by simp [J.ok], fun _ => by simp [J.nofl]⟩
    · rcases hk23 with rfl | rfl
      · have hn : n = 0 ∨ n = 1 := by
          rcases hw with h | h | h | h
          · omega
          · exact h.2
          · omega
          · omega
        rcases hn with rfl | rfl
        · exact ⟨.bool false, by simp [V.ofJ], by simp [J.ok], fun _ => by simp [J.nofl]⟩
        · exact ⟨.bool true, by simp [V.ofJ], by simp [J.ok], fun _ => by simp [J.nofl]⟩
      · exact ⟨.int n, by simp [V.ofJ], by simp [J.ok], fun _ => by simp [J.nofl]⟩
    · have hf : nanB f = false ∧ infB f = false := by
        rcases hw with h | h | h | h
        · omega
        · omega
        · exact h.2
        · omega
      exact ⟨.flt f, by simp [V.ofJ], by simpa [J.ok] using hf, fun h => by unfold NoKind at h; exact absurd rfl h.1⟩
    · rcases hk56 with rfl | rfl
      · exact ⟨.str s, by simp [V.ofJ], by simp [J.ok], fun _ => by simp [J.nofl]⟩
      · unfold NoKind at hk; exact absurd rfl hk.1
    · have hwl : WholeVs l := by
        rcases hw with h | h | h | h
        · omega
        · omega
        · omega
        · exact h.2
      unfold NoKind at hk
      obtain ⟨js, hjs, hok, hnf⟩ := V.toJs l hcl hwl (hk.2 hk78)
      rcases hk78 with rfl | rfl
      · have : ks = [] := by rcases hks with h | h; · omega
                             · exact h
        subst this
        exact ⟨.arr js, by simp [V.ofJ, hjs], by simpa [J.ok] using hok, fun h => by unfold NoKind at h; simpa [J.nofl] using hnf (h.2 (Or.inl rfl))⟩
      · have h8 : ks.length = l.length ∧ ks.Nodup := by
          rcases hw with h | h | h | h
          · omega
          · omega
          · omega
          · rcases h.1 with h | h
            · omega
            · exact h.2
        refine ⟨.obj ks js, by simp [V.ofJ, hjs], ?_, fun h => by unfold NoKind at h; simpa [J.nofl] using hnf (h.2 (Or.inr rfl))⟩
        unfold J.ok
        refine ⟨h8.2, ?_, hok⟩
        rw [h8.1, hjs, V.ofJs_length]
theorem V.toJs : ∀ (l : List V), CleanVs l → WholeVs l → NoKinds 6 l → ∃ js, l = V.ofJs js ∧ J.oks js ∧ (NoKinds 4 l → J.nofls js)
  | [], _, _, _ => ⟨[], rfl, by simp [J.oks], fun _ => by simp [J.nofls]⟩
  | x :: xs, hc, hw, hk => by
    unfold CleanVs at hc
    unfold WholeVs at hw
    unfold NoKinds at hk
    obtain ⟨j, h1, h2, h3⟩ := V.toJ x hc.1 hw.1 hk.1
    obtain ⟨js, h4, h5, h6⟩ := V.toJs xs hc.2 hw.2 hk.2
    exact ⟨j :: js, by simp [V.ofJs, h1, h4], by simp [J.oks, h2, h5], fun h => by unfold NoKinds at h; simp [J.nofls, h3 h.1, h6 h.2]⟩
end

/-- every block that was there is as it was -/
def KeepB (w w' : World) : Prop := ∀ k, k < w.heap.size → w'.heap[k]? = w.heap[k]?
theorem Ext.keepB {w w' : World} (h : Ext w w') : KeepB w w' := h.block
theorem KeepB.keep {w w' : World} (h : KeepB w w') : Keep w w' := fun a v e => by
  rw [World.cell?_of_block (h a.block (lt_of_cell e))]; exact e

/-- every block from lo on that was there is as it was -/
def KeepF (lo : Nat) (w w' : World) : Prop := ∀ k, lo ≤ k → k < w.heap.size → w'.heap[k]? = w.heap[k]?
theorem KeepB.from {w w' : World} (h : KeepB w w') (lo : Nat) : KeepF lo w w' := fun k _ hk => h k hk
theorem KeepF.cell {lo : Nat} {w w' : World} (h : KeepF lo w w') {a : Addr} {v : Value} (e : w.cell? a = some v) (hl : lo ≤ a.block) : w'.cell? a = some v := by
  rw [World.cell?_of_block (h a.block hl (lt_of_cell e))]; exact e
theorem KeepF.grown {lo : Nat} {w w' : World} {g : Nat} (h : w.grownBy w' (some g)) (hg : g < lo) : KeepF lo w w' := fun k hl hk => h.block k hk (by simp; omega)

mutual
/-- an interface value is this datum; what it leads to lies from block lo on -/
def RA (w : World) (lo : Nat) : J → Value → Prop
  | .null, v => v = .nilIface
  | .bool b, v => v = .iface 4 (.bool b)
  | .int n, v => v = .iface 2 (.int .i64 n)
  | .flt b, v => v = .iface 22 (.float .f64 b)
  | .str s, v => v = .iface 9 (.string s)
  | .arr l, v => ∃ b cap, v = .iface 85 (.slice (some ⟨b, 0, none⟩) l.length cap) ∧ lo ≤ b ∧ l.length ≤ cap ∧ RAs w lo b 0 l
  | .obj ks l, v => ∃ m es, v = .iface 77 (.map (some m)) ∧ lo ≤ m ∧ w.heap[m]? = some (.map es es.size) ∧ RMs w lo es.toList 0 ks l
def RAs (w : World) (lo : Nat) (b : Nat) : Nat → List J → Prop
  | _, [] => True
  | i, x :: xs => (∃ v, w.cell? ⟨b, i, none⟩ = some v ∧ RA w lo x v) ∧ RAs w lo b (i + 1) xs
def RMs (w : World) (lo : Nat) : List MapEntry → Nat → List ByteArray → List J → Prop
  | es, _, ks, [] => es = [] ∧ ks = []
  | es, i, ks, x :: xs => ∃ e es' k ks', es = e :: es' ∧ ks = k :: ks' ∧ e.key = .string k ∧ e.born = i ∧ RA w lo x e.val ∧ RMs w lo es' (i + 1) ks' xs
end

mutual
theorem RA.keep {w w' : World} {lo lo' : Nat} (k : KeepF lo w w') (hl : lo' ≤ lo) : ∀ (j : J) {v : Value}, RA w lo j v → RA w' lo' j v
  | .null, v, h => by unfold RA at h ⊢; exact h
  | .bool b, v, h => by unfold RA at h ⊢; exact h
  | .int n, v, h => by unfold RA at h ⊢; exact h
  | .flt b, v, h => by unfold RA at h ⊢; exact h
  | .str s, v, h => by unfold RA at h ⊢; exact h
  | .arr l, v, h => by
    unfold RA at h ⊢
    obtain ⟨b, cap, e, hb, hl', hr⟩ := h
    exact ⟨b, cap, e, Nat.le_trans hl hb, hl', RAs.keep k hl hb l hr⟩
  | .obj ks l, v, h => by
    unfold RA at h ⊢
    obtain ⟨m, es, e, hb, hm, hr⟩ := h
    exact ⟨m, es, e, Nat.le_trans hl hb, (k m hb (Array.getElem?_eq_some_iff.1 hm).1).trans hm, RMs.keep k hl l hr⟩
theorem RAs.keep {w w' : World} {lo lo' : Nat} (k : KeepF lo w w') (hl : lo' ≤ lo) {b : Nat} (hb : lo ≤ b) : ∀ (l : List J) {i : Nat}, RAs w lo b i l → RAs w' lo' b i l
  | [], _, _ => by unfold RAs; trivial
  | x :: xs, i, h => by
    unfold RAs at h ⊢
    obtain ⟨⟨v, hv, hx⟩, hr⟩ := h
    exact ⟨⟨v, k.cell hv hb, RA.keep k hl x hx⟩, RAs.keep k hl hb xs hr⟩
theorem RMs.keep {w w' : World} {lo lo' : Nat} (k : KeepF lo w w') (hl : lo' ≤ lo) : ∀ (l : List J) {es : List MapEntry} {i : Nat} {ks : List ByteArray}, RMs w lo es i ks l → RMs w' lo' es i ks l
  | [], _, _, _, h => by unfold RMs at h ⊢; exact h
  | x :: xs, es, i, ks, h => by
    unfold RMs at h ⊢
    obtain ⟨e, es', k', ks', h1, h2, h3, h4, h5, h6⟩ := h
    exact ⟨e, es', k', ks', h1, h2, h3, h4, RA.keep k hl x h5, RMs.keep k hl xs h6⟩
end
theorem RAs.get {w : World} {lo b : Nat} : ∀ {l : List J} {i : Nat} (_ : RAs w lo b i l) (q : Nat) (hq : q < l.length), ∃ v, w.cell? ⟨b, i + q, none⟩ = some v ∧ RA w lo l[q] v
  | x :: xs, i, h, 0, _ => by unfold RAs at h; exact h.1
  | x :: xs, i, h, q + 1, hq => by
    unfold RAs at h
    obtain ⟨v, h1, h2⟩ := RAs.get h.2 q (by simpa using hq)
    exact ⟨v, by rw [show i + (q + 1) = i + 1 + q from by omega]; exact h1, h2⟩
theorem RAs_of {w : World} {lo b : Nat} : ∀ {l : List J} {i : Nat}, (∀ q, (hq : q < l.length) → ∃ v, w.cell? ⟨b, i + q, none⟩ = some v ∧ RA w lo l[q] v) → RAs w lo b i l
  | [], _, _ => by unfold RAs; trivial
  | x :: xs, i, h => by
    unfold RAs
    exact ⟨h 0 (by simp), RAs_of fun q hq => by
      obtain ⟨v, h1, h2⟩ := h (q + 1) (by simpa using hq)
      exact ⟨v, by rw [show i + 1 + q = i + (q + 1) from by omega]; exact h1, h2⟩⟩
theorem RMs_of {w : World} {lo : Nat} : ∀ {l : List J} {es : List MapEntry} {i : Nat} {ks : List ByteArray}, ks.length = l.length → es.length = l.length →
    (∀ q, (hq : q < l.length) → ∃ e k, es[q]? = some e ∧ ks[q]? = some k ∧ e.key = .string k ∧ e.born = i + q ∧ RA w lo l[q] e.val) → RMs w lo es i ks l
  | [], es, i, ks, h1, h2, _ => by unfold RMs; exact ⟨List.eq_nil_of_length_eq_zero h2, List.eq_nil_of_length_eq_zero h1⟩
  | x :: xs, [], _, _, _, h2, _ => by simp at h2
  | x :: xs, e :: es, i, [], h1, _, _ => by simp at h1
  | x :: xs, e :: es, i, k :: ks, h1, h2, h => by
    unfold RMs
    obtain ⟨e', k', a, b, c, d, f⟩ := h 0 (by simp)
    simp at a b
    subst a; subst b
    refine ⟨e, es, k, ks, rfl, rfl, c, by omega, f, RMs_of (by simpa using h1) (by simpa using h2) fun q hq => ?_⟩
    obtain ⟨e', k', a, b, c, d, f⟩ := h (q + 1) (by simpa using hq)
    exact ⟨e', k', by simpa using a, by simpa using b, c, by omega, f⟩
theorem RMs.len {w : World} {lo : Nat} : ∀ {l : List J} {es : List MapEntry} {i : Nat} {ks : List ByteArray}, RMs w lo es i ks l → es.length = l.length ∧ ks.length = l.length
  | [], _, _, _, h => by unfold RMs at h; obtain ⟨rfl, rfl⟩ := h; exact ⟨rfl, rfl⟩
  | x :: xs, _, _, _, h => by
    unfold RMs at h
    obtain ⟨e, es', k', ks', rfl, rfl, _, _, _, h6⟩ := h
    have := RMs.len h6
    simp [this.1, this.2]
theorem RMs.get {w : World} {lo : Nat} : ∀ {l : List J} {es : List MapEntry} {i : Nat} {ks : List ByteArray} (_ : RMs w lo es i ks l) (q : Nat) (hq : q < l.length),
    ∃ e k, es[q]? = some e ∧ ks[q]? = some k ∧ e.key = .string k ∧ e.born = i + q ∧ RA w lo l[q] e.val
  | x :: xs, _, i, _, h, 0, _ => by
    unfold RMs at h
    obtain ⟨e, es', k', ks', rfl, rfl, h3, h4, h5, h6⟩ := h
    exact ⟨e, k', rfl, rfl, h3, h4, h5⟩
  | x :: xs, _, i, _, h, q + 1, hq => by
    unfold RMs at h
    obtain ⟨e, es', k', ks', rfl, rfl, h3, h4, h5, h6⟩ := h
    obtain ⟨e', k'', a, b, c, d, f⟩ := RMs.get h6 q (by simpa using hq)
    exact ⟨e', k'', by simpa using a, by simpa using b, c, by omega, f⟩
theorem RA.one {w : World} {lo : Nat} : ∀ {j : J} {v : Value}, RA w lo j v → v.oneCell' = true
  | .null, v, h => by unfold RA at h; subst h; rfl
  | .bool b, v, h => by unfold RA at h; subst h; rfl
  | .int n, v, h => by unfold RA at h; subst h; rfl
  | .flt b, v, h => by unfold RA at h; subst h; rfl
  | .str s, v, h => by unfold RA at h; subst h; rfl
  | .arr l, v, h => by
    unfold RA at h
    obtain ⟨b, cap, e, _⟩ := h
    subst e; rfl
  | .obj ks l, v, h => by
    unfold RA at h
    obtain ⟨m, es, e, _⟩ := h
    subst e; rfl
theorem RA.form {w : World} {lo : Nat} : ∀ {j : J} {v : Value}, RA w lo j v → v = .nilIface ∨ ∃ t x, v = .iface t x
  | .null, v, h => by unfold RA at h; exact Or.inl h
  | .bool b, v, h => by unfold RA at h; exact Or.inr ⟨_, _, h⟩
  | .int n, v, h => by unfold RA at h; exact Or.inr ⟨_, _, h⟩
  | .flt b, v, h => by unfold RA at h; exact Or.inr ⟨_, _, h⟩
  | .str s, v, h => by unfold RA at h; exact Or.inr ⟨_, _, h⟩
  | .arr l, v, h => by
    unfold RA at h
    obtain ⟨b, cap, e, _⟩ := h
    exact Or.inr ⟨_, _, e⟩
  | .obj ks l, v, h => by
    unfold RA at h
    obtain ⟨m, es, e, _⟩ := h
    exact Or.inr ⟨_, _, e⟩
theorem Ext.grownBy {w w' : World} (h : Ext w w') : w.grownBy w' none := ⟨h.os, h.tape, h.output, h.size, fun k hk _ => h.block k hk⟩
theorem ownsRow_ext {w w' : World} {base e size n : Nat} {v : Value} {xs : List Value} (h : w.ownsRow base e size v n xs) (k : Ext w w') : w'.ownsRow base e size v n xs := h.kept k.grownBy (by cases hv : v.ownBlock <;> simp)
end Go.Proofs.Ytikpedfggbibpaa
namespace Go.Proofs.Ytikpedfggbibpaa
open Go.RowKit
set_option linter.unusedVariables false
set_option linter.unusedSimpArgs false

section
variable {P : Program}
theorem findNow_none (k : ByteArray) : ∀ (l : List MapEntry) (i : Nat), (∀ e ∈ l, ∃ s, e.key = .string s ∧ s ≠ k) → Instr.findNow .string (.string k) l i = some none
  | [], _, _ => rfl
  | e :: es, i, h => by
    obtain ⟨s, hs, hne⟩ := h e (by simp)
    have hb : (k == s) = false := by
      rw [Bool.eq_false_iff]
      exact fun hh => hne ((MapKept.bytes_beq k s).1 hh).symm
    rw [Instr.findNow, hs]
    simp only [Instr.sameNow, hb]
    exact findNow_none k es (i + 1) fun e' he' => h e' (by simp [he'])

theorem findNow_some (k : ByteArray) : ∀ (l : List MapEntry) (i q : Nat) (e : MapEntry), l[q]? = some e → e.key = .string k → (∀ j e', j < q → l[j]? = some e' → ∃ s, e'.key = .string s ∧ s ≠ k) →
    Instr.findNow .string (.string k) l i = some (some (i + q, e.val))
  | e0 :: es, i, 0, e, h, hk, _ => by
    simp at h
    subst h
    have hb : (k == k) = true := (MapKept.bytes_beq k k).2 rfl
    rw [Instr.findNow, hk]
    simp [Instr.sameNow, hb]
  | e0 :: es, i, q + 1, e, h, hk, hlt => by
    obtain ⟨s, hs, hne⟩ := hlt 0 e0 (by omega) (by simp)
    have hb : (k == s) = false := by
      rw [Bool.eq_false_iff]
      exact fun hh => hne ((MapKept.bytes_beq k s).1 hh).symm
    rw [Instr.findNow, hs]
    simp only [Instr.sameNow, hb]
    rw [findNow_some k es (i + 1) q e (by simpa using h) hk (fun j e' hj he' => hlt (j + 1) e' (by omega) (by simpa using he'))]
    congr 3
    omega

def setMap (w : World) (m : Nat) (es : Array MapEntry) (c : Nat) : World := { w with heap := w.heap.setIfInBounds m (.map es c) }

theorem setMap_same {w : World} {m : Nat} {es : Array MapEntry} {c : Nat} (h : m < w.heap.size) : (setMap w m es c).heap[m]? = some (.map es c) := by simp [setMap, h]
theorem setMap_grown (w : World) (m : Nat) (es : Array MapEntry) (c : Nat) : w.grownBy (setMap w m es c) (some m) :=
  ⟨rfl, rfl, rfl, by simp [setMap], fun k hk hne => by
    have : m ≠ k := fun e => hne (by rw [e])
    simp [setMap, this]⟩
theorem setMap_size (w : World) (m : Nat) (es : Array MapEntry) (c : Nat) : (setMap w m es c).heap.size = w.heap.size := by simp [setMap]

theorem setMap_keep {w : World} {m : Nat} {es0 : Array MapEntry} {c0 : Nat} (h : w.heap[m]? = some (.map es0 c0)) (es : Array MapEntry) (c : Nat) : Keep w (setMap w m es c) := fun a v e => by
  have hne : a.block ≠ m := by
    intro hh
    unfold World.cell? at e
    rw [hh, h] at e
    cases e
  rw [World.cell?_of_block ((setMap_grown w m es c).block a.block (lt_of_cell e) (by simpa using hne))]
  exact e

theorem run_mapUpdate_new (w : World) (t kt et : TypeId) (ht : P.underlying t = some (.map kt et)) (hk : P.underlying kt = some .string) (m : Nat) (es : Array MapEntry) (c : Nat) (hm : w.heap[m]? = some (.map es c)) (k : ByteArray) (v : Value)
    (h : ∀ e ∈ es.toList, ∃ s, e.key = .string s ∧ s ≠ k) :
    (Instr.mapUpdate t (.map (some m)) (.string k) v).run P w = .ok () (setMap w m (es.push { key := .string k, val := v, born := c }) (c + 1)) := by
  have hf := findNow_none k es.toList 0 h
  have hc := fun e n => MapKept.run_checkKey (P := P) (w := w) (k := .string k) hk (by simp [MapKept.IsKey]) e n
  simp [Instr.mapUpdate, run_underlying ht, MapKept.run_getObj_map hm, hc, MapKept.run_findKey hk hf, MapKept.run_setObj_map _ hm, setMap, Result.andThen]

theorem run_lookup_miss (w : World) (t kt et : TypeId) (ht : P.underlying t = some (.map kt et)) (hk : P.underlying kt = some .string) (m : Nat) (es : Array MapEntry) (c : Nat) (hm : w.heap[m]? = some (.map es c)) (k : ByteArray) (z : Value)
    (hz : (zeroValue et).run P w = .ok z w) (h : ∀ e ∈ es.toList, ∃ s, e.key = .string s ∧ s ≠ k) :
    (Instr.lookup t (.map (some m)) (.string k) false).run P w = .ok z w := by
  have hf := findNow_none k es.toList 0 h
  have hc := fun e n => MapKept.run_checkKey (P := P) (w := w) (k := .string k) hk (by simp [MapKept.IsKey]) e n
  simp [Instr.lookup, run_underlying ht, MapKept.run_getObj_map hm, hc, MapKept.run_findKey hk hf, hz, Result.andThen]

theorem run_lookup_hit (w : World) (t kt et : TypeId) (ht : P.underlying t = some (.map kt et)) (hk : P.underlying kt = some .string) (m : Nat) (es : Array MapEntry) (c : Nat) (hm : w.heap[m]? = some (.map es c)) (k : ByteArray) (q : Nat) (e : MapEntry)
    (he : es.toList[q]? = some e) (hek : e.key = .string k) (h : ∀ j e', j < q → es.toList[j]? = some e' → ∃ s, e'.key = .string s ∧ s ≠ k) :
    (Instr.lookup t (.map (some m)) (.string k) false).run P w = .ok e.val w := by
  have hf := findNow_some k es.toList 0 q e he hek h
  have hc := fun e n => MapKept.run_checkKey (P := P) (w := w) (k := .string k) hk (by simp [MapKept.IsKey]) e n
  simp [Instr.lookup, run_underlying ht, MapKept.run_getObj_map hm, hc, MapKept.run_findKey hk hf, Result.andThen]
end
end Go.Proofs.Ytikpedfggbibpaa
