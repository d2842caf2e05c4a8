/- The memory of a Filter while a path is followed: frames, steps down, leaves. No walk. How great the tree of a filter's leaves can be. No program in sight. FnFilterMatch: the tree of a filter grows entry by entry; reading beside what turns; slices.Contains of bytes. The rounds of add over a map's entries: what stands between them. No walk. -/
import Derived.Test.YtikpedfggbibpaaZ41
namespace Go.Proofs.Ytikpedfggbibpaa
open Go.RowKit Go.Lib
set_option linter.unusedVariables false
set_option linter.unusedSimpArgs false

/-- a frame: the blocks with P stand -/
structure FrP (P : Nat → Prop) (w w' : World) : Prop where
  os : w'.os = w.os
  tape : w'.tape = w.tape
  output : w'.output = w.output
  size : w.heap.size ≤ w'.heap.size
  block : ∀ b, b < w.heap.size → P b → w'.heap[b]? = w.heap[b]?
theorem FrP.refl (P : Nat → Prop) (w : World) : FrP P w w := ⟨rfl, rfl, rfl, Nat.le_refl _, fun _ _ _ => rfl⟩
theorem FrP.trans {P P' : Nat → Prop} {w w1 w2 : World} (h : FrP P w w1) (k : FrP P' w1 w2) (hp : ∀ b, b < w.heap.size → P b → P' b) : FrP P w w2 :=
  ⟨k.os.trans h.os, k.tape.trans h.tape, k.output.trans h.output, Nat.le_trans h.size k.size, fun b hb hP => (k.block b (Nat.lt_of_lt_of_le hb h.size) (hp b hb hP)).trans (h.block b hb hP)⟩
theorem FrP.of_ext {P : Nat → Prop} {w w1 : World} (k : Ext w w1) : FrP P w w1 := ⟨k.os, k.tape, k.output, k.size, fun b hb _ => k.block b hb⟩
theorem FrP.ext {P : Nat → Prop} {w w1 w2 : World} (h : FrP P w w1) (k : Ext w1 w2) : FrP P w w2 := h.trans (FrP.of_ext (P := P) k) fun _ _ h => h
theorem FrP.grown {P : Nat → Prop} {w w1 w2 : World} {m : Nat} (h : FrP P w w1) (k : w1.grownBy w2 (some m)) (hm : m < w.heap.size → ¬ P m) : FrP P w w2 :=
  ⟨k.os.trans h.os, k.tape.trans h.tape, k.output.trans h.output, Nat.le_trans h.size k.size, fun b hb hP => (k.block b (Nat.lt_of_lt_of_le hb h.size) fun e => by cases e; exact hm hb hP).trans (h.block b hb hP)⟩
theorem FrP.toExt {P : Nat → Prop} {w w' : World} (h : FrP P w w') (hp : ∀ b, b < w.heap.size → P b) : Ext w w' := ⟨h.os, h.tape, h.output, h.size, fun b hb => h.block b hb (hp b hb)⟩

/-- no label at or below the path -/
def Out (A : Lbl) (p : Pth) (b : Nat) : Prop := ∀ q, A b = some q → ¬ ∃ r, q = p ++ r
/-- labelled blocks lie from B on, and are there -/
def LB (B : Nat) (w : World) (A : Lbl) : Prop := ∀ b q, A b = some q → B ≤ b ∧ b < w.heap.size
/-- labels have come for blocks that are new since w -/
structure LG (w : World) (A A' : Lbl) : Prop where
  old : ∀ b q, A b = some q → A' b = some q
  new : ∀ b q, A' b = some q → A b = some q ∨ w.heap.size ≤ b
theorem LG.refl (w : World) (A : Lbl) : LG w A A := ⟨fun _ _ h => h, fun _ _ h => Or.inl h⟩
theorem LG.trans {w w1 : World} {A A1 A2 : Lbl} (h : LG w A A1) (hs : w.heap.size ≤ w1.heap.size) (k : LG w1 A1 A2) : LG w A A2 :=
  ⟨fun b q e => k.old b q (h.old b q e), fun b q e => (k.new b q e).elim (fun e => h.new b q e) fun e => Or.inr (by omega)⟩
theorem LB.ext {B : Nat} {w w1 : World} {A : Lbl} (h : LB B w A) (hs : w.heap.size ≤ w1.heap.size) : LB B w1 A := fun b q e => ⟨(h b q e).1, Nat.lt_of_lt_of_le (h b q e).2 hs⟩
theorem LKeep.ext {B : Nat} {w w1 : World} {A : Lbl} {p : Pth} (h : LB B w A) (hx : Ext w w1) : LKeep w w1 A A p := ⟨fun _ _ h => h, fun k r e => hx.block k (h k _ e).2⟩
theorem Out.low {B : Nat} {w : World} {A : Lbl} {p : Pth} (h : LB B w A) {b : Nat} (hb : b < B) : Out A p b := fun q e => by have := (h b q e).1; omega
theorem Out.fresh {B : Nat} {w : World} {A : Lbl} {p : Pth} (h : LB B w A) {b : Nat} (hb : w.heap.size ≤ b) : Out A p b := fun q e => by have := (h b q e).2; omega

/-- where a path has been followed: the map that stands at s below the root -/
def St (B : Nat) (p : Pth) (root : Nat) (E0 : Pth → J → Prop) (w : World) (A0 : Lbl) (wr : World) (A : Lbl) (s : Pth) (m : Nat) (Ec : Pth → J → Prop) : Prop :=
  ∃ (es : Array MapEntry) (ks : List ByteArray) (l : List J), FrP (Out A0 p) w wr ∧ LG w A0 A ∧ LB B wr A ∧ Zip wr A p s m root Ec E0 ∧ A m = some (p ++ s) ∧ wr.heap[m]? = some (.map es es.size) ∧
    RLs wr A (p ++ s) es.toList 0 ks l ∧ TreeOf Ec (.obj ks l) ∧ ∀ r x, Ec r x ↔ E0 (s ++ r) x

theorem RL.isObj {w : World} {A : Lbl} {p : Pth} {T : J} {m : Nat} (h : RL w A p T (.iface 79 (.map (some m)))) : ∃ es ks l, T = .obj ks l ∧ A m = some p ∧ w.heap[m]? = some (.map es es.size) ∧ RLs w A p es.toList 0 ks l := by
  cases T with
  | obj ks l =>
    unfold RL at h
    obtain ⟨m', es, e, h1, h2, h3⟩ := h
    simp only [Value.iface.injEq, Value.map.injEq, Option.some.injEq, true_and] at e
    subst e
    exact ⟨es, ks, l, rfl, h1, h2, h3⟩
  | null => unfold RL at h; cases h
  | bool b => unfold RL at h; simp at h
  | int b => unfold RL at h; simp at h
  | str b => unfold RL at h; simp at h
  | flt b => unfold RL at h; exact h.elim
  | arr b => unfold RL at h; exact h.elim
theorem St.start {B : Nat} {p : Pth} {m : Nat} {E0 : Pth → J → Prop} {w : World} {A : Lbl} {T : J} (hB : LB B w A) (hr : RL w A p T (.iface 79 (.map (some m)))) (ht : TreeOf E0 T) : St B p m E0 w A w A [] m E0 := by
  obtain ⟨es, ks, l, rfl, h1, h2, h3⟩ := hr.isObj
  refine ⟨es, ks, l, FrP.refl _ _, LG.refl _ _, hB, Zip.refl _ _ _ _ _, ?_, h2, ?_, ht, fun _ _ => Iff.rfl⟩
  · rw [List.append_nil]; exact h1
  · rw [List.append_nil]; exact h3
theorem Zip.ext {B : Nat} {w w1 : World} {A : Lbl} {p0 s : Pth} {m root : Nat} {Ec E0 : Pth → J → Prop} (h : Zip w A p0 s m root Ec E0) (hB : LB B w A) (hx : Ext w w1) : Zip w1 A p0 s m root Ec E0 := fun w' A' T' D h1 h2 h3 h4 =>
  h w' A' T' D ⟨h1.lbl, fun k q e hn => (h1.blk k q e hn).trans (hx.block k (hB k q e).2)⟩ h2 h3 h4
theorem St.ext {B : Nat} {p : Pth} {root : Nat} {E0 : Pth → J → Prop} {w : World} {A0 : Lbl} {wr w1 : World} {A : Lbl} {s : Pth} {m : Nat} {Ec : Pth → J → Prop} (h : St B p root E0 w A0 wr A s m Ec) (hx : Ext wr w1) : St B p root E0 w A0 w1 A s m Ec := by
  obtain ⟨es, ks, l, h1, h2, h3, h4, h5, h6, h7, h8, h9⟩ := h
  exact ⟨es, ks, l, h1.ext hx, h2, h3.ext hx.size, h4.ext h3 hx, h5, (hx.block m (h3 m _ h5).2).trans h6, RLs.keep l (LKeep.ext h3 hx) h7, h8, h9⟩
theorem St.fr {B : Nat} {p : Pth} {root : Nat} {E0 : Pth → J → Prop} {w : World} {A0 : Lbl} {wr : World} {A : Lbl} {s : Pth} {m : Nat} {Ec : Pth → J → Prop} (h : St B p root E0 w A0 wr A s m Ec) : FrP (Out A0 p) w wr := by
  obtain ⟨es, ks, l, h1, _⟩ := h
  exact h1

/-- a step down: the child is there, or the key is new -/
theorem St.into {B : Nat} {p : Pth} {root : Nat} {E0 : Pth → J → Prop} {w : World} {A0 : Lbl} {wr : World} {A : Lbl} {s : Pth} {m : Nat} {Ec : Pth → J → Prop} (h : St B p root E0 w A0 wr A s m Ec) (k : ByteArray) (q : Pth) (hq : ∀ q' x', E0 q' x' → Apart q q') (hpre : ∃ r, q = s ++ k :: r) :
    (∃ m', (Instr.lookup 79 (.map (some m)) (.string k) false).run Try.prog wr = .ok (.iface 79 (.map (some m'))) wr ∧ St B p root E0 w A0 wr A (s ++ [k]) m' fun r x => Ec (k :: r) x) ∨
    ((Instr.lookup 79 (.map (some m)) (.string k) false).run Try.prog wr = .ok .nilIface wr ∧
      ∀ w1 m', Ext wr w1 → wr.heap.size ≤ m' → m' < w1.heap.size → w1.heap[m']? = some (.map #[] 0) →
        ∃ w2 A2, (Instr.mapUpdate 79 (.map (some m)) (.string k) (.iface 79 (.map (some m')))).run Try.prog w1 = .ok () w2 ∧ St B p root E0 w A0 w2 A2 (s ++ [k]) m' fun r x => Ec (k :: r) x) := by
  obtain ⟨es, ks, l, h1, h2, h3, h4, h5, h6, h7, h8, h9⟩ := h
  obtain ⟨n1, n2, n3, n4, n5⟩ := h8.obj_inv
  rcases lookup_RL wr A (p ++ s) m es ks l h6 h7 n1 k with ⟨i, e, y, a1, a2, a3, a4, a5⟩ | ⟨hk, hl⟩
  · refine Or.inl ?_
    have hmem : k ∈ ks := List.mem_of_getElem? a1
    have hil := (List.getElem?_eq_some_iff.1 a3).1
    have hlk : look ks l k = y := by
      rw [look_hit hil a1 n1]
      exact (List.getElem?_eq_some_iff.1 a3).2
    have hch := n4 k hmem
    rw [hlk] at hch
    rcases hch.cases_on' with hleaf | ⟨ks', l', rfl⟩
    · have h0 : Ec [k] y := (hch.leaf_inv hleaf [] y).2 ⟨rfl, rfl⟩
      obtain ⟨r, rfl⟩ := hpre
      exact absurd ⟨r, by simp⟩ (hq _ _ ((h9 _ _).1 h0)).2
    · have hev : ∃ m' es', e.val = .iface 79 (.map (some m')) ∧ A m' = some (p ++ s ++ [k]) ∧ wr.heap[m']? = some (.map es' es'.size) ∧ RLs wr A (p ++ s ++ [k]) es'.toList 0 ks' l' := by
        unfold RL at a5
        exact a5
      obtain ⟨m', es', ev, b1, b2, b3⟩ := hev
      refine ⟨m', by rw [a4, ev], es', ks', l', h1, h2, h3, Zip.down h4 h5 h6 h7 h8 a1 ⟨e, a2, ev⟩, ?_, b2, ?_, hch, fun r x => ?_⟩
      · rw [← List.append_assoc]; exact b1
      · rw [← List.append_assoc]; exact b3
      · show Ec (k :: r) x ↔ _
        rw [h9, List.append_assoc]
        rfl
  · refine Or.inr ⟨hl, fun w1 m' hx hm1 hm2 hm3 => ?_⟩
    have hmB := h3 m _ h5
    have h6' := (hx.block m hmB.2).trans h6
    have h7' := RLs.keep l (LKeep.ext h3 hx) h7
    refine ⟨_, fun b => if b = m' then some (p ++ s ++ [k]) else A b, put_RL w1 A (p ++ s) m es ks l h6' h7' k hk _, #[], [], [], ?_, ?_, ?_, ?_, ?_, ?_, ?_, ?_, ?_⟩
    · refine (h1.ext hx).grown (setMap_grown _ _ _ _) fun hlt hP => ?_
      rcases h2.new m _ h5 with e | e
      · exact hP _ e ⟨s, rfl⟩
      · omega
    · refine ⟨fun b q e => ?_, fun b q e => ?_⟩
      · have e1 := h2.old b q e
        have : b ≠ m' := fun hb => by have := (h3 b q e1).2; omega
        simp only [this, if_false]
        exact e1
      · by_cases hb : b = m'
        · exact Or.inr (by have := h1.size; omega)
        · simp only [hb, if_false] at e
          exact h2.new b q e
    · intro b q e
      rw [setMap_size]
      by_cases hb : b = m'
      · subst hb
        exact ⟨by omega, hm2⟩
      · simp only [hb, if_false] at e
        have := h3 b q e
        exact ⟨this.1, by have := hx.size; omega⟩
    · refine Zip.make (h4.ext h3 hx) h5 h7' h8 hk ?_ (setMap_same (by have := hx.size; omega)) fun b q hb hbm => (setMap_grown _ _ _ _).block b (by have := (h3 b q hb).2; have := hx.size; omega) (by simpa using hbm)
      cases e : A m' with
      | none => rfl
      | some q => have := (h3 m' q e).2; omega
    · simp
    · exact ((setMap_grown _ _ _ _).block m' hm2 (by simp; omega)).trans hm3
    · unfold RLs; exact ⟨rfl, rfl⟩
    · refine TreeOf.obj _ _ _ (by simp) rfl (fun r x h => ?_) (fun k hk => by simp at hk) (fun k hk => by simp at hk)
      obtain ⟨k', r', e, hk'⟩ := n3 _ _ h
      simp only [List.cons.injEq] at e
      exact absurd (by rw [e.1]; exact hk') hk
    · intro r x
      show Ec (k :: r) x ↔ _
      rw [h9, List.append_assoc]
      rfl

theorem RL.of_leaf {w w' : World} {A A' : Lbl} {p p' : Pth} {c : J} {v : Value} (hc : c.isLeaf = true) (h : RL w A p c v) : RL w' A' p' c v := by
  cases c <;> first | (unfold RL at h ⊢; exact h) | cases hc

/-- what is left of a leaf or a sub-filter: the root is a tree again -/
def Grew (B : Nat) (p : Pth) (root : Nat) (E : Pth → J → Prop) (w : World) (A0 : Lbl) (w' : World) : Prop :=
  ∃ (A' : Lbl) (T : J), FrP (Out A0 p) w w' ∧ LG w A0 A' ∧ LB B w' A' ∧ RL w' A' p T (.iface 79 (.map (some root))) ∧ TreeOf E T

/-- the last key is new, and a leaf is put -/
theorem St.leaf {B : Nat} {p : Pth} {root : Nat} {E0 : Pth → J → Prop} {w : World} {A0 : Lbl} {wr : World} {A : Lbl} {s : Pth} {m : Nat} {Ec : Pth → J → Prop} (h : St B p root E0 w A0 wr A s m Ec) (k : ByteArray) (c : J) (v : Value) (hc : c.isLeaf = true) (hv : RL wr A p c v) (hq : ∀ q' x', E0 q' x' → Apart (s ++ [k]) q') :
    ∃ w2, (Instr.mapUpdate 79 (.map (some m)) (.string k) v).run Try.prog wr = .ok () w2 ∧ Grew B p root (fun q x => E0 q x ∨ (q = s ++ [k] ∧ x = c)) w A0 w2 := by
  obtain ⟨es, ks, l, h1, h2, h3, h4, h5, h6, h7, h8, h9⟩ := h
  obtain ⟨n1, n2, n3, n4, n5⟩ := h8.obj_inv
  have hk : k ∉ ks := fun hk => by
    obtain ⟨r, x, hr⟩ := n5 k hk
    exact (hq _ _ ((h9 _ _).1 hr)).1 ⟨r, by simp⟩
  have hmB := h3 m _ h5
  obtain ⟨T, g1, g2⟩ := Zip.leaf (w1 := setMap wr m (es.push ⟨.string k, v, es.size⟩) (es.size + 1)) h4 h5 h7 h8 hk hc (RL.of_leaf hc hv) (setMap_same hmB.2) fun b q hb hbm => (setMap_grown _ _ _ _).block b (h3 b q hb).2 (by simpa using hbm)
  refine ⟨_, put_RL wr A (p ++ s) m es ks l h6 h7 k hk _, A, T, ?_, h2, fun b q e => by rw [setMap_size]; exact h3 b q e, g1, g2⟩
  refine h1.grown (setMap_grown _ _ _ _) fun hlt hP => ?_
  rcases h2.new m _ h5 with e | e
  · exact hP _ e ⟨s, rfl⟩
  · omega

/-- the map at s, for the sub-filter -/
theorem St.sub {B : Nat} {p : Pth} {root : Nat} {E0 : Pth → J → Prop} {w : World} {A0 : Lbl} {wr : World} {A : Lbl} {s : Pth} {m : Nat} {Ec : Pth → J → Prop} (h : St B p root E0 w A0 wr A s m Ec) :
    LB B wr A ∧ (∃ T, RL wr A (p ++ s) T (.iface 79 (.map (some m))) ∧ TreeOf Ec T) ∧ ∀ r x, Ec r x ↔ E0 (s ++ r) x := by
  obtain ⟨es, ks, l, h1, h2, h3, h4, h5, h6, h7, h8, h9⟩ := h
  exact ⟨h3, ⟨.obj ks l, by unfold RL; exact ⟨m, es, rfl, h5, h6, h7⟩, h8⟩, h9⟩
/-- the sub-filter has grown -/
theorem St.back {B : Nat} {p : Pth} {root : Nat} {E0 : Pth → J → Prop} {w : World} {A0 : Lbl} {wr : World} {A : Lbl} {s : Pth} {m : Nat} {Ec D : Pth → J → Prop} {w' : World} (h : St B p root E0 w A0 wr A s m Ec) (hg : Grew B (p ++ s) m (fun q x => Ec q x ∨ D q x) wr A w') (hD : ∃ q x, D q x) :
    Grew B p root (fun q x => E0 q x ∨ ∃ r, q = s ++ r ∧ D r x) w A0 w' := by
  obtain ⟨es, ks, l, h1, h2, h3, h4, h5, h6, h7, h8, h9⟩ := h
  obtain ⟨A', T', g1, g2, g3, g4, g5⟩ := hg
  obtain ⟨T, t1, t2⟩ := h4 w' A' T' D ⟨g2.old, fun k q e hn => g1.block k (h3 k q e).2 fun q' e' => by rw [e] at e'; cases e'; exact hn⟩ g4 g5 (by
    obtain ⟨q, x, h⟩ := hD
    exact ⟨q, x, Or.inr h⟩)
  refine ⟨A', T, h1.trans g1 fun b hb hP q e => ?_, h2.trans h1.size g2, g3, t1, t2⟩
  rintro ⟨r, rfl⟩
  rcases h2.new b _ e with e' | e'
  · exact hP _ e' ⟨s ++ r, by simp⟩
  · omega
end Go.Proofs.Ytikpedfggbibpaa
namespace Go.Proofs.Ytikpedfggbibpaa
open Go.RowKit Go.Lib
set_option linter.unusedVariables false
set_option linter.unusedSimpArgs false

theorem oks_of : ∀ {l : List J}, (∀ i, (h : i < l.length) → (l[i]).ok) → J.oks l
  | [], _ => by simp [J.oks]
  | x :: xs, h => by
    unfold J.oks
    exact ⟨h 0 (by simp), oks_of fun i hi => h (i + 1) (by simpa using hi)⟩
theorem nofls_of : ∀ {l : List J}, (∀ i, (h : i < l.length) → (l[i]).nofl) → J.nofls l
  | [], _ => by simp [J.nofls]
  | x :: xs, h => by
    unfold J.nofls
    exact ⟨h 0 (by simp), nofls_of fun i hi => h (i + 1) (by simpa using hi)⟩
/-- a tree is a datum without floats -/
theorem TreeOf.okj {E : Pth → J → Prop} {T : J} (h : TreeOf E T) : T.ok ∧ T.nofl := by
  induction h with
  | leaf E c hc _ => cases c <;> simp_all [J.isLeaf, J.ok, J.nofl]
  | obj E ks l h1 h2 h3 h4 h5 ih =>
    have hi : ∀ i, (h : i < l.length) → l[i].ok ∧ l[i].nofl := fun i hi => by
      have hik : i < ks.length := by omega
      have := ih ks[i] (List.getElem_mem _)
      rwa [look_hit hi (List.getElem?_eq_getElem hik) h1] at this
    refine ⟨?_, ?_⟩
    · unfold J.ok
      exact ⟨h1, h2, oks_of fun i h => (hi i h).1⟩
    · unfold J.nofl
      exact nofls_of fun i h => (hi i h).2

/-- the rests of the paths that begin with a key -/
def tailsAt (P : List Pth) (k : ByteArray) : List Pth := P.filterMap fun p => match p with
  | [] => none
  | a :: r => if a = k then some r else none
def rest (P : List Pth) (k : ByteArray) : List Pth := P.filter fun p => match p with
  | [] => true
  | a :: _ => !decide (a = k)
def nils (P : List Pth) : Nat := (P.filter fun p => p.isEmpty).length
theorem mem_tailsAt {P : List Pth} {k : ByteArray} {r : Pth} : r ∈ tailsAt P k ↔ k :: r ∈ P := by
  unfold tailsAt
  rw [List.mem_filterMap]
  constructor
  · rintro ⟨p, hp, h⟩
    cases p with
    | nil => cases h
    | cons a q =>
      by_cases e : a = k
      · subst e
        simp at h
        rw [← h]; exact hp
      · simp [e] at h
  · intro h
    exact ⟨_, h, by simp⟩
theorem len_split (P : List Pth) (k : ByteArray) : P.length = (tailsAt P k).length + (rest P k).length := by
  induction P with
  | nil => rfl
  | cons p P ih =>
    cases p with
    | nil => simp only [tailsAt, rest, List.filterMap_cons, List.filter_cons, List.length_cons] at ih ⊢; simp; omega
    | cons a r =>
      by_cases e : a = k
      · subst e
        simp [tailsAt, rest] at ih ⊢; omega
      · simp [tailsAt, rest, e] at ih ⊢; omega
theorem nils_rest (P : List Pth) (k : ByteArray) : nils (rest P k) = nils P := by
  induction P with
  | nil => rfl
  | cons p P ih =>
    cases p with
    | nil => simp [nils, rest] at ih ⊢; omega
    | cons a r =>
      by_cases e : a = k
      · subst e
        simpa [nils, rest] using ih
      · simpa [nils, rest, e] using ih
theorem tails_rest (P : List Pth) {k k' : ByteArray} (h : k' ≠ k) : tailsAt (rest P k) k' = tailsAt P k' := by
  induction P with
  | nil => rfl
  | cons p P ih =>
    cases p with
    | nil => simpa [tailsAt, rest] using ih
    | cons a r =>
      by_cases e : a = k
      · subst e
        have : ¬ a = k' := fun e => h e.symm
        simp [tailsAt, rest, this] at ih ⊢
        exact ih
      · by_cases e' : a = k'
        · subst e'
          simp [tailsAt, rest, e] at ih ⊢
          exact ih
        · simp [tailsAt, rest, e, e'] at ih ⊢
          exact ih
theorem nodes_sum : ∀ (ks : List ByteArray) (l : List J) (P : List Pth), ks.length = l.length → ks.Nodup → (∀ k ∈ ks, (look ks l k).nodes ≤ (tailsAt P k).length) → J.nodesL l + nils P ≤ P.length
  | [], [], P, _, _, _ => by
    simp only [J.nodesL, nils]
    have := List.length_filter_le (fun p : Pth => p.isEmpty) P
    omega
  | [], x :: l, P, h, _, _ => by simp at h
  | k :: ks, [], P, h, _, _ => by simp at h
  | k :: ks, x :: l, P, h, hn, hk => by
    obtain ⟨n1, n2⟩ := List.nodup_cons.1 hn
    have h0 := hk k (by simp)
    simp only [look, if_true] at h0
    have ih := nodes_sum ks l (rest P k) (by simpa using h) n2 (fun k' hk' => by
      have hne : k' ≠ k := fun e => n1 (by rw [← e]; exact hk')
      have h1 := hk k' (by simp [hk'])
      have hne2 : ¬ k = k' := fun e => hne e.symm
      simp only [look, hne2, if_false] at h1
      rw [tails_rest P hne]
      exact h1)
    rw [nils_rest] at ih
    have := len_split P k
    simp only [J.nodesL]
    omega
/-- a tree has no more nodes than its paths have beginnings -/
theorem tree_nodes {E : Pth → J → Prop} {T : J} (h : TreeOf E T) : ∀ (P : List Pth), (∃ q x, E q x) → (∀ q x, E q x → ∀ s r, q = s ++ r → s ∈ P) → T.nodes ≤ P.length := by
  induction h with
  | leaf E c hc he =>
    intro P h1 h2
    obtain ⟨q, x, hq⟩ := h1
    have := List.length_pos_of_mem (h2 q x hq [] q rfl)
    cases c <;> simp_all [J.isLeaf, J.nodes] <;> omega
  | obj E ks l h1 h2 h3 h4 h5 ih =>
    intro P he hP
    have hs := nodes_sum ks l P h2 h1 fun k hk => ih k hk (tailsAt P k) (h5 k hk) fun q x hq s r e => by
      rw [mem_tailsAt]
      exact hP _ x hq (k :: s) r (by rw [e]; rfl)
    have hn : 0 < nils P := by
      obtain ⟨q, x, hq⟩ := he
      refine List.length_pos_of_mem (List.mem_filter.2 ⟨hP q x hq [] q rfl, rfl⟩)
    simp only [J.nodes]
    omega

/-- the beginnings of the paths of a filter's leaves -/
def inits1 (K : Pth) : List Pth := (List.range (K.length - 1)).map fun i => K.take (i + 1)
mutual
def PF : J → List Pth
  | .obj ks l => [] :: PFs ks l
  | _ => [[]]
def PFs : List ByteArray → List J → List Pth
  | k :: ks, x :: xs => inits1 (kcut k) ++ ((PF x).map (kcut k ++ ·) ++ PFs ks xs)
  | _, _ => []
end
theorem PFs_mem {p : Pth} : ∀ {ks : List ByteArray} {l : List J} {i : Nat} {k : ByteArray} {y : J}, ks[i]? = some k → l[i]? = some y → (p ∈ inits1 (kcut k) ∨ ∃ r, p = kcut k ++ r ∧ r ∈ PF y) → p ∈ PFs ks l
  | k :: ks, x :: xs, 0, _, _, h1, h2, h => by
    simp at h1 h2
    subst h1; subst h2
    unfold PFs
    rcases h with h | ⟨r, rfl, h⟩
    · exact List.mem_append_left _ h
    · exact List.mem_append_right _ (List.mem_append_left _ (List.mem_map.2 ⟨r, h, rfl⟩))
  | k :: ks, x :: xs, i + 1, _, _, h1, h2, h => by
    unfold PFs
    exact List.mem_append_right _ (List.mem_append_right _ (PFs_mem (by simpa using h1) (by simpa using h2) h))
  | [], _, _, _, _, h1, _, _ => by simp at h1
  | _ :: _, [], _, _, _, _, h2, _ => by simp at h2
theorem PF_nil (f : J) : [] ∈ PF f := by cases f <;> simp [PF]
theorem LV.inits {f : J} {q : Pth} {x : J} (h : LV f q x) : ∀ s r, q = s ++ r → s ∈ PF f := by
  induction h with
  | leaf c hc =>
    intro s r e
    have : s = [] := by simpa using (List.append_eq_nil_iff.1 e.symm).1
    rw [this]
    exact PF_nil c
  | obj ks l i k y r0 x h1 h2 h3 ih =>
    intro s r e
    by_cases hs : s = []
    · rw [hs]; exact PF_nil _
    have : PF (.obj ks l) = [] :: PFs ks l := by simp [PF]
    rw [this]
    refine List.mem_cons_of_mem _ (PFs_mem h1 h2 ?_)
    rcases List.append_eq_append_iff.1 e with ⟨as', e1, e2⟩ | ⟨cs, e1, e2⟩
    · exact Or.inr ⟨as', e1, ih as' r e2⟩
    · by_cases hc : cs = []
      · subst hc
        rw [List.append_nil] at e1
        exact Or.inr ⟨[], by rw [e1, List.append_nil], PF_nil y⟩
      · refine Or.inl ?_
        have hl1 : 0 < s.length := List.length_pos_iff.2 hs
        have hl2 : 0 < cs.length := List.length_pos_iff.2 hc
        unfold inits1
        rw [List.mem_map]
        refine ⟨s.length - 1, ?_, ?_⟩
        · rw [List.mem_range, e1, List.length_append]
          omega
        · rw [e1, show s.length - 1 + 1 = s.length by omega, List.take_left]
theorem splitL_len : ∀ (l : List UInt8), (splitL l).length ≤ l.length + 1
  | [] => by simp [splitL]
  | c :: r => by
    have ih := splitL_len r
    unfold splitL
    split
    · simp only [List.length_cons]; omega
    · split
      · next h t e => rw [e] at ih; simp only [List.length_cons] at ih ⊢; omega
      · simp
theorem kcut_len (s : ByteArray) : (kcut s).length ≤ s.size + 1 := by
  unfold kcut
  rw [List.length_map]
  have := splitL_len s.data.toList
  simpa using this
theorem splitL_sizes : ∀ (l : List UInt8), ∀ p ∈ splitL l, p.length ≤ l.length
  | [], p, h => by simp [splitL] at h; subst h; simp
  | c :: r, p, h => by
    have ih := splitL_sizes r
    unfold splitL at h
    split at h
    · rcases List.mem_cons.1 h with rfl | h
      · simp
      · have := ih p h; simp only [List.length_cons]; omega
    · split at h
      · next h0 t e =>
        rcases List.mem_cons.1 h with rfl | h
        · have := ih h0 (by rw [e]; simp); simp only [List.length_cons]; omega
        · have := ih p (by rw [e]; simp [h]); simp only [List.length_cons]; omega
      · simp at h; subst h; simp
theorem kcut_sizes (s : ByteArray) : ∀ k ∈ kcut s, k.size ≤ s.size := by
  intro k hk
  unfold kcut at hk
  obtain ⟨p, hp, rfl⟩ := List.mem_map.1 hk
  have := splitL_sizes _ p hp
  show p.toArray.size ≤ _
  simpa using this
theorem splitL_nodot : ∀ (l : List UInt8), ∀ p ∈ splitL l, ∀ c ∈ p, c ≠ 46
  | [], p, h, c, hc => by simp [splitL] at h; subst h; simp at hc
  | a :: r, p, h, c, hc => by
    have ih := splitL_nodot r
    unfold splitL at h
    split at h
    · rcases List.mem_cons.1 h with rfl | h
      · simp at hc
      · exact ih p h c hc
    · next hne =>
      split at h
      · next h0 t e =>
        rcases List.mem_cons.1 h with rfl | h
        · rcases List.mem_cons.1 hc with rfl | hc
          · exact hne
          · exact ih h0 (by rw [e]; simp) c hc
        · exact ih p (by rw [e]; simp [h]) c hc
      · simp at h
        subst h
        simp at hc
        subst hc
        exact hne
theorem inits1_len (K : Pth) : (inits1 K).length = K.length - 1 := by simp [inits1]
mutual
theorem PF_wt : ∀ (f : J), (PF f).length ≤ (V.ofJ f).wt
  | .null => by simp [PF, V.ofJ, V.wt]; omega
  | .bool b => by simp [PF, V.ofJ, V.wt]; omega
  | .int n => by simp [PF, V.ofJ, V.wt]; omega
  | .flt b => by simp [PF, V.ofJ, V.wt]; omega
  | .str s => by simp [PF, V.ofJ, V.wt]; omega
  | .arr l => by simp [PF, V.ofJ, V.wt]; omega
  | .obj ks l => by have := PFs_wt ks l; simp only [PF, V.ofJ, V.wt, List.length_cons]; simp; omega
theorem PFs_wt : ∀ (ks : List ByteArray) (l : List J), (PFs ks l).length ≤ ksum ks + V.wtL (V.ofJs l)
  | [], l => by unfold PFs; simp
  | k :: ks, [] => by unfold PFs; simp
  | k :: ks, x :: xs => by
    have h1 := PF_wt x
    have h2 := PFs_wt ks xs
    have h3 := kcut_len k
    unfold PFs
    simp only [List.length_append, List.length_map, inits1_len, ksum, List.map_cons, List.sum_cons, V.ofJs, V.wtL] at *
    omega
end
end Go.Proofs.Ytikpedfggbibpaa
namespace Go.Proofs.Ytikpedfggbibpaa
open Go.RowKit Go.Lib
set_option linter.unusedVariables false
set_option linter.unusedSimpArgs false

/-- the leaves of the first m entries -/
def EP (ks : List ByteArray) (l : List J) (m : Nat) (q : Pth) (x : J) : Prop := ∃ (i : Nat) (k : ByteArray) (y : J) (r : Pth), i < m ∧ ks[i]? = some k ∧ l[i]? = some y ∧ q = kcut k ++ r ∧ LV y r x
/-- the first m entries are as they should be -/
def GE (ks : List ByteArray) (l : List J) (m : Nat) : Prop := (∀ (i : Nat) (y : J), i < m → l[i]? = some y → GoodF y) ∧
  (∀ (i j : Nat) (k k' : ByteArray) (y y' : J), i < m → j < m → i ≠ j → ks[i]? = some k → ks[j]? = some k' → l[i]? = some y → l[j]? = some y' → ∀ r x r' x', LV y r x → LV y' r' x' → Apart (kcut k ++ r) (kcut k' ++ r'))
theorem GE.zero (ks : List ByteArray) (l : List J) : GE ks l 0 := ⟨fun i y h => by omega, fun i j k k' y y' h => by omega⟩
theorem EP.zero {ks : List ByteArray} {l : List J} {q : Pth} {x : J} : ¬ EP ks l 0 q x := by
  rintro ⟨i, k, y, r, h, _⟩
  omega
theorem EP.succ {ks : List ByteArray} {l : List J} {m : Nat} {k : ByteArray} {y : J} (hk : ks[m]? = some k) (hy : l[m]? = some y) (q : Pth) (x : J) : EP ks l (m + 1) q x ↔ EP ks l m q x ∨ ∃ r, q = kcut k ++ r ∧ LV y r x := by
  constructor
  · rintro ⟨i, k', y', r, h1, h2, h3, h4, h5⟩
    by_cases him : i = m
    · subst him
      rw [hk] at h2
      rw [hy] at h3
      cases h2; cases h3
      exact Or.inr ⟨r, h4, h5⟩
    · exact Or.inl ⟨i, k', y', r, by omega, h2, h3, h4, h5⟩
  · rintro (⟨i, k', y', r, h1, h2, h3, h4, h5⟩ | ⟨r, h4, h5⟩)
    · exact ⟨i, k', y', r, by omega, h2, h3, h4, h5⟩
    · exact ⟨m, k, y, r, by omega, hk, hy, h4, h5⟩
theorem EP.lv {ks : List ByteArray} {l : List J} {m : Nat} {q : Pth} {x : J} (h : EP ks l m q x) : LV (.obj ks l) q x := by
  obtain ⟨i, k, y, r, h1, h2, h3, rfl, h5⟩ := h
  exact LV.obj ks l i k y r x h2 h3 h5
theorem EP.full {ks : List ByteArray} {l : List J} (q : Pth) (x : J) : EP ks l l.length q x ↔ LV (.obj ks l) q x := by
  refine ⟨EP.lv, fun h => ?_⟩
  obtain ⟨i, k, y, r, h2, h3, h4, h5⟩ := (LV.obj_iff q x).1 h
  exact ⟨i, k, y, r, (List.getElem?_eq_some_iff.1 h3).1, h2, h3, h4, h5⟩
theorem GE.succ {ks : List ByteArray} {l : List J} {m : Nat} {k : ByteArray} {y : J} (hk : ks[m]? = some k) (hy : l[m]? = some y) (h : GE ks l m) (hg : GoodF y) (ha : ∀ q x, EP ks l m q x → ∀ r x', LV y r x' → Apart (kcut k ++ r) q) : GE ks l (m + 1) := by
  refine ⟨fun i y' hi hy' => ?_, fun i j k1 k2 y1 y2 hi hj hij g1 g2 g3 g4 r x r' x' l1 l2 => ?_⟩
  · by_cases him : i = m
    · subst him
      rw [hy] at hy'
      cases hy'
      exact hg
    · exact h.1 i y' (by omega) hy'
  · by_cases him : i = m
    · subst him
      rw [hk] at g1
      rw [hy] at g3
      cases g1; cases g3
      exact ha _ _ ⟨j, k2, y2, r', by omega, g2, g4, rfl, l2⟩ r x l1
    · by_cases hjm : j = m
      · subst hjm
        rw [hk] at g2
        rw [hy] at g4
        cases g2; cases g4
        exact (ha _ _ ⟨i, k1, y1, r, by omega, g1, g3, rfl, l1⟩ r' x' l2).symm
      · exact h.2 i j k1 k2 y1 y2 (by omega) (by omega) hij g1 g2 g3 g4 r x r' x' l1 l2
theorem GE.good {ks : List ByteArray} {l : List J} (h : GE ks l l.length) (hn : ks.Nodup) (hl : ks.length = l.length) (h0 : 0 < l.length) : GoodF (.obj ks l) := by
  refine GoodF.obj ks l hn hl (List.length_pos_iff.1 (by omega)) (fun i y hy => h.1 i y (List.getElem?_eq_some_iff.1 hy).1 hy) fun i j k k' y y' hij g1 g2 g3 g4 => ?_
  exact h.2 i j k k' y y' (List.getElem?_eq_some_iff.1 g3).1 (List.getElem?_eq_some_iff.1 g4).1 hij g1 g2 g3 g4

/-- the tree has grown by a leaf -/
theorem step_leaf {ks : List ByteArray} {l : List J} {m : Nat} {k : ByteArray} {c : J} {o : Option J} {T : J} (hk : ks[m]? = some k) (hy : l[m]? = some c) (hc : c.isLeaf = true) (hg : GE ks l m) (ho : TreeO (EP ks l m) o) (h : growJ o (kcut k) c = some T) : GE ks l (m + 1) ∧ TreeOf (EP ks l (m + 1)) T := by
  obtain ⟨h1, h2⟩ := grow_tree (kcut k) c o _ T hc ho h
  refine ⟨GE.succ hk hy hg (GoodF.leaf c hc) fun q x hq r x' hr => ?_, h1.congr fun q x => ?_⟩
  · obtain ⟨rfl, rfl⟩ := (LV.leaf_iff hc r x').1 hr
    rw [List.append_nil]
    exact h2 q x hq
  · rw [EP.succ hk hy]
    constructor
    · rintro (h | ⟨rfl, rfl⟩)
      · exact Or.inl h
      · exact Or.inr ⟨[], by rw [List.append_nil], LV.leaf _ hc⟩
    · rintro (h | ⟨r, rfl, h⟩)
      · exact Or.inl h
      · obtain ⟨rfl, rfl⟩ := (LV.leaf_iff hc r x).1 h
        exact Or.inr ⟨by rw [List.append_nil], rfl⟩
/-- the tree has grown by a tree, behind one key -/
theorem step_tree {ks : List ByteArray} {l : List J} {m : Nat} {k : ByteArray} {y S : J} {o : Option J} {T : J} (hk : ks[m]? = some k) (hy : l[m]? = some y) (hk1 : kcut k = [k]) (hgy : GoodF y) (hS : TreeOf (LV y) S) (hg : GE ks l m) (ho : TreeO (EP ks l m) o) (h : growJ o (kcut k) S = some T) : GE ks l (m + 1) ∧ TreeOf (EP ks l (m + 1)) T := by
  rw [hk1] at h
  have hT : TreeOf (fun q x => EP ks l m q x ∨ ∃ r, q = k :: r ∧ LV y r x) T ∧ ∀ q x, EP ks l m q x → ∀ r, Apart (k :: r) q := by
    cases o with
    | none =>
      simp only [growJ, Option.map_some, Option.some.injEq] at h
      subst h
      refine ⟨?_, fun q x hq => (ho q x hq).elim⟩
      have h0 : TreeOf (fun (_ : Pth) (_ : J) => False) (.obj [] []) := TreeOf.obj _ _ _ (by simp) rfl (fun p x h => h.elim) (fun k hk => by simp at hk) (fun k hk => by simp at hk)
      refine (tree_snoc h0 (k := k) (by simp) hS hgy.one).congr fun q x => ?_
      constructor
      · rintro (h | h)
        · exact h.elim
        · exact Or.inr h
      · rintro (h | h)
        · exact (ho q x h).elim
        · exact Or.inr h
    | some T0 =>
      rcases TreeOf.cases_on' ho with hl | ⟨kt, lt, rfl⟩
      · cases T0 <;> simp_all [growJ, J.isLeaf]
      · simp only [growJ] at h
        cases hi : idxK kt k with
        | some i =>
          obtain ⟨h1, h2⟩ := idxK_some hi
          obtain ⟨n1, n2, _⟩ := TreeOf.obj_inv ho
          simp [hi, List.getElem?_eq_getElem (show i < lt.length by omega), growJ] at h
        | none =>
          have hnk := idxK_none hi
          simp only [hi, growJ, Option.map_some, Option.some.injEq] at h
          subst h
          obtain ⟨_, _, n3, _⟩ := TreeOf.obj_inv ho
          refine ⟨tree_snoc ho hnk hS hgy.one, fun q x hq r => ?_⟩
          obtain ⟨k', r', rfl, hk'⟩ := n3 q x hq
          exact Apart.heads fun e => hnk (by rw [e]; exact hk')
  refine ⟨GE.succ hk hy hg hgy fun q x hq r x' hr => ?_, hT.1.congr fun q x => ?_⟩
  · rw [hk1]
    exact hT.2 q x hq r
  · rw [EP.succ hk hy, hk1]
    rfl

/-! ### reading beside what turns -/
/-- a world with the blocks of w0 below lo, and those of w from lo on -/
def mixW (w0 : World) (lo : Nat) (w : World) : World := { w with heap := Array.ofFn (n := w.heap.size) fun i => if i.val < lo then (w0.heap[i.val]?).getD (.map #[] 0) else w.heap[i] }
theorem mixW_size (w0 : World) (lo : Nat) (w : World) : (mixW w0 lo w).heap.size = w.heap.size := by simp [mixW]
theorem mixW_low {w0 w : World} {lo k : Nat} (h : k < lo) (hk : k < w.heap.size) : (mixW w0 lo w).heap[k]? = some ((w0.heap[k]?).getD (.map #[] 0)) := by
  simp [mixW, h, hk]
theorem mixW_high {w0 w : World} {lo k : Nat} (h : lo ≤ k) : (mixW w0 lo w).heap[k]? = w.heap[k]? := by
  by_cases hk : k < w.heap.size
  · simp [mixW, Nat.not_lt.2 h, hk]
  · simp [mixW, hk]
theorem no_cell_map {w : World} {a : Addr} {v : Value} {es : Array MapEntry} {n : Nat} (h : w.heap[a.block]? = some (.map es n)) : w.cell? a ≠ some v := by
  unfold World.cell?
  rw [h]
  simp
theorem mixW_to {w0 w w2 : World} {lo : Nat} (k0 : Keep w0 w) (k1 : Keep w0 w2) (k2 : KeepF lo w w2) : Keep (mixW w0 lo w) w2 := fun a v h => by
  have hlt := lt_of_cell h
  rw [mixW_size] at hlt
  by_cases hl : a.block < lo
  · have h1 := mixW_low (w0 := w0) hl hlt
    cases h2 : w0.heap[a.block]? with
    | none =>
      rw [h2] at h1
      exact absurd h (no_cell_map h1)
    | some ob =>
      rw [h2] at h1
      refine k1 a v ?_
      rw [← h, World.cell?_of_block (h1.trans (by rw [h2]; rfl))]
  · have h1 := mixW_high (w0 := w0) (w := w) (Nat.le_of_not_lt hl)
    rw [World.cell?_of_block h1] at h
    exact k2.cell h (Nat.le_of_not_lt hl)
theorem mixW_of {w0 w : World} {lo : Nat} (k0 : Keep w0 w) : Keep w0 (mixW w0 lo w) := fun a v h => by
  have hlt := lt_of_cell (k0 a v h)
  by_cases hl : a.block < lo
  · have h1 := mixW_low (w0 := w0) hl hlt
    rw [← h]
    refine World.cell?_of_block ?_
    rw [h1, Array.getElem?_eq_getElem (lt_of_cell h)]
    rfl
  · rw [World.cell?_of_block (mixW_high (Nat.le_of_not_lt hl))]
    exact k0 a v h
theorem mixW_from {w0 w : World} {lo : Nat} : KeepF lo w (mixW w0 lo w) := fun k h1 h2 => mixW_high h1

/-! ### slices.Contains of bytes -/
theorem key_bytes (s : ByteArray) (w : World) : ∃ cap wb, (convert 9 72 (.string s)).run Try.prog w = .ok (.slice (some ⟨w.heap.size, 0, none⟩) s.size cap) wb ∧ Ext w wb ∧ ∀ j (h : j < s.size), wb.cell? ⟨w.heap.size, j, none⟩ = some (.int .u8 (s[j].toNat : Int)) := by
  refine ⟨_, _, run_bytes_of_string (P := Try.prog) w 9 72 5 s Try.underlying9 Try.underlying72 Try.underlying5, (Ext.drew (Ext.refl w)).alloc _, fun j hj => ?_⟩
  refine (cell_of_row _ w.heap.size j _ _ _ (heap_alloc_new w.drew _)).trans ?_
  exact bytesRow_at s _ j hj
theorem idxB_any (g c : Nat) (s : ByteArray) (hs : s.size ≤ 1000) (w : World) (hc : ∀ j (h : j < s.size), w.cell? ⟨g, j, none⟩ = some (.int .u8 (s[j].toNat : Int))) :
    Calls Try.prog 85 #[.slice (some ⟨g, 0, none⟩) s.size c, .int .u8 46] w fun e w' => ∃ r : Int, e = .returned (.int .i64 r) ∧ (0 ≤ r ↔ ∃ j, ∃ h : j < s.size, s[j] = 46) ∧ w = w' := by
  have HC := Lib.hid hc
  clear hc
  go_enter Try.func85, Try.ntmps85
  go_wp2
  go_loop [8] (fun i => ∃ m : Nat, m ≤ s.size ∧ i = .int .i64 m ∧ ∀ j, (h : j < s.size) → j < m → s[j] ≠ 46) (fun i => s.size - (intOf i).toNat)
  case atStart => exact ⟨0, Nat.zero_le _, rfl, fun j h h' => by omega⟩
  case round =>
    obtain ⟨m, hm, rfl, hno⟩ := hrel
    have HNO := Lib.hid hno
    clear hno
    by_cases hlt : m < s.size
    · have hcell := HC.out m hlt
      have hm1 : (m : Int) < (s.size : Int) := by omega
      have hm0 : (0 : Int) ≤ (m : Int) := by omega
      by_cases heq : s[m] = 46
      · have hn : (s[m].toNat : Int) = 46 := by rw [heq]; rfl
        have HEQ := Lib.hid heq
        rw [hn] at hcell
        clear hn heq
        go_wp2
        go_ret
        exact ⟨_, rfl, ⟨fun _ => ⟨m, hlt, HEQ.out⟩, fun _ => by omega⟩, rfl⟩
      · have hne : ((46 : Int) == (s[m].toNat : Int)) = false := by
          rw [beq_eq_false_iff_ne]
          intro e
          exact heq (UInt8.toNat_inj.1 (by have : (46 : UInt8).toNat = 46 := rfl; omega))
        have hne2 : ¬ (46 : Int) = (s[m].toNat : Int) := by simpa using hne
        have HEQ := Lib.hid heq
        clear heq
        generalize s[m].toNat = cm at *
        go_wp2
        go_round
        case rel => exact ⟨m + 1, by omega, by go_num, fun j h h' => by
          by_cases hj : j = m
          · subst hj; exact HEQ.out
          · exact HNO.out j h (by omega)⟩
        case measure => simp [intOf]; omega
    · have : m = s.size := by omega
      subst this
      go_wp2
      go_ret
      exact ⟨_, rfl, ⟨fun h => by omega, fun ⟨j, h, e⟩ => absurd e (HNO.out j h h)⟩, rfl⟩
/-- whether a key has a full stop -/
def dotB (s : ByteArray) : Bool := s.data.toList.contains 46
theorem dotB_iff (s : ByteArray) : dotB s = true ↔ ∃ j, ∃ h : j < s.size, s[j] = 46 := by
  unfold dotB
  rw [List.contains_iff_mem, List.mem_iff_getElem]
  constructor
  · rintro ⟨j, h, e⟩
    exact ⟨j, by simpa using h, e⟩
  · rintro ⟨j, h, e⟩
    exact ⟨j, by simpa using h, e⟩
theorem dotB_none {s : ByteArray} (h : dotB s = false) : kcut s = [s] := kcut_none fun c hc e => by
  subst e
  unfold dotB at h
  rw [← Bool.not_eq_true, List.contains_iff_mem] at h
  exact h hc
theorem containsB_any (g c : Nat) (s : ByteArray) (hs : s.size ≤ 1000) (w : World) (hc : ∀ j (h : j < s.size), w.cell? ⟨g, j, none⟩ = some (.int .u8 (s[j].toNat : Int))) :
    Calls Try.prog 48 #[.slice (some ⟨g, 0, none⟩) s.size c, .int .u8 46] w fun e w' => e = .returned (.bool (dotB s)) ∧ w = w' := by
  have HI := Lib.hid (idxB_any g c s hs w hc)
  clear hc
  go_enter Try.func48, Try.ntmps48
  go_wp2_with (go_at_call 85; refine (HI.out).mono ?_; rintro e w1 ⟨r, rfl, hr, rfl⟩; have HR := Lib.hid hr; clear hr HI)
  go_ret
  refine ⟨congrArg (fun b => Ending.returned (.bool b)) ?_, rfl⟩
  rw [Bool.eq_iff_iff, dotB_iff, ← HR.out]
  simp
end Go.Proofs.Ytikpedfggbibpaa
namespace Go.Proofs.Ytikpedfggbibpaa
open Go.RowKit Go.Lib
open Go.ChangeMaps (setBlock)
set_option linter.unusedVariables false
set_option linter.unusedSimpArgs false

/-- the leaves after the entries that have been seen -/
def Es (E0 : Pth → J → Prop) (ks : List ByteArray) (l : List J) (seen : Array Nat) (q : Pth) (x : J) : Prop :=
  E0 q x ∨ ∃ (i : Nat) (k : ByteArray) (y : J) (r : Pth), seen.contains i = true ∧ ks[i]? = some k ∧ l[i]? = some y ∧ q = kcut k ++ r ∧ LV y r x
theorem Es.push {E0 : Pth → J → Prop} {ks : List ByteArray} {l : List J} {seen : Array Nat} {j : Nat} {k : ByteArray} {y : J} (hk : ks[j]? = some k) (hy : l[j]? = some y) (q : Pth) (x : J) : Es E0 ks l (seen.push j) q x ↔ Es E0 ks l seen q x ∨ ∃ r, q = kcut k ++ r ∧ LV y r x := by
  unfold Es
  constructor
  · rintro (h | ⟨i, k', y', r, h1, h2, h3, h4, h5⟩)
    · exact Or.inl (Or.inl h)
    · rw [contains_push] at h1
      simp only [Bool.or_eq_true, beq_iff_eq] at h1
      rcases h1 with h1 | h1
      · exact Or.inl (Or.inr ⟨i, k', y', r, h1, h2, h3, h4, h5⟩)
      · have hij : i = j := by omega
        subst hij
        rw [hk] at h2
        rw [hy] at h3
        cases h2; cases h3
        exact Or.inr ⟨r, h4, h5⟩
  · rintro ((h | ⟨i, k', y', r, h1, h2, h3, h4, h5⟩) | ⟨r, h4, h5⟩)
    · exact Or.inl h
    · exact Or.inr ⟨i, k', y', r, by rw [contains_push, h1]; rfl, h2, h3, h4, h5⟩
    · exact Or.inr ⟨j, k, y, r, by rw [contains_push]; simp, hk, hy, h4, h5⟩
theorem Es.none {E0 : Pth → J → Prop} {ks : List ByteArray} {l : List J} (q : Pth) (x : J) : Es E0 ks l #[] q x ↔ E0 q x := by
  unfold Es
  constructor
  · rintro (h | ⟨i, k', y', r, h1, _⟩)
    · exact h
    · simp at h1
  · exact Or.inl
theorem Es.all {E0 : Pth → J → Prop} {ks : List ByteArray} {l : List J} {seen : Array Nat} (hs : ∀ i, i < l.length → seen.contains i = true) (q : Pth) (x : J) : Es E0 ks l seen q x ↔ E0 q x ∨ LV (.obj ks l) q x := by
  unfold Es
  rw [LV.obj_iff]
  constructor
  · rintro (h | ⟨i, k', y', r, h1, h2, h3, h4, h5⟩)
    · exact Or.inl h
    · exact Or.inr ⟨i, k', y', r, h2, h3, h4, h5⟩
  · rintro (h | ⟨i, k', y', r, h2, h3, h4, h5⟩)
    · exact Or.inl h
    · exact Or.inr ⟨i, k', y', r, hs i (List.getElem?_eq_some_iff.1 h3).1, h2, h3, h4, h5⟩
/-- the leaves of an entry that has not been seen lie apart from all others -/
theorem Es.apart {E0 : Pth → J → Prop} {ks : List ByteArray} {l : List J} {seen : Array Nat} {j : Nat} {k : ByteArray} {y : J} (hg : GoodF (.obj ks l)) (h0 : ∀ q x, LV (.obj ks l) q x → ∀ q' x', E0 q' x' → Apart q q') (hk : ks[j]? = some k) (hy : l[j]? = some y) (hn : seen.contains j = false) {r : Pth} {x : J} (hr : LV y r x) : ∀ q' x', Es E0 ks l seen q' x' → Apart (kcut k ++ r) q' := by
  intro q' x' h
  rcases h with h | ⟨i, k', y', r', h1, h2, h3, rfl, h5⟩
  · exact h0 _ _ (LV.obj ks l j k y r x hk hy hr) q' x' h
  · obtain ⟨_, _, _, _, g5⟩ := hg.obj_inv
    exact g5 j i k k' y y' (fun e => by subst e; rw [h1] at hn; cases hn) hk h2 hy h3 r x r' x' hr h5

/-- what stands between the rounds -/
def AInv (B : Nat) (p : Pth) (m : Nat) (E : Pth → J → Prop) (w : World) (A : Lbl) (wr : World) : Prop :=
  ∃ (A' : Lbl) (T : J), FrP (Out A p) w wr ∧ LG w A A' ∧ LB B wr A' ∧ A' w.heap.size = none ∧ w.heap.size < wr.heap.size ∧ RL wr A' p T (.iface 79 (.map (some m))) ∧ TreeOf E T
theorem AInv.start {B : Nat} {p : Pth} {m : Nat} {E : Pth → J → Prop} {w : World} {A : Lbl} {T : J} (o : Obj) (hB : LB B w A) (hr : RL w A p T (.iface 79 (.map (some m)))) (ht : TreeOf E T) : AInv B p m E w A (w.alloc o) := by
  have hx : Ext w (w.alloc o) := (Ext.refl w).alloc o
  refine ⟨A, T, FrP.of_ext hx, LG.refl _ _, hB.ext hx.size, ?_, by rw [World.size_alloc]; omega, RL.keep _ (LKeep.ext hB hx) hr, ht⟩
  cases e : A w.heap.size with
  | none => rfl
  | some q => have := (hB _ _ e).2; omega
theorem AInv.congr {B : Nat} {p : Pth} {m : Nat} {E E' : Pth → J → Prop} {w : World} {A : Lbl} {wr : World} (h : AInv B p m E w A wr) (he : ∀ q x, E q x ↔ E' q x) : AInv B p m E' w A wr := by
  obtain ⟨A', T, h1, h2, h3, h4, h5, h6, h7⟩ := h
  exact ⟨A', T, h1, h2, h3, h4, h5, h6, h7.congr he⟩
theorem AInv.done {B : Nat} {p : Pth} {m : Nat} {E : Pth → J → Prop} {w : World} {A : Lbl} {wr : World} (h : AInv B p m E w A wr) : Grew B p m E w A wr := by
  obtain ⟨A', T, h1, h2, h3, h4, h5, h6, h7⟩ := h
  exact ⟨A', T, h1, h2, h3, h6, h7⟩
theorem LB.grown {B : Nat} {w w' : World} {A : Lbl} {g : Nat} (h : LB B w A) (k : w.grownBy w' (some g)) : LB B w' A := h.ext k.size
/-- a round: the iterator moves on, the key is cut; and what the round must leave -/
theorem AInv.round {B : Nat} {p : Pth} {m : Nat} {E : Pth → J → Prop} {w : World} {A : Lbl} {wr w2 w3 : World} (h : AInv B p m E w A wr) (hg : wr.grownBy w2 (some w.heap.size)) (hx : Ext w2 w3) :
    ∃ A', LB B w3 A' ∧ LB B w2 A' ∧ A' w.heap.size = none ∧ w.heap.size < w2.heap.size ∧ FrP (Out A p) w w3 ∧ LG w A A' ∧ St B p m E w3 A' w3 A' [] m E ∧
      ∀ w4 E', Grew B p m E' w3 A' w4 → AInv B p m E' w A w4 ∧ w4.heap[w.heap.size]? = w3.heap[w.heap.size]? := by
  obtain ⟨A', T, h1, h2, h3, h4, h5, h6, h7⟩ := h
  have b2 := h3.grown hg
  have b3 := b2.ext hx.size
  have f2 : FrP (Out A p) w w2 := h1.grown hg fun hlt => by omega
  have f3 := f2.ext hx
  have k2 : LKeep wr w2 A' A' p := ⟨fun _ _ h => h, fun k r e => hg.block k (h3 k _ e).2 fun e' => by cases e'; rw [h4] at e; cases e⟩
  have r3 : RL w3 A' p T (.iface 79 (.map (some m))) := RL.keep _ (LKeep.ext b2 hx) (RL.keep _ k2 h6)
  have hs2 := hg.size
  refine ⟨A', b3, b2, h4, by omega, f3, h2, St.start b3 r3 h7, fun w4 E' hgr => ?_⟩
  obtain ⟨A4, T4, g1, g2, g3, g4, g5⟩ := hgr
  have hs3 := hx.size
  have hs4 := g1.size
  have hout : Out A' p w.heap.size := fun q e => by rw [h4] at e; cases e
  refine ⟨⟨A4, T4, f3.trans g1 fun b hb hP q e => ?_, h2.trans (by omega) g2, g3, ?_, by omega, g4, g5⟩, g1.block _ (by omega) hout⟩
  · rcases h2.new b q e with e' | e'
    · exact hP q e'
    · omega
  · cases e : A4 w.heap.size with
    | none => rfl
    | some q =>
      rcases g2.new _ q e with e' | e'
      · rw [h4] at e'; cases e'
      · omega
theorem Grew.congr {B : Nat} {p : Pth} {m : Nat} {E E' : Pth → J → Prop} {w : World} {A : Lbl} {wr : World} (h : Grew B p m E w A wr) (he : ∀ q x, E q x ↔ E' q x) : Grew B p m E' w A wr := by
  obtain ⟨A', T, h1, h2, h3, h4, h5⟩ := h
  exact ⟨A', T, h1, h2, h3, h4, h5.congr he⟩
theorem grown_setBlock {w w1 : World} {g : Nat} (h : w1 = w ∨ w1 = w.drew) (o : Obj) : w.grownBy (setBlock w1 g o) (some g) := by
  rcases h with rfl | rfl
  · exact ⟨rfl, rfl, rfl, by simp [setBlock], fun k hk hne => by
      have : g ≠ k := fun e => hne (by rw [e])
      simp [setBlock, this]⟩
  · exact ⟨rfl, rfl, rfl, by simp [setBlock], fun k hk hne => by
      have : g ≠ k := fun e => hne (by rw [e])
      simp [setBlock, this]
      rfl⟩
/-- blocks below B stand -/
theorem FrP.low {p : Pth} {wB w w' : World} {A : Lbl} (h : FrP (Out A p) w w') (hB : LB wB.heap.size w A) (k : KeepB wB w) (hs : wB.heap.size ≤ w.heap.size) : KeepB wB w' := fun b hb => (h.block b (by omega) (Out.low hB hb)).trans (k b hb)
end Go.Proofs.Ytikpedfggbibpaa
