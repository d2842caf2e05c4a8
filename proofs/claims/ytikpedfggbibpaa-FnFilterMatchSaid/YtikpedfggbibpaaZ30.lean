/- A map of keys (map[string]bool), as Diff makes it. -/
import Derived.Test.YtikpedfggbibpaaZ28
namespace Go.Proofs.Ytikpedfggbibpaa
open Go.RowKit Go.Lib
open Go.ChangeMaps (setBlock)
set_option linter.unusedVariables false
set_option linter.unusedSimpArgs false

/-- the entries of a map of keys -/
def entsAt (n : Nat) : List ByteArray → List MapEntry
  | [] => []
  | k :: ks => { key := .string k, val := .bool true, born := n } :: entsAt (n + 1) ks
def ents (S : List ByteArray) : Array MapEntry := (entsAt 0 S).toArray
theorem entsAt_len : ∀ (S : List ByteArray) (n : Nat), (entsAt n S).length = S.length
  | [], _ => rfl
  | k :: ks, n => by simp [entsAt, entsAt_len ks (n + 1)]
theorem ents_size (S : List ByteArray) : (ents S).size = S.length := by simp [ents, entsAt_len]
theorem entsAt_get : ∀ (S : List ByteArray) (n j : Nat), (entsAt n S)[j]? = (S[j]?).map fun k => { key := .string k, val := .bool true, born := n + j }
  | [], _, _ => by simp [entsAt]
  | k :: ks, n, 0 => by simp [entsAt]
  | k :: ks, n, j + 1 => by
    simp only [entsAt, List.getElem?_cons_succ]
    rw [entsAt_get ks (n + 1) j]
    congr 1
    funext k
    rw [show n + 1 + j = n + (j + 1) from by omega]
theorem ents_get (S : List ByteArray) (j : Nat) : (ents S).toList[j]? = (S[j]?).map fun k => { key := .string k, val := .bool true, born := j } := by
  have := entsAt_get S 0 j
  simpa [ents] using this
theorem entsAt_snoc : ∀ (S : List ByteArray) (n : Nat) (k : ByteArray), entsAt n (S ++ [k]) = entsAt n S ++ [{ key := .string k, val := .bool true, born := n + S.length }]
  | [], n, k => by simp [entsAt]
  | x :: xs, n, k => by
    simp only [List.cons_append, entsAt, entsAt_snoc xs (n + 1) k, List.length_cons]
    rw [show n + 1 + xs.length = n + (xs.length + 1) from by omega]
theorem ents_snoc (S : List ByteArray) (k : ByteArray) : ents (S ++ [k]) = (ents S).push { key := .string k, val := .bool true, born := S.length } := by
  unfold ents
  rw [entsAt_snoc, Nat.zero_add]
  simp
theorem ents_mem {S : List ByteArray} {e : MapEntry} (h : e ∈ (ents S).toList) : ∃ j k, S[j]? = some k ∧ (ents S).toList[j]? = some e ∧ e.key = .string k ∧ e.val = .bool true ∧ e.born = j := by
  obtain ⟨j, hj⟩ := List.mem_iff_getElem?.1 h
  have h2 := ents_get S j
  rw [hj] at h2
  cases hk : S[j]? with
  | none => rw [hk] at h2; cases h2
  | some k =>
    rw [hk] at h2
    simp only [Option.map_some, Option.some.injEq] at h2
    exact ⟨j, k, hk, hj, by rw [h2], by rw [h2], by rw [h2]⟩
theorem ents_borns (S : List ByteArray) : ((ents S).toList.map (·.born)).Nodup := by
  have : ∀ (S : List ByteArray) (n : Nat), (entsAt n S).map (·.born) = List.range' n S.length := by
    intro S
    induction S with
    | nil => intro n; rfl
    | cons k ks ih => intro n; simp [entsAt, ih (n + 1), List.range'_succ]
  have h := this S 0
  simp only [ents]
  rw [h]
  exact List.nodup_range'

def addK (S : List ByteArray) (k : ByteArray) : List ByteArray := if hasK S k then S else S ++ [k]
theorem mem_addK {S : List ByteArray} {k x : ByteArray} : x ∈ addK S k ↔ x ∈ S ∨ x = k := by
  unfold addK
  cases h : hasK S k
  · simp
  · have := hasK_iff.1 h
    simp only [if_true]
    constructor
    · exact Or.inl
    · rintro (h | rfl)
      · exact h
      · exact this
theorem nodup_addK {S : List ByteArray} {k : ByteArray} (h : S.Nodup) : (addK S k).Nodup := by
  unfold addK
  cases hc : hasK S k
  · have : k ∉ S := fun hh => by rw [hasK_iff.2 hh] at hc; cases hc
    simp only [Bool.false_eq_true, if_false]
    rw [List.nodup_append]
    refine ⟨h, by simp, fun x hx y hy e => ?_⟩
    simp only [List.mem_singleton] at hy
    subst hy e
    exact this hx
  · simpa using h

section
variable {P : Program}
theorem modify_same (es : Array MapEntry) (i : Nat) (e : MapEntry) (f : MapEntry → MapEntry) (h : es[i]? = some e) (hf : f e = e) : es.modify i f = es := by
  apply Array.ext_getElem?
  intro j
  rw [Array.getElem?_modify]
  split
  · rename_i hij
    subst hij
    rw [h]
    simp [hf]
  · rfl

/-- a key is laid into a map of keys -/
theorem run_addK (w : World) (t kt et : TypeId) (ht : P.underlying t = some (.map kt et)) (hk : P.underlying kt = some .string) (m : Nat) (S : List ByteArray) (hm : w.heap[m]? = some (.map (ents S) S.length)) (hn : S.Nodup) (k : ByteArray) :
    (Instr.mapUpdate t (.map (some m)) (.string k) (.bool true)).run P w = .ok () (setMap w m (ents (addK S k)) (addK S k).length) := by
  unfold addK
  cases hc : hasK S k
  · have hkn : k ∉ S := fun hh => by rw [hasK_iff.2 hh] at hc; cases hc
    simp only [Bool.false_eq_true, if_false]
    rw [run_mapUpdate_new w t kt et ht hk m (ents S) S.length hm k (.bool true) (fun e he => by
      obtain ⟨j, k2, h1, _, h3, _⟩ := ents_mem he
      exact ⟨k2, h3, fun e => hkn (by subst e; exact List.mem_of_getElem? h1)⟩)]
    rw [ents_snoc, List.length_append]
    rfl
  · have hkm := hasK_iff.1 hc
    obtain ⟨q, hq, hqk⟩ := List.getElem_of_mem hkm
    have hq? : S[q]? = some k := by rw [List.getElem?_eq_getElem hq, hqk]
    have heq := ents_get S q
    rw [hq?] at heq
    simp only [Option.map_some] at heq
    have hf := findNow_some k (ents S).toList 0 q _ heq rfl (fun j e' hj he' => by
      have h2 := ents_get S j
      rw [he'] at h2
      cases hk2 : S[j]? with
      | none => rw [hk2] at h2; cases h2
      | some k2 =>
        rw [hk2] at h2
        simp only [Option.map_some, Option.some.injEq] at h2
        refine ⟨k2, by rw [h2], fun e => ?_⟩
        subst e
        have := (List.getElem?_inj (List.getElem?_eq_some_iff.1 hk2).1 hn).1 (hk2.trans hq?.symm)
        omega)
    have hcc := fun e n => MapKept.run_checkKey (P := P) (w := w) (k := .string k) hk (by simp [MapKept.IsKey]) e n
    have hst := MapKept.run_keyThatStays (P := P) (w := w) (d := .string) (k := .string k) (by simp [MapKept.IsKey])
    have heq2 : (ents S)[q]? = some { key := .string k, val := .bool true, born := q } := by rw [← Array.getElem?_toList]; exact heq
    have hmod := modify_same (ents S) q _ (fun e => { e with key := .string k, val := .bool true }) heq2 rfl
    simp only [if_true]
    simp [Instr.mapUpdate, run_underlying ht, MapKept.run_getObj_map hm, hcc, MapKept.run_findKey hk hf, heq2, hst, hmod, MapKept.run_setObj_map _ hm, setMap, Result.andThen]
end

/-- the map of keys in a block -/
def KM (w : World) (M : Nat) (S : List ByteArray) : Prop := w.heap[M]? = some (.map (ents S) S.length) ∧ S.Nodup
theorem KM.add {w : World} {M : Nat} {S : List ByteArray} (h : KM w M S) (k : ByteArray) : KM (setMap w M (ents (addK S k)) (addK S k).length) M (addK S k) :=
  ⟨setMap_same (Array.getElem?_eq_some_iff.1 h.1).1, nodup_addK h.2⟩
theorem setMap_other {w : World} {M : Nat} {es : Array MapEntry} {c : Nat} {k : Nat} (h : k ≠ M) : (setMap w M es c).heap[k]? = w.heap[k]? := by
  have : M ≠ k := fun e => h e.symm
  simp [setMap, this]
theorem ext_setMap {w wr : World} {M : Nat} (h : Ext w wr) (hr : w.heap.size ≤ M) (es : Array MapEntry) (c : Nat) : Ext w (setMap wr M es c) :=
  h.grown (setMap_grown wr M es c) h.size (fun k hk => by cases hk; exact hr)

/-- an iterator's step leaves what has been told as it was -/
theorem DP.iter {w : World} {B : Nat} {v : Value} {A : List DI} {r : Nat} {m : Option Nat} {s d : Nat} {seen : Array Nat} (h : DP w B v A [] [] none) (hr : w.heap[r]? = some (.mapIter m s seen d)) (o : Obj) : DP (setBlock w r o) B v A [] [] none := by
  have hg : w.grownBy (setBlock w r o) (some r) := ⟨rfl, rfl, rfl, by simp [setBlock], fun k hk hne => by
    have : r ≠ k := fun e => hne (by rw [e])
    simp [setBlock, this]⟩
  refine ⟨h.nd, fun x hx => ⟨(h.all x hx).1, (h.all x hx).2.kept hg (fun e => ?_)⟩, h.row.kept hg (Or.inr fun e => ?_), by simp⟩
  · obtain ⟨cur, hc⟩ := (h.all x hx).2.type
    have e' : x.1 = r := Option.some.inj e
    rw [e', hr] at hc
    cases hc
  · rcases h.row.2 with ⟨rfl, _⟩ | ⟨g, cap, cur, rfl, _, hh, _⟩
    · cases e
    · simp only [Value.ownBlock, Option.some.injEq] at e
      subst e
      rw [hr] at hh
      cases hh
end Go.Proofs.Ytikpedfggbibpaa
