/- Maps with text keys: what a store of a new key, and a look-up, do. -/
import Derived.Test.YtedhdkadpibaeaaGreatDoorH
import Derived.Carry
namespace Go.Proofs.YtedhdkadpibaeaaGreatDoor
open Go.RowKit
set_option linter.unusedVariables false
set_option linter.unusedSimpArgs false

section
variable {P : Program}
theorem findNow_none (k : ByteArray) : ∀ (l : List MapEntry) (i : Nat), (∀ e ∈ l, ∃ s, e.key = .string s ∧ s ≠ k) → Instr.findNow .string (.string k) l i = some none
  | [], _, _ => rfl
  | e :: es, i, h => by
    obtain ⟨s, hs, hne⟩ := h e (by simp)
    have hb : (k == s) = false := by
      rw [Bool.eq_false_iff]
      exact fun hh => hne ((MapKept.bytes_beq k s).1 hh).symm
    rw [Instr.findNow, hs]
    simp only [Instr.sameNow, hb]
    exact findNow_none k es (i + 1) fun e' he' => h e' (by simp [he'])

theorem findNow_some (k : ByteArray) : ∀ (l : List MapEntry) (i q : Nat) (e : MapEntry), l[q]? = some e → e.key = .string k → (∀ j e', j < q → l[j]? = some e' → ∃ s, e'.key = .string s ∧ s ≠ k) →
    Instr.findNow .string (.string k) l i = some (some (i + q, e.val))
  | e0 :: es, i, 0, e, h, hk, _ => by
    simp at h
    subst h
    have hb : (k == k) = true := (MapKept.bytes_beq k k).2 rfl
    rw [Instr.findNow, hk]
    simp [Instr.sameNow, hb]
  | e0 :: es, i, q + 1, e, h, hk, hlt => by
    obtain ⟨s, hs, hne⟩ := hlt 0 e0 (by omega) (by simp)
    have hb : (k == s) = false := by
      rw [Bool.eq_false_iff]
      exact fun hh => hne ((MapKept.bytes_beq k s).1 hh).symm
    rw [Instr.findNow, hs]
    simp only [Instr.sameNow, hb]
    rw [findNow_some k es (i + 1) q e (by simpa using h) hk (fun j e' hj he' => hlt (j + 1) e' (by omega) (by simpa using he'))]
    congr 3
    omega

def setMap (w : World) (m : Nat) (es : Array MapEntry) (c : Nat) : World := { w with heap := w.heap.setIfInBounds m (.map es c) }

theorem setMap_same {w : World} {m : Nat} {es : Array MapEntry} {c : Nat} (h : m < w.heap.size) : (setMap w m es c).heap[m]? = some (.map es c) := by simp [setMap, h]
theorem setMap_grown (w : World) (m : Nat) (es : Array MapEntry) (c : Nat) : w.grownBy (setMap w m es c) (some m) :=
  ⟨rfl, rfl, rfl, by simp [setMap], fun k hk hne => by
    have : m ≠ k := fun e => hne (by rw [e])
    simp [setMap, this]⟩
theorem setMap_size (w : World) (m : Nat) (es : Array MapEntry) (c : Nat) : (setMap w m es c).heap.size = w.heap.size := by simp [setMap]

theorem setMap_keep {w : World} {m : Nat} {es0 : Array MapEntry} {c0 : Nat} (h : w.heap[m]? = some (.map es0 c0)) (es : Array MapEntry) (c : Nat) : Keep w (setMap w m es c) := fun a v e => by
  have hne : a.block ≠ m := by
    intro hh
    unfold World.cell? at e
    rw [hh, h] at e
    cases e
  rw [World.cell?_of_block ((setMap_grown w m es c).block a.block (lt_of_cell e) (by simpa using hne))]
  exact e

theorem run_mapUpdate_new (w : World) (t kt et : TypeId) (ht : P.underlying t = some (.map kt et)) (hk : P.underlying kt = some .string) (m : Nat) (es : Array MapEntry) (c : Nat) (hm : w.heap[m]? = some (.map es c)) (k : ByteArray) (v : Value)
    (h : ∀ e ∈ es.toList, ∃ s, e.key = .string s ∧ s ≠ k) :
    (Instr.mapUpdate t (.map (some m)) (.string k) v).run P w = .ok () (setMap w m (es.push { key := .string k, val := v, born := c }) (c + 1)) := by
  have hf := findNow_none k es.toList 0 h
  have hc := fun e n => MapKept.run_checkKey (P := P) (w := w) (k := .string k) hk (by simp [MapKept.IsKey]) e n
  simp [Instr.mapUpdate, run_underlying ht, MapKept.run_getObj_map hm, hc, MapKept.run_findKey hk hf, MapKept.run_setObj_map _ hm, setMap, Result.andThen]

theorem run_lookup_miss (w : World) (t kt et : TypeId) (ht : P.underlying t = some (.map kt et)) (hk : P.underlying kt = some .string) (m : Nat) (es : Array MapEntry) (c : Nat) (hm : w.heap[m]? = some (.map es c)) (k : ByteArray) (z : Value)
    (hz : (zeroValue et).run P w = .ok z w) (h : ∀ e ∈ es.toList, ∃ s, e.key = .string s ∧ s ≠ k) :
    (Instr.lookup t (.map (some m)) (.string k) false).run P w = .ok z w := by
  have hf := findNow_none k es.toList 0 h
  have hc := fun e n => MapKept.run_checkKey (P := P) (w := w) (k := .string k) hk (by simp [MapKept.IsKey]) e n
  simp [Instr.lookup, run_underlying ht, MapKept.run_getObj_map hm, hc, MapKept.run_findKey hk hf, hz, Result.andThen]

theorem run_lookup_hit (w : World) (t kt et : TypeId) (ht : P.underlying t = some (.map kt et)) (hk : P.underlying kt = some .string) (m : Nat) (es : Array MapEntry) (c : Nat) (hm : w.heap[m]? = some (.map es c)) (k : ByteArray) (q : Nat) (e : MapEntry)
    (he : es.toList[q]? = some e) (hek : e.key = .string k) (h : ∀ j e', j < q → es.toList[j]? = some e' → ∃ s, e'.key = .string s ∧ s ≠ k) :
    (Instr.lookup t (.map (some m)) (.string k) false).run P w = .ok e.val w := by
  have hf := findNow_some k es.toList 0 q e he hek h
  have hc := fun e n => MapKept.run_checkKey (P := P) (w := w) (k := .string k) hk (by simp [MapKept.IsKey]) e n
  simp [Instr.lookup, run_underlying ht, MapKept.run_getObj_map hm, hc, MapKept.run_findKey hk hf, Result.andThen]
end
end Go.Proofs.YtedhdkadpibaeaaGreatDoor
