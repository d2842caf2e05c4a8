/- Walks of FnDiscoverNone: Discover on a text without brackets. -/
import Derived.Test.YtbobcppdhcgghaaB
namespace Go.Proofs.Ytbobcppdhcgghaa
open Go.RowKit

theorem conv_bytes (w : World) (s : ByteArray) : ∃ cap w', (convert 9 28 (.string s)).run Try.prog w = .ok (.slice (some ⟨w.heap.size, 0, none⟩) s.data.toList.length cap) w' ∧
    Below w.heap.size w w' ∧ w'.heap.size = w.heap.size + 1 ∧ s.data.toList.length ≤ cap ∧ ∀ j, (hj : j < s.data.toList.length) → w'.cell? ⟨w.heap.size, j, none⟩ = some (.int .u8 (s.data.toList[j].toNat)) := by
  refine ⟨_, _, run_bytes_of_string w 9 28 5 s Try.underlying9 Try.underlying28 Try.underlying5, ?_, ?_, ?_, ?_⟩
  · exact ((Below.refl _ _).drew).alloc (Nat.le_refl _) _
  · simp
  · exact Nat.le_add_right s.size _
  · intro j hj
    refine (World.cell?_alloc_mark w.drew _ _ _ j).trans ?_
    exact bytesRow_at s _ j (by simpa using hj)

theorem Find_none (b : Nat) (l : List UInt8) (cap : Nat) (cb : Value) (w : World) (hs : l.length ≤ 1000)
    (hc : ∀ j, (hj : j < l.length) → w.cell? ⟨b, j, none⟩ = some (.int .u8 (l[j].toNat))) (hl : ∀ c ∈ l, c ≠ 91 ∧ c ≠ 123) :
    Calls Try.prog 7 #[.slice (some ⟨b, 0, none⟩) l.length cap, cb] w fun e w' => e = .returned (.tuple #[]) ∧ Below w.heap.size w w' := by
  have H := find_none b l cap cb w hs hc hl
  have HH := Lib.hid H
  clear H hc hl
  go_enter Try.func7, Try.ntmps7
  go_wp2_with (go_at_call 9; refine (HH.out).mono ?_; rintro e w' ⟨rfl, hb⟩)
  go_end0
  exact ⟨rfl, hb⟩

theorem disc_none (s : ByteArray) (back : Bool) (w : World) (hs : s.data.toList.length ≤ 1000) (hl : ∀ c ∈ s.data.toList, c ≠ 91 ∧ c ≠ 123) :
    Calls Try.prog 5 #[.string s, .bool back] w fun e w' => e = .returned (.slice none 0 0) ∧ Below w.heap.size w w' := by
  obtain ⟨cap, w1, hrun, hb1, hz1, _, hc1⟩ := conv_bytes ((w.alloc (.cells #[.bool back] 4)).alloc (.cells #[.slice none 0 0] 23)) s
  have H : ∀ cb, Calls Try.prog 7 #[.slice (some ⟨w.heap.size + 1 + 1, 0, none⟩) s.size cap, cb] w1 fun e w' => e = .returned (.tuple #[]) ∧ Below w1.heap.size w1 w' :=
    fun cb => Find_none (w.heap.size + 1 + 1) s.data.toList cap cb w1 hs (by simpa using hc1) hl
  have HH := Lib.hid H
  clear H hc1 hl
  go_enter Try.func5, Try.ntmps5
  go_wp2_with fail
  refine (HH.out _).mono ?_
  rintro e w2 ⟨rfl, hb2⟩
  have hB : Below (w.heap.size + 1 + 1) ((w.alloc (.cells #[.bool back] 4)).alloc (.cells #[.slice none 0 0] 23)) w2 := Below.trans (by simpa using hb1) (hb2.mono (by simp at hz1; omega))
  have h2 : w2.cell? ⟨w.heap.size + 1, 0, none⟩ = some (.slice none 0 0) := by rw [hB.cell (by simp)]; go_simp
  have f2 : w2.frozen? ⟨w.heap.size + 1, 0, none⟩ = false := by rw [hB.frozen (by simp)]; go_simp
  have hB' : Below w.heap.size w w2 := (((Below.refl _ _).alloc (Nat.le_refl _) _).alloc (by simp) _).trans (hB.mono (by omega))
  clear hb2 hB
  go_wp2
  refine bodyPost_ret (v := .slice none 0 0) (by simp [results, Try.results5, go_sem, h2]) rfl ⟨rfl, hB'.setCell (by simp) _⟩

theorem Try.info9 : (Try.prog.info? 9).map (fun i => (i.zero, i.size, i.bytes)) = some (some (.string ⟨#[]⟩), 1, 16) := by kernel_rfl

theorem conv_back (w : World) (b o cap : Nat) (l : List UInt8) (hc : ∀ j, (hj : j < l.length) → w.cell? ⟨b, o + j, none⟩ = some (.int .u8 (l[j].toNat))) :
    (convert 28 9 (.slice (some ⟨b, o, none⟩) l.length cap)).run Try.prog w = .ok (.string ⟨l.toArray⟩) w :=
  run_convert_bytes_back w 28 9 5 ⟨b, o, none⟩ cap l Try.underlying28 Try.underlying5 Try.underlying9 (fun j hj => by
    rw [← hc j hj]; unfold Addr.add; by_cases h : j = 0
    · subst h; simp
    · simp [h])

/-- what the closure leaves: the place of the list is written, all else that was there is as it was -/
def CbPost (l : List UInt8) (lb : Nat) (w w' : World) : Prop :=
  w.grownBy w' (some lb) ∧ ∃ c, w'.cell? ⟨lb, 0, none⟩ = some (.slice (some ⟨w.heap.size + 1, 0, none⟩) 1 c) ∧
        w'.cell? ⟨w.heap.size + 1, 0, none⟩ = some (.string ⟨l.toArray⟩) ∧ w'.frozen? ⟨lb, 0, none⟩ = false

theorem cbPost (l : List UInt8) (lb : Nat) (w : World) (h1 : w.cell? ⟨lb, 0, none⟩ = some (.slice none 0 0)) (f1 : w.frozen? ⟨lb, 0, none⟩ = false) (t : TypeId) (C : Array Value) (c : Nat)
    (o : Obj) (hC : C[0]? = some (.string ⟨l.toArray⟩)) : CbPost l lb w ((((w.setCell ⟨lb, 0, none⟩ (.slice (some ⟨w.heap.size + 1, 0, none⟩) 1 c)).alloc o).alloc (.cells C t)).drew) := by
  have hlt : lb < w.heap.size := lt_of_cell h1
  refine ⟨⟨rfl, rfl, rfl, by simp; omega, fun k hk hne => ?_⟩, c, ?_, ?_, ?_⟩
  · refine Eq.trans (Below.heap_alloc _ _ _ (by simp; omega)) (Eq.trans (Below.heap_alloc _ _ _ (by simpa using hk)) ?_)
    exact Below.heap_setCell _ _ _ _ (by rintro rfl; exact hne rfl)
  · refine Eq.trans (World.cell?_alloc_past _ _ _ (by simp; omega)) (Eq.trans (World.cell?_alloc_past _ _ _ (by simpa using hlt)) ?_)
    exact World.cell?_setCell_same _ _ _ h1
  · exact Eq.trans (World.cell?_alloc_at _ _ _ _ (by simp)) hC
  · go_simp

set_option maxHeartbeats 400000 in
theorem cb_first (b o cap lb bk : Nat) (l : List UInt8) (back : Bool) (w : World)
    (hc : ∀ j, (hj : j < l.length) → w.cell? ⟨b, o + j, none⟩ = some (.int .u8 (l[j].toNat)))
    (h1 : w.cell? ⟨lb, 0, none⟩ = some (.slice none 0 0)) (f1 : w.frozen? ⟨lb, 0, none⟩ = false) (h2 : w.cell? ⟨bk, 0, none⟩ = some (.bool back)) (hne : lb ≠ bk) :
    Calls Try.prog 8 #[.slice (some ⟨b, o, none⟩) l.length cap, .pointer (some ⟨lb, 0, none⟩), .pointer (some ⟨bk, 0, none⟩)] w fun e w' =>
      e = .returned (.tuple #[.bool back, .bool false]) ∧ CbPost l lb w w' := by
  have hconv := conv_back w b o cap l hc
  have hlt := lt_of_cell h1
  have hkt := lt_of_cell h2
  go_enter Try.func8, Try.ntmps8
  go_wp2
  go_ret2
  exact ⟨rfl, cbPost l lb w h1 f1 _ _ _ _ (by simp only [List.getElem?_toArray, Array.getElem?_append]; rfl)⟩
end Go.Proofs.Ytbobcppdhcgghaa
