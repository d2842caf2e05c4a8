/- Walks of FnDiscoverNone: the law. -/
import Derived.Test.YtbobcppdhcgghaaD
namespace Go.Proofs.Ytbobcppdhcgghaa
open Go.RowKit

def five : ByteArray := ⟨#[120, 91, 55, 93, 121]⟩

set_option maxHeartbeats 400000 in
theorem disc_five (w : World) :
    Calls Try.prog 5 #[.string ⟨#[120, 91, 55, 93, 121]⟩, .bool false] w fun e w' => (∃ h d, e = .returned (.slice (some ⟨h, 0, none⟩) 1 d) ∧ w'.cell? ⟨h, 0, none⟩ = some (.string ⟨#[91, 55, 93]⟩)) ∧ Below w.heap.size w w' := by
  obtain ⟨cap, w1, hrun, hb1, hz1, hcap, hc1⟩ := conv_bytes ((w.alloc (.cells #[.bool false] 4)).alloc (.cells #[.slice none 0 0] 23)) five
  simp only [World.size_alloc] at hb1 hz1 hc1
  have e5 : five.data.toList.length = 5 := rfl
  rw [e5] at hcap
  have cl : w1.cell? ⟨w.heap.size + 1, 0, none⟩ = some (.slice none 0 0) := by rw [hb1.cell (by simp)]; go_simp
  have fl : w1.frozen? ⟨w.heap.size + 1, 0, none⟩ = false := by rw [hb1.frozen (by simp)]; go_simp
  have ck : w1.cell? ⟨w.heap.size, 0, none⟩ = some (.bool false) := by rw [hb1.cell (by simp; omega)]; go_simp
  have H := find_five (w.heap.size) (w.heap.size + 1) w.heap.size (w.heap.size + 1 + 1) cap w1 hcap (by omega) (by omega) (by omega) (by omega) (by omega) (by omega) cl fl ck
    (hc1 0 (by decide)) (hc1 1 (by decide)) (hc1 2 (by decide)) (hc1 3 (by decide)) (hc1 4 (by decide))
  have HH := Lib.hid H
  have HB : Below w.heap.size w w1 := (((Below.refl _ _).alloc (Nat.le_refl _) _).alloc (by simp) _).trans (hb1.mono (by omega))
  rw [e5] at hrun
  simp only [five] at hrun
  clear H hc1 hcap e5 fl ck cl hb1
  have F : ∀ cb : Value, cb = .func (.func 8) #[] #[.pointer (some ⟨w.heap.size + 1, 0, none⟩), .pointer (some ⟨w.heap.size, 0, none⟩)] →
      Calls Try.prog 7 #[.slice (some ⟨w.heap.size + 1 + 1, 0, none⟩) 5 cap, cb] w1 fun e w' => e = .returned (.tuple #[]) ∧ Sk w.heap.size (w.heap.size + 1) w.heap.size (w.heap.size + 1 + 1) w1.heap.size w1 w' 5 := by
    rintro cb rfl
    go_enter Try.func7, Try.ntmps7
    go_wp2_with fail
    refine (HH.out).mono ?_
    rintro e w' ⟨rfl, hS⟩
    have hS' := Lib.hid hS
    clear hS
    go_wp2
    go_end0
    exact ⟨rfl, hS'.out⟩
  have F' := Lib.hid (F _ rfl)
  clear F
  go_enter Try.func5, Try.ntmps5
  go_wp2_with fail
  refine (F'.out).mono ?_
  rintro e w2 ⟨rfl, hS⟩
  cases hS with
  | s5 g c h d hh hhB S =>
    have H := Lib.hid S
    have cl := S.cl
    have fl := S.fl
    have hne : h ≠ w.heap.size + 1 := by omega
    clear S
    go_wp2
    refine bodyPost_ret (v := .slice (some ⟨h, 0, none⟩) 1 d) (by simp [results, Try.results5, go_sem, cl]) rfl ⟨⟨h, d, rfl, ?_⟩, ?_⟩
    · exact Eq.trans (World.cell?_setCell_other _ _ _ _ (by intro e; injection e; omega)) hh
    · exact (HB.trans H.out.bel).setCell (by simp) _

set_option maxHeartbeats 400000 in
theorem finds_true (w : World) : Calls Try.prog 6 #[] w fun e w' => e = .returned (.bool true) ∧ Below w.heap.size w w' := by
  have H := Lib.hid (disc_five w)
  go_enter Try.func6, Try.ntmps6
  go_wp2_with fail
  refine (H.out).mono ?_
  rintro e w2 ⟨⟨h, d, rfl, hh⟩, hb⟩
  have HB := Lib.hid hb
  clear hb
  go_wp2
  go_ret
  exact ⟨rfl, HB.out⟩

theorem noneIn_not (s : ByteArray) (h : noneInB s = true) : ∀ c ∈ s.data.toList, c ≠ 91 ∧ c ≠ 123 := by
  intro c hc
  have := List.all_eq_true.1 h c hc
  constructor <;> (rintro rfl; revert this; decide)

set_option maxHeartbeats 400000 in
theorem law_true (s : ByteArray) (back : Bool) (w : World) (hs : s.size ≤ maxLen) :
    Calls Try.prog 3 #[.string s, .bool back] w fun e w' => e = .returned (.bool true) ∧ Below w.heap.size w w' := by
  by_cases h1 : (1000 : Int) < (s.size : Int)
  · go_enter Try.func3, Try.ntmps3
    go_wp2
    all_goals (go_ret; exact ⟨rfl, Below.refl _ _⟩)
  · have N := Lib.hid (noneIn_any s w hs)
    cases hn : noneInB s with
    | false =>
      rw [hn] at N
      go_enter Try.func3, Try.ntmps3
      go_wp2_with (go_at_call 4; refine (N.out).mono ?_; rintro e w' ⟨rfl, rfl⟩)
      go_ret
      exact ⟨rfl, Below.refl _ _⟩
    | true =>
      rw [hn] at N
      have hlen : s.data.toList.length = s.size := rfl
      have D := Lib.hid (disc_none s back w (by omega) (noneIn_not s hn))
      have F := fun w => Lib.hid (finds_true w)
      clear hn hlen
      go_enter Try.func3, Try.ntmps3
      go_wp2_with (first | (go_at_call 4; refine (N.out).mono ?_; rintro e w' ⟨rfl, rfl⟩) | (go_at_call 5; refine (D.out).mono ?_; rintro e w2 ⟨rfl, hb2⟩; have HB := Lib.hid hb2; clear hb2) | (go_at_call 6; refine ((F _).out).mono ?_; rintro e w3 ⟨rfl, hb3⟩; have HB3 := Lib.hid hb3; clear hb3))
      go_ret
      exact ⟨rfl, HB.out.trans (HB3.out.mono HB.out.size)⟩
end Go.Proofs.Ytbobcppdhcgghaa
