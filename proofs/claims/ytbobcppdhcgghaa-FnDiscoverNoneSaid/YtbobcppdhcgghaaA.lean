/- Walks of FnDiscoverNone: noneIn. -/
import Derived.Test.YtbobcppdhcgghaaRows
import Derived.WalkKit
import Derived.WalkSpells
import Derived.WalkLawsBesides
import Derived.Lib.Hide
namespace Go.Proofs.Ytbobcppdhcgghaa
open Go.RowKit

def badB (c : UInt8) : Bool := c == 91 || c == 93 || c == 123 || c == 125 || c == 34 || c == 39 || c == 92 || c == 47 || c == 96
def noneInB (s : ByteArray) : Bool := s.data.toList.all (fun c => !badB c)

theorem beq_int (c d : UInt8) : (c == d) = ((c.toNat : Int) == (d.toNat : Int)) := by
  rw [Bool.eq_iff_iff]; simp only [beq_iff_eq, Int.natCast_inj]; exact (UInt8.toNat_inj).symm

theorem badB_int (c : UInt8) : badB c = ((c.toNat : Int) == 91 || (c.toNat : Int) == 93 || (c.toNat : Int) == 123 || (c.toNat : Int) == 125 || (c.toNat : Int) == 34 || (c.toNat : Int) == 39 || (c.toNat : Int) == 92 || (c.toNat : Int) == 47 || (c.toNat : Int) == 96) := by
  simp only [badB, beq_int]; rfl

theorem ret_bool {a b : Bool} (h : a = b) : Ending.returned (.bool a) = .returned (.bool b) := by rw [h]

theorem noneIn_hit (s : ByteArray) (k : Nat) (h : k < s.size) (hb : badB s[k] = true) : noneInB s = false := by
  rw [noneInB, List.all_eq_false]
  exact ⟨s[k], by simp [ByteArray.getElem_eq_getElem_data], by simp [hb]⟩

theorem all_snoc (s : ByteArray) (k : Nat) (h : k < s.size) (ha : (s.data.toList.take k).all (fun c => !badB c) = true) (hb : badB s[k] = false) : (s.data.toList.take (k + 1)).all (fun c => !badB c) = true := by
  rw [List.take_succ_eq_append_getElem (by simpa using h), List.all_append, ha]
  simp only [Bool.true_and, List.all_cons, List.all_nil, Bool.and_true]
  have : s.data.toList[k]'(by simpa using h) = s[k] := rfl
  rw [this, hb]; rfl

set_option maxHeartbeats 1000000 in
theorem noneIn_any (s : ByteArray) (w : World) (hs : s.size ≤ maxLen) :
    Calls Try.prog 4 #[.string s] w fun e w' => e = .returned (.bool (noneInB s)) ∧ w' = w := by
  unfold maxLen at hs
  go_enter Try.func4, Try.ntmps4
  go_wp2
  go_loop [3] (fun i => ∃ k : Nat, k ≤ s.size ∧ i = .int .i64 k ∧ (s.data.toList.take k).all (fun c => !badB c) = true) (fun i => s.size - (intOf i).toNat)
  case atStart => exact ⟨0, Nat.zero_le _, rfl, rfl⟩
  case round =>
    obtain ⟨k, hk, rfl, hall⟩ := hrel
    have HA : Hid ((s.data.toList.take k).all (fun c => !badB c) = true) := hall
    clear hall
    by_cases hlt : k < s.size
    · go_wp2
      all_goals first
        | (go_ret; exact ⟨ret_bool (noneIn_hit s k hlt (by rw [badB_int]; simp [*])).symm, rfl⟩)
        | (go_round
           case rel => exact ⟨k + 1, by omega, by go_num, all_snoc s k hlt HA.out (by rw [badB_int]; simp [*])⟩
           case measure => simp [intOf]; omega)
    · go_wp2
      go_ret
      have e : k = s.size := by omega
      have h := HA.out
      rw [List.take_of_length_le (by simp; omega)] at h
      exact ⟨ret_bool h.symm, rfl⟩

end Go.Proofs.Ytbobcppdhcgghaa
