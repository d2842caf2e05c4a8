/- Walks of FnDiscoverNone: find. -/
import Derived.Test.YtbobcppdhcgghaaA
namespace Go.Proofs.Ytbobcppdhcgghaa
open Go.RowKit

def scanS : ByteArray := ⟨#[46,46,46,46,46,46,46,46,46,46,46,46,46,46,46,46,46,46,46,46,46,46,46,46,46,46,46,46,46,46,46,46,46,46,46,46,46,46,46,46,46,46,46,46,46,46,46,46,46,46,46,46,46,46,46,46,46,46,46,46,46,46,46,46,46,46,46,46,46,46,46,46,46,46,46,46,46,46,46,46,46,46,46,46,46,46,46,46,46,46,46,91,46,46,46,46,46,46,46,46,46,46,46,46,46,46,46,46,46,46,46,46,46,46,46,46,46,46,46,46,46,46,46,123,46,46,46,46,46,46,46,46,46,46,46,46,46,46,46,46,46,46,46,46,46,46,46,46,46,46,46,46,46,46,46,46,46,46,46,46,46,46,46,46,46,46,46,46,46,46,46,46,46,46,46,46,46,46,46,46,46,46,46,46,46,46,46,46,46,46,46,46,46,46,46,46,46,46,46,46,46,46,46,46,46,46,46,46,46,46,46,46,46,46,46,46,46,46,46,46,46,46,46,46,46,46,46,46,46,46,46,46,46,46,46,46,46,46,46,46,46,46,46,46,46,46,46,46,46,46,46,46,46,46,46,46,83]⟩
theorem scan_size : scanS.size = 257 := by decide +kernel
theorem scan_all : ∀ n : Fin 256, n.val ≠ 91 → n.val ≠ 123 → scanS.data[n.val]? = some 46 := by decide +kernel
theorem scan_at (c : UInt8) (h1 : c ≠ 91) (h2 : c ≠ 123) : scanS.data[c.toNat]? = some 46 :=
  scan_all ⟨c.toNat, c.toNat_lt⟩ (fun h => h1 (UInt8.toNat_inj.1 h)) (fun h => h2 (UInt8.toNat_inj.1 h))
theorem scan_get (c : UInt8) (h : c.toNat < scanS.size) (h1 : c ≠ 91) (h2 : c ≠ 123) : scanS[c.toNat] = 46 := by
  have := scan_at c h1 h2
  rw [Array.getElem?_eq_getElem (by exact h)] at this
  exact Option.some.inj this
theorem c_lt (c : UInt8) : c.toNat < scanS.size := by rw [scan_size]; have := c.toNat_lt; omega

theorem lt_of_cell {w : World} {a : Addr} {v : Value} (h : w.cell? a = some v) : a.block < w.heap.size := by
  unfold World.cell? at h
  split at h
  · rename_i hh
    exact (Array.getElem?_eq_some_iff.1 hh).1
  · cases h

theorem neq_nilFunc (w : World) : (binOp BinOp.neq 31 .nilFunc .nilFunc).run Try.prog w = .ok (.bool false) w := by kernel_rfl

/-- the loop's relation: place i, the four cells -/
def Rel (B len : Nat) (w wr : World) (k : Nat) : Prop :=
  k ≤ len ∧ wr.cell? ⟨B + 1 + 1, 0, none⟩ = some (.int .i64 k) ∧ wr.frozen? ⟨B + 1 + 1, 0, none⟩ = false ∧
  wr.cell? ⟨B + 1, 0, none⟩ = some (.slice none 0 0) ∧ wr.cell? ⟨B + 1 + 1 + 1, 0, none⟩ = some (.string scanS) ∧ Below B w wr

theorem Rel.next {B len : Nat} {w wr : World} {k : Nat} (h : Rel B len w wr k) (hk : k < len) :
    Rel B len w (wr.setCell ⟨B + 1 + 1, 0, none⟩ (.int .i64 (k + 1))) (k + 1) := by
  obtain ⟨_, h1, h2, h3, h4, hb⟩ := h
  refine ⟨by omega, World.cell?_setCell_same _ _ _ h1, by rw [World.frozen?_setCell]; exact h2, ?_, ?_, hb.setCell (by simp; omega) _⟩
  · exact (World.cell?_setCell_other _ _ _ _ (by intro h; injection h; omega)).trans h3
  · exact (World.cell?_setCell_other _ _ _ _ (by intro h; injection h; omega)).trans h4

theorem Rel.lower {B len : Nat} {w wr : World} {k : Nat} (h : Rel B len w wr k) (hk : k < len) :
    len - (intOf (((wr.setCell ⟨B + 1 + 1, 0, none⟩ (.int .i64 (k + 1))).cell? ⟨B + 1 + 1, 0, none⟩).getD .nilFunc)).toNat < len - (intOf ((wr.cell? ⟨B + 1 + 1, 0, none⟩).getD .nilFunc)).toNat := by
  obtain ⟨_, h1, _⟩ := h
  rw [World.cell?_setCell_same _ _ _ h1, h1]
  simp [intOf]; omega

theorem Rel.zero (w : World) (len : Nat) : Rel w.heap.size len w ((((w.alloc (Obj.cells #[Value.int IntKind.i64 0] 3)).alloc (Obj.cells #[Value.slice none 0 0] 23)).alloc (Obj.cells #[Value.int IntKind.i64 0] 3)).alloc
      (Obj.cells #[Value.string scanS] 9)) 0 := by
  refine ⟨by omega, by go_simp, by go_simp, by go_simp, by go_simp, ?_⟩
  exact ((((Below.refl _ _).alloc (Nat.le_refl _) _).alloc (by simp) _).alloc (by simp; omega) _).alloc (by simp; omega) _

set_option maxHeartbeats 1000000 in
set_option maxRecDepth 100000 in
theorem find_none (b : Nat) (l : List UInt8) (cap : Nat) (cb : Value) (w : World) (hs : l.length ≤ 1000)
    (hc : ∀ j, (hj : j < l.length) → w.cell? ⟨b, j, none⟩ = some (.int .u8 (l[j].toNat))) (hl : ∀ c ∈ l, c ≠ 91 ∧ c ≠ 123) :
    Calls Try.prog 9 #[.slice (some ⟨b, 0, none⟩) l.length cap, cb, .nilFunc] w fun e w' => e = .returned (.tuple #[]) ∧ Below w.heap.size w w' := by
  have hn := neq_nilFunc
  go_enter Try.func9, Try.ntmps9
  go_wp2
  go_step3
  go_wp2
  go_step3
  go_wp2
  go_loopw [6] (fun _ wr => ∃ k : Nat, Rel w.heap.size l.length w wr k) (fun _ wr => l.length - (intOf ((wr.cell? ⟨w.heap.size + 1 + 1, 0, none⟩).getD .nilFunc)).toNat)
  case atStart =>
    exact ⟨0, Rel.zero w _⟩
  case round =>
    obtain ⟨k, hk, h1, h2, h3, h4, hb⟩ := hrel
    by_cases hlt : k < l.length
    · have hcell := hc k hlt
      have hbw : b < w.heap.size := lt_of_cell hcell
      have hcell' : wr.cell? ⟨b, k, none⟩ = some (.int .u8 (l[k].toNat)) := by rw [hb.cell (by exact hbw)]; exact hcell
      have hne := hl l[k] (List.getElem_mem _)
      have hclt := c_lt l[k]
      have HR : Hid (Rel w.heap.size l.length w wr k) := ⟨hk, h1, h2, h3, h4, hb⟩
      clear hcell hc hl
      have hv := scan_get l[k] hclt hne.1 hne.2
      go_wp2
      go_round
      case rel => exact ⟨k + 1, HR.out.next hlt⟩
      case measure => exact HR.out.lower hlt
    · go_wp2
      rw [Exit.noGoto_normal]
      go_end0
      exact ⟨rfl, hb⟩
end Go.Proofs.Ytbobcppdhcgghaa
