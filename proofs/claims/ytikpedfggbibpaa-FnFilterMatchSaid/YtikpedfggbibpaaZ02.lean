/- Walks: zzFits2, zzFits1, weight. Walks: floats: noFloat, IsNaN, IsInf. -/
import Derived.Test.YtikpedfggbibpaaZ01
import Derived.Test.YtikpedfggbibpaaRows
namespace Go.Proofs.Ytikpedfggbibpaa
open Go.RowKit
set_option linter.unusedVariables false

set_option maxHeartbeats 400000 in
theorem zzFits2_any (a : Option Addr) (c : Nat) (ks : List ByteArray) (w : World) (hk : KS w a ks) (hn : ks.length ≤ reachN) :
    Calls Try.prog 32 #[.slice a ks.length c] w (SomeBool w) := by
  unfold reachN at hn
  by_cases hbig : (2147483647 : Int) < (ks.length : Int)
  · go_enter Try.func32, Try.ntmps32
    go_wp2
    go_ret
    exact .mk _ (Ext.refl _)
  · go_enter Try.func32, Try.ntmps32
    go_wp2
    go_loop [4, 10] (fun _ i => ∃ k : Nat, k ≤ ks.length ∧ i = .int .i64 k) (fun _ i => ks.length - (intOf i).toNat)
    case atStart => exact ⟨0, Nat.zero_le _, rfl⟩
    case round =>
      obtain ⟨k, hk', rfl⟩ := hrel
      by_cases hlt : k < ks.length
      · obtain ⟨b, o, rfl, hc⟩ := hk (by intro h; subst h; simp at hlt)
        have hcell := hc k hlt
        clear hc
        go_wp2
        · go_ret
          exact .mk _ (Ext.refl _)
        · go_round
          case rel => exact ⟨k + 1, by omega, by go_num⟩
          case measure => simp [intOf]; omega
      · go_wp2
        go_ret
        exact .mk _ (Ext.refl _)

set_option maxHeartbeats 400000 in
theorem zzFits1_any (x : V) (v : Value) (w : World) (h : RV w x v) :
    Calls Try.prog 7 #[v] w (SomeBool w) := by
  obtain ⟨k, n, f, s, l, ks⟩ := x
  unfold RV at h
  obtain ⟨al, lc, ak, kc, rfl, z, hl, hk⟩ := h
  have hks : ks.length ≤ reachN := by have := z.hkl; have := z.hkc; omega
  have hll : l.length ≤ reachN := by have := z.hll; have := z.hlc; omega
  have hss := z.hs
  have H := fun o => Lib.hid (zzFits2_any ak kc ks _ (hk.keep (Keep.alloc w o)) hks)
  unfold reachN at hll hss
  clear hl hk z hks
  go_enter Try.func7, Try.ntmps7
  go_wp2_with (go_at_call 32; refine ((H _).out).mono ?_; rintro e w' ⟨⟨b, rfl⟩, hb⟩)
  all_goals go_ret
  all_goals first | exact .mk _ ((Ext.refl w).alloc _) | exact .mk _ (((Ext.refl w).alloc _).trans (by assumption))

/-- what weight leaves -/
def WtPost (x : V) (left : Int) (w : World) (e : Ending) (w' : World) : Prop :=
  ∃ r : Int, e = .returned (.int .i64 r) ∧ -1125899906842624 ≤ r ∧ r ≤ left ∧ (0 ≤ r → r = left - x.wt) ∧ Ext w w'

set_option maxHeartbeats 1000000 in
theorem weight_any (N : Nat) : ∀ (x : V), x.nodes ≤ N → ∀ (v : Value) (w : World) (left : Int), RV w x v → 0 ≤ left → left ≤ 1000 →
    Calls Try.prog 74 #[v, .int .i64 left] w (WtPost x left w) := by
  induction N with
  | zero => intro x hx; cases x; simp [V.nodes] at hx
  | succ N ih =>
  intro x hN v w left h hl0 hl1
  obtain ⟨k, n, f, s, l, ks⟩ := x
  unfold RV at h
  obtain ⟨al, lc, ak, kc, rfl, z, hl, hk⟩ := h
  have hks : ks.length ≤ reachN := by have := z.hkl; have := z.hkc; omega
  have hll : l.length ≤ reachN := by have := z.hll; have := z.hlc; omega
  have hss := z.hs
  have hsz : ∀ i (h : i < ks.length), ks[i].size ≤ reachN := fun i h => z.hks _ (List.getElem_mem h)
  unfold reachN at hll hss hks hsz
  have IH := Lib.hid ih
  have HL := Lib.hid hl
  have HK := Lib.hid hk
  have HN := Lib.hid hN
  clear hl hk z ih hN
  go_enter Try.func74, Try.ntmps74
  go_wp2
  go_loop [1, 5] (fun t i => ∃ j : Nat, ∃ L : Int, j ≤ ks.length ∧ i = .int .i64 j ∧ t = .int .i64 L ∧ -562949953421312 ≤ L ∧ L ≤ left ∧ (0 ≤ L → L = left - 1 - s.size - ks.length - ksum (ks.take j)))
    (fun _ i => ks.length - (intOf i).toNat)
  case atStart => exact ⟨0, _, Nat.zero_le _, rfl, rfl, by omega, by omega, fun _ => by simp [ksum]⟩
  case round =>
    obtain ⟨j, L, hj, rfl, rfl, hL1, hL2, hL3⟩ := hrel
    have H3 := Lib.hid hL3
    clear hL3
    by_cases hc : j < ks.length ∧ 0 ≤ L
    · obtain ⟨hlt, h0⟩ := hc
      obtain ⟨b, o, rfl, hcs⟩ := HK.out (by intro h; subst h; simp at hlt)
      have hcell := Keep.alloc w (Obj.cells #[Value.int IntKind.i64 k, Value.int IntKind.i64 n, Value.float FloatKind.f64 f, Value.string s, Value.slice al l.length lc, Value.slice (some ⟨b, o, none⟩) ks.length kc] 26) _ _ (hcs j hlt)
      have hz := hsz j hlt
      clear hcs
      go_wp2
      go_round
      case rel => exact ⟨j + 1, L - ks[j].size, by omega, by go_num, rfl, by omega, by omega, fun _ => by have := H3.out h0; rw [ksum_snoc ks j hlt]; omega⟩
      case measure => simp [intOf]; omega
    · have HX : Hid (0 ≤ L → L = left - 1 - s.size - ks.length - ksum ks) := fun h0 => by
        have := H3.out h0
        have e : j = ks.length := by omega
        rw [List.take_of_length_le (by omega)] at this
        exact this
      clear H3 HK hsz
      by_cases hlt : j < ks.length
      all_goals
        have hd : ¬ (j < ks.length ∧ 0 ≤ L) := hc
        clear hc
        go_wp2
        go_loopw [1, 6] (fun t i wr => ∃ m : Nat, ∃ M : Int, m ≤ l.length ∧ i = .int .i64 m ∧ t = .int .i64 M ∧ -1125899906842624 ≤ M ∧ M ≤ L ∧ (0 ≤ M → M = L - V.wtL (l.take m)) ∧
            Below (w.heap.size + 1) (w.alloc (Obj.cells #[Value.int IntKind.i64 k, Value.int IntKind.i64 n, Value.float FloatKind.f64 f, Value.string s, Value.slice al l.length lc, Value.slice ak ks.length kc] 26)) wr)
          (fun _ i _ => l.length - (intOf i).toNat)
        case atStart => exact ⟨0, L, Nat.zero_le _, rfl, rfl, by omega, by omega, fun _ => by simp [V.wtL], Below.refl _ _⟩
        case round =>
          obtain ⟨m, M, hm, rfl, rfl, hM1, hM2, hM3, hb⟩ := hrel
          obtain ⟨b0, b1, b2, b3, b4, b5⟩ := box_cells hb
          have H3 := Lib.hid hM3
          have HB := Lib.hid hb
          clear hM3 hb
          by_cases hcm : m < l.length ∧ 0 ≤ M
          · obtain ⟨hltm, h0m⟩ := hcm
            first
            | (exfalso; omega)
            | (obtain ⟨bb, oo, d0, d1, d2, d3, d4, d5, rfl, E⟩ := RV.elem (k := k) (n := n) (f := f) (s := s) (ks := ks) HL.out m hltm
               have KK : Keep w wr := (Keep.alloc w _).trans (Keep.of_below HB.out (by simp))
               have e0 := KK _ _ E.h0
               have e1 := KK _ _ E.h1
               have e2 := KK _ _ E.h2
               have e3 := KK _ _ E.h3
               have e4 := KK _ _ E.h4
               have e5 := KK _ _ E.h5
               have hch : l[m].nodes ≤ N := by
                 have := HN.out
                 have h2 := V.nodes_child (x := .mk k n f s l ks) hltm
                 simp only [V.l] at h2
                 omega
               have HC := Lib.hid (IH.out l[m] hch _ wr M (RV.keep KK _ E.rv) h0m (by omega))
               clear E KK hch
               go_wp2_with (go_at_call 74; refine (HC.out).mono ?_; rintro e w2 ⟨r, rfl, r1, r2, r3, hb2⟩; have R3 := Lib.hid r3; have HB2 := Lib.hid hb2; clear r3 hb2)
               go_roundw
               case rel => exact ⟨m + 1, r, by omega, by go_num, rfl, r1, by omega, fun h0 => by (have a1 := R3.out h0; have a2 := H3.out h0m; rw [V.wtL_snoc l m hltm]; omega), HB.out.trans (HB2.out.mono (by have := HB.out.size; simp at this; omega))⟩
               case measure => simp [intOf]; omega)
          · have hq : M < 0 ∨ m = l.length := by omega
            have HM : Hid (0 ≤ M → M = left - V.wt (.mk k n f s l ks)) := fun h0 => by
              have a1 := H3.out h0
              have a2 := HX.out (by omega)
              have e : m = l.length := by omega
              rw [List.take_of_length_le (by omega)] at a1
              simp only [V.wt]
              omega
            have hq' : ¬ (m < l.length ∧ 0 ≤ M) := hcm
            clear hcm H3
            rcases hq with hq | rfl
            all_goals go_wp2
            all_goals go_ret
            all_goals exact ⟨M, rfl, hM1, by omega, HM.out, (Ext.refl w).trans ((Below.alloc (Below.refl _ _) (Nat.le_refl _) _).trans (HB.out.mono (by omega)))⟩
end Go.Proofs.Ytikpedfggbibpaa
namespace Go.Proofs.Ytikpedfggbibpaa
open Go.RowKit
set_option linter.unusedVariables false

theorem find_bits : Extern.find Try.f107 = some Extern.MathFloatBits.float64bits := by kernel_rfl
theorem find_frombits : Extern.find Try.f119 = some Extern.MathFloatBits.float64frombits := by kernel_rfl
theorem call_bits (b : Nat) (w : World) : (callFunc 107 #[.float .f64 b]).run Try.prog w = .ok (.value (.int .u64 b)) w := by
  rw [run_callFunc_extern Try.func107 (by kernel_rfl) (by kernel_rfl) (by kernel_rfl) find_bits]
  rfl
theorem call_frombits (n : Int) (w : World) : (callFunc 119 #[.int .u64 n]).run Try.prog w = .ok (.value (.float .f64 n.toNat)) w := by
  rw [run_callFunc_extern Try.func119 (by kernel_rfl) (by kernel_rfl) (by kernel_rfl) find_frombits]
  rfl

theorem ret_bool {a b : Bool} (h : a = b) : Ending.returned (.bool a) = .returned (.bool b) := by rw [h]

set_option maxHeartbeats 400000 in
theorem noFloat_any (b : Nat) (w : World) :
    Calls Try.prog 96 #[.float .f64 b] w fun e w' => e = .returned (.bool (b == 0)) ∧ w = w' := by
  have hc := call_bits
  go_enter Try.func96, Try.ntmps96
  go_wp2
  go_ret
  exact ⟨ret_bool (by rw [Bool.eq_iff_iff]; simp only [beq_iff_eq]; omega), rfl⟩

def nanB (b : Nat) : Bool := FloatKind.f64.format.order b b != some Ordering.eq

set_option maxHeartbeats 400000 in
theorem isNaN_any (b : Nat) (w : World) :
    Calls Try.prog 78 #[.float .f64 b] w fun e w' => e = .returned (.bool (nanB b)) ∧ w = w' := by
  go_enter Try.func78, Try.ntmps78
  go_wp2
  go_ret
  exact ⟨rfl, rfl⟩

def infB (b : Nat) : Bool := FloatKind.f64.format.order (bits BinOp.andNot IntKind.u64 (↑b) 9223372036854775808).toNat 9218868437227405311 == some Ordering.gt

set_option maxHeartbeats 400000 in
theorem isInf_any (b : Nat) (w : World) :
    Calls Try.prog 79 #[.float .f64 b, .int .i64 0] w fun e w' => e = .returned (.bool (infB b)) ∧ w = w' := by
  have hc := call_bits
  have hd := call_frombits
  go_enter Try.func79, Try.ntmps79
  go_wp2
  go_ret
  exact ⟨rfl, rfl⟩
end Go.Proofs.Ytikpedfggbibpaa
