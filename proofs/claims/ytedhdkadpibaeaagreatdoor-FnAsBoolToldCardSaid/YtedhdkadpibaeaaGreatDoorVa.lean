/- Walks: ascii, lower, deep, given. -/
import Derived.Test.YtedhdkadpibaeaaGreatDoorU
import Derived.Laws.IdiomStrings
namespace Go.Proofs.YtedhdkadpibaeaaGreatDoor
open Go.RowKit Go.Lib
set_option linter.unusedVariables false
set_option linter.unusedSimpArgs false

def AsciiPost (s : ByteArray) (w : World) (e : Ending) (w' : World) : Prop := ∃ b : Bool, e = .returned (.bool b) ∧ (b = true → ∀ (j : Nat) c, s.data.toList[j]? = some c → c.toNat < 128) ∧ Ext w w'

set_option maxRecDepth 20000 in
set_option maxHeartbeats 2000000 in
theorem ascii_any (s : ByteArray) (hs : s.size ≤ reachN) (w : World) : Calls Tryz.prog 6 #[.string s] w (AsciiPost s w) := by
  unfold reachN at hs
  go_enter Tryz.func6, Tryz.ntmps6
  go_wp2
  go_loop [3] (fun i => ∃ m : Nat, m ≤ s.size ∧ i = .int .i64 m ∧ ∀ (j : Nat) c, j < m → s.data.toList[j]? = some c → c.toNat < 128) (fun i => s.size - (intOf i).toNat)
  case atStart => exact ⟨0, Nat.zero_le _, rfl, fun j c h => by omega⟩
  case round =>
    obtain ⟨m, hm, rfl, hall⟩ := hrel
    have HA := Lib.hid hall
    clear hall
    by_cases hlt : m < s.size
    · go_wp2
      all_goals first
        | (go_ret; exact ⟨false, rfl, fun h => (by cases h), Ext.refl _⟩)
        | (go_round
           case rel => exact ⟨m + 1, by omega, by go_num, fun j c hj hc => by
             by_cases hjm : j = m
             · subst hjm
               have e1 : s.data.toList[j]? = some s[j] := by
                 rw [Array.getElem?_toList]
                 exact Array.getElem?_eq_getElem hlt
               rw [e1] at hc
               obtain rfl := Option.some.inj hc
               omega
             · exact HA.out j c (by omega) hc⟩
           case measure => simp [intOf]; omega)
    · go_wp2
      go_ret
      exact ⟨true, rfl, fun _ j c hc => HA.out j c (by have := (List.getElem?_eq_some_iff.1 hc).1; simp at this; have h2 : s.size = s.data.size := rfl; omega) hc, Ext.refl _⟩

/-! ### lower -/
def lowB (c : UInt8) : UInt8 := if 65 ≤ c.toNat ∧ c.toNat ≤ 90 then c + 32 else c
def LowPost (s : ByteArray) (w : World) (e : Ending) (w' : World) : Prop := ∃ r : ByteArray, e = .returned (.string r) ∧ r.data.toList = s.data.toList.map lowB ∧ Ext w w'

/-- the row of bytes, so many of them small already -/
def LowRow (w : World) (g : Nat) (s : ByteArray) (m : Nat) : Prop :=
  ∃ (cur : Array Value) (fz : Nat × Nat), w.heap[g]? = some (.cells cur 5 fz) ∧ cur.size ≤ fz.1 ∧ s.size ≤ cur.size ∧
    ∀ j, (h : j < s.size) → cur[j]? = some (.int .u8 ((if j < m then lowB s[j] else s[j]).toNat : Int))
theorem LowRow.cell {w : World} {g m : Nat} {s : ByteArray} (h : LowRow w g s m) (j : Nat) (hj : j < s.size) : w.cell? ⟨g, j, none⟩ = some (.int .u8 ((if j < m then lowB s[j] else s[j]).toNat : Int)) := by
  obtain ⟨cur, fz, hh, _, _, hc⟩ := h
  rw [cell_of_row _ _ _ _ _ _ hh]
  exact hc j hj
theorem LowRow.free {w : World} {g m : Nat} {s : ByteArray} (h : LowRow w g s m) (j : Nat) (hj : j < s.size) : w.frozen? ⟨g, j, none⟩ = false := by
  obtain ⟨cur, fz, hh, h1, h2, hc⟩ := h
  simp only [World.frozen?, hh]
  simp
  intro h3
  omega
theorem LowRow.skip {w : World} {g m : Nat} {s : ByteArray} (h : LowRow w g s m) (hm : m < s.size) (he : lowB s[m] = s[m]) : LowRow w g s (m + 1) := by
  obtain ⟨cur, fz, hh, h1, h2, hc⟩ := h
  refine ⟨cur, fz, hh, h1, h2, fun j hj => ?_⟩
  rw [hc j hj]
  by_cases hjm : j = m
  · subst hjm
    simp [he]
  · by_cases h3 : j < m
    · simp [h3, Nat.lt_succ_of_lt h3]
    · have h4 : ¬ j < m + 1 := by omega
      simp [h3, h4]
theorem LowRow.put {w : World} {g m : Nat} {s : ByteArray} (h : LowRow w g s m) (hm : m < s.size) {k : Int} (he : k = ((lowB s[m]).toNat : Int)) : LowRow (w.setCell ⟨g, m, none⟩ (.int .u8 k)) g s (m + 1) := by
  obtain ⟨cur, fz, hh, h1, h2, hc⟩ := h
  rw [setCell_eq_setRow w g m cur 5 fz _ hh]
  refine ⟨_, fz, setRow_heap w g cur _ 5 fz hh, by simpa using h1, by simpa using h2, fun j hj => ?_⟩
  by_cases hjm : j = m
  · subst hjm
    rw [Array.getElem?_setIfInBounds_self_of_lt (by omega), he]
    simp
  · rw [Array.getElem?_setIfInBounds_ne (fun e => hjm e.symm), hc j hj]
    by_cases h3 : j < m
    · simp [h3, Nat.lt_succ_of_lt h3]
    · have h4 : ¬ j < m + 1 := by omega
      simp [h3, h4]

set_option maxRecDepth 20000 in
set_option maxHeartbeats 4000000 in
theorem lower_any (s : ByteArray) (hs : s.size ≤ reachN) (w : World) : Calls Tryz.prog 8 #[.string s] w (LowPost s w) := by
  unfold reachN at hs
  have hcv := run_bytes_of_string (P := Tryz.prog) w 9 40 5 s Tryz.underlying9 Tryz.underlying40 Tryz.underlying5
  obtain ⟨wb, hwb⟩ : ∃ wb, wb = w.drew.alloc (.cells (bytesRow s (grownCap w s.size 0 5)) 5 ((bytesRow s (grownCap w s.size 0 5)).size, (bytesRow s (grownCap w s.size 0 5)).size + 1)) := ⟨_, rfl⟩
  have hrow : LowRow wb w.heap.size s 0 := by
    rw [hwb]
    refine ⟨bytesRow s (grownCap w s.size 0 5), _, heap_alloc_new _ _, Nat.le_refl _, by unfold bytesRow; simp, fun j hj => ?_⟩
    rw [bytesRow_at s _ j hj]
    rfl
  have hxb : Ext w wb := by rw [hwb]; exact (Ext.drew (Ext.refl w)).alloc _
  rw [← hwb] at hcv
  generalize hgc : grownCap w s.size 0 5 = cap at hcv
  have HROW := Lib.hid hrow
  have HXB := Lib.hid hxb
  clear hrow hxb hwb hgc
  go_enter Tryz.func8, Tryz.ntmps8
  go_wp2
  clear hcv
  go_loopw [4] (fun i wr => ∃ m : Nat, m ≤ s.size ∧ i = .int .i64 m ∧ LowRow wr w.heap.size s m ∧ Ext w wr) (fun i _ => s.size - (intOf i).toNat)
  case atStart => exact ⟨0, Nat.zero_le _, rfl, HROW.out, HXB.out⟩
  case round =>
    obtain ⟨m, hm, rfl, hr, hx⟩ := hrel
    have HR := Lib.hid hr
    have HX := Lib.hid hx
    clear hr hx
    by_cases hlt : m < s.size
    · have hcell := HR.out.cell m hlt
      have hfr := HR.out.free m hlt
      rw [if_neg (Nat.lt_irrefl m)] at hcell
      have HSK : Hid (lowB s[m] = s[m] → LowRow wr w.heap.size s (m + 1)) := fun h => HR.out.skip hlt h
      have HPT : Hid (∀ k : Int, k = ((lowB s[m]).toNat : Int) → LowRow (wr.setCell ⟨w.heap.size, m, none⟩ (.int .u8 k)) w.heap.size s (m + 1)) := fun k h => HR.out.put hlt h
      have hm1 : (m : Int) < (s.size : Int) := by omega
      generalize s[m] = c at hcell HSK HPT
      have hc256 := c.toNat_lt
      by_cases hup : 65 ≤ c.toNat ∧ c.toNat ≤ 90
      · obtain ⟨h65, h90⟩ := hup
        have HLB : Hid ((lowB c).toNat = c.toNat + 32) := by
          show (lowB c).toNat = c.toNat + 32
          rw [lowB, if_pos ⟨h65, h90⟩, UInt8.toNat_add]
          have : (32 : UInt8).toNat = 32 := rfl
          omega
        go_wp2
        go_roundw
        case rel => exact ⟨m + 1, by omega, by go_num, HPT.out _ (by have := HLB.out; omega), Below.setCell HX.out (Nat.le_refl _) _⟩
        case measure => simp [intOf]; omega
      · have hlb : lowB c = c := by rw [lowB, if_neg hup]
        have HLR := Lib.hid (HSK.out hlb)
        clear HSK HPT hlb
        by_cases h65 : 65 ≤ c.toNat
        · have h90 : ¬ c.toNat ≤ 90 := fun h => hup ⟨h65, h⟩
          clear hup
          go_wp2
          go_roundw
          case rel => exact ⟨m + 1, by omega, by go_num, HLR.out, HX.out⟩
          case measure => simp [intOf]; omega
        · clear hup
          go_wp2
          go_roundw
          case rel => exact ⟨m + 1, by omega, by go_num, HLR.out, HX.out⟩
          case measure => simp [intOf]; omega
    · have hme : m = s.size := by omega
      subst hme
      have hl : (s.data.toList.map lowB).length = s.size := by simp
      have hbk : (convert 40 9 (.slice (some ⟨w.heap.size, 0, none⟩) s.size cap)).run Tryz.prog wr = .ok (.string ⟨(s.data.toList.map lowB).toArray⟩) wr := by
        have := run_convert_bytes_back (P := Tryz.prog) wr 40 9 5 ⟨w.heap.size, 0, none⟩ cap (s.data.toList.map lowB) Tryz.underlying40 Tryz.underlying5 Tryz.underlying9 (fun j hj => by
          rw [Addr.add_lit, Nat.zero_add]
          have hj' : j < s.size := by rw [← hl]; exact hj
          rw [HR.out.cell j hj', if_pos hj', List.getElem_map]
          rfl)
        rw [hl] at this
        exact this
      clear hl
      go_wp2
      go_ret
      exact ⟨_, rfl, by simp, HX.out⟩

/-! ### deep, given -/
def DeepPost (N : Nat) (w : World) (e : Ending) (w' : World) : Prop := ∃ n : Nat, e = .returned (.int .i64 (n : Int)) ∧ n ≤ N ∧ Ext w w'

set_option maxRecDepth 20000 in
set_option maxHeartbeats 4000000 in
theorem deep_any (N : Nat) (hN1 : N ≤ 1000000) : ∀ (x : V), x.nodes ≤ N → ∀ (v : Value) (w : World), RV w x v → Calls Tryz.prog 12 #[v] w (DeepPost N w) := by
  induction N with
  | zero => intro x hx; cases x; simp [V.nodes] at hx
  | succ N ih =>
  intro x hN v w h
  obtain ⟨k, n, f, s, l, ks⟩ := x
  unfold RV at h
  obtain ⟨al, lc, ak, kc, rfl, z, hl, hk⟩ := h
  have hll : l.length ≤ reachN := by have := z.hll; have := z.hlc; omega
  unfold reachN at hll
  have IH := Lib.hid (ih (by omega))
  have HL := Lib.hid hl
  have HN := Lib.hid hN
  clear hl hk z ih hN
  go_enter Tryz.func12, Tryz.ntmps12
  go_wp2
  go_loopw [3, 4] (fun d i wr => ∃ m : Nat, m ≤ l.length ∧ i = .int .i64 m ∧ (∃ D : Nat, d = .int .i64 D ∧ D ≤ N) ∧ Below (w.heap.size + 1) (w.alloc (Obj.cells #[Value.int IntKind.i64 k, Value.int IntKind.i64 n, Value.float FloatKind.f64 f, Value.string s, Value.slice al l.length lc, Value.slice ak ks.length kc] 26)) wr) (fun _ i _ => l.length - (intOf i).toNat)
  case atStart => exact ⟨0, Nat.zero_le _, rfl, ⟨0, rfl, Nat.zero_le _⟩, Below.refl _ _⟩
  case round =>
    obtain ⟨m, hm, rfl, ⟨D, rfl, hD⟩, hb⟩ := hrel
    obtain ⟨b0, b1, b2, b3, b4, b5⟩ := box_cells hb
    have HB := Lib.hid hb
    have EX : Hid (Ext w wr) := (Ext.refl w).trans ((Below.alloc (Below.refl _ _) (Nat.le_refl _) _).trans (HB.out.mono (by omega)))
    clear hb
    by_cases hlt : m < l.length
    · obtain ⟨bb, oo, d0, d1, d2, d3, d4, d5, rfl, E⟩ := RV.elem (k := k) (n := n) (f := f) (s := s) (ks := ks) HL.out m hlt
      have KK : Keep w wr := EX.out.keep
      have e0 := KK _ _ E.h0
      have e1 := KK _ _ E.h1
      have e2 := KK _ _ E.h2
      have e3 := KK _ _ E.h3
      have e4 := KK _ _ E.h4
      have e5 := KK _ _ E.h5
      have hch : l[m].nodes ≤ N := by
        have := HN.out
        have h2 := V.nodes_mem (List.getElem_mem hlt)
        simp only [V.nodes] at this
        omega
      have HC := Lib.hid (IH.out l[m] hch _ wr (RV.keep KK _ E.rv))
      clear E KK hch
      go_wp2_with (go_at_call 12; refine (HC.out).mono ?_; rintro e w2 ⟨r, rfl, hr, hb2⟩; have HB2 := Lib.hid hb2; clear hb2)
      go_roundw
      case rel => exact ⟨m + 1, by omega, by go_num, ⟨max D r, by simp; omega, by omega⟩, HB.out.trans (HB2.out.mono (by have := HB.out.size; simp at this; omega))⟩
      case measure => simp [intOf]; omega
    · by_cases k7 : k = 7
      · subst k7
        go_wp2
        go_ret
        exact ⟨D + 1, rfl, by omega, EX.out⟩
      by_cases k8 : k = 8
      · subst k8
        go_wp2
        go_ret
        exact ⟨D + 1, rfl, by omega, EX.out⟩
      have q7 : (k == 7) = false := beq_eq_false_iff_ne.2 k7
      have q8 : (k == 8) = false := beq_eq_false_iff_ne.2 k8
      go_wp2
      go_ret
      exact ⟨D, rfl, by omega, EX.out⟩

def GivenPost (x : V) (w : World) (e : Ending) (w' : World) : Prop :=
  ∃ b : Bool, e = .returned (.bool b) ∧ (b = true → ∃ j, x = V.ofJ j ∧ j.ok ∧ (x.wt : Int) ≤ 300) ∧ Ext w w'
theorem V.nodes_le_wt : ∀ (N : Nat) (x : V), x.nodes ≤ N → x.nodes ≤ x.wt
  | 0, x, h => by cases x; simp [V.nodes] at h
  | N + 1, .mk k n f s l ks, h => by
    have hl : ∀ (l : List V), V.nodesL l ≤ N → V.nodesL l ≤ V.wtL l := by
      intro l
      induction l with
      | nil => intro _; simp [V.nodesL]
      | cons a l ihl =>
        intro hn
        simp only [V.nodesL, V.wtL] at hn ⊢
        have h1 := V.nodes_le_wt N a (by omega)
        have h2 := ihl (by omega)
        omega
    have := hl l (by simp only [V.nodes] at h; omega)
    simp only [V.nodes, V.wt]
    omega

set_option maxRecDepth 20000 in
set_option maxHeartbeats 2000000 in
theorem given_any (x : V) (v : Value) (w : World) (h : RV w x v) : Calls Tryz.prog 5 #[v] w (GivenPost x w) := by
  have hsh : ∃ k n f s al ll lc ak kl kc, v = .agg #[.int .i64 k, .int .i64 n, .float .f64 f, .string s, .slice al ll lc, .slice ak kl kc] := by
    cases x; unfold RV at h; obtain ⟨al, lc, ak, kc, e, _⟩ := h; exact ⟨_, _, _, _, _, _, _, _, _, _, e⟩
  obtain ⟨k, n, f, s, al, ll, lc, ak, kl, kc, rfl⟩ := hsh
  have HR := Lib.hid h
  clear h
  have H1 : Hid (∀ (w1 : World), Ext w w1 → Calls Tryz.prog 11 #[.agg #[.int .i64 k, .int .i64 n, .float .f64 f, .string s, .slice al ll lc, .slice ak kl kc], .int .i64 300] w1 (LightPost x 300 w1)) :=
    fun w1 he => light_any x _ w1 300 (HR.out.keep he.keep) (by omega) (by omega)
  have H2 : Hid (∀ (w1 : World), Ext w w1 → x.nodes ≤ 300 → Calls Tryz.prog 12 #[.agg #[.int .i64 k, .int .i64 n, .float .f64 f, .string s, .slice al ll lc, .slice ak kl kc]] w1 (DeepPost 300 w1)) :=
    fun w1 he hn => deep_any 300 (by omega) x hn _ w1 (HR.out.keep he.keep)
  have H3 : Hid (∀ (w1 : World), Ext w w1 → Calls Tryz.prog 13 #[.agg #[.int .i64 k, .int .i64 n, .float .f64 f, .string s, .slice al ll lc, .slice ak kl kc]] w1 (CleanPost x w1)) :=
    fun w1 he => cleanValue_any x.nodes x (Nat.le_refl _) _ w1 (HR.out.keep he.keep)
  clear HR
  go_enter Tryz.func5, Tryz.ntmps5
  go_wp2_with (go_at_call 11; refine (H1.out _ ((Ext.refl _).alloc _)).mono ?_; rintro e w2 ⟨b, rfl, r3, hb2⟩; obtain ⟨b0, b1, b2, b3, b4, b5⟩ := box_cells (hb2.mono (by simp)); have R3 := Lib.hid r3; have B2 : Hid (Ext w w2) := ((Ext.refl w).alloc _).trans hb2; clear r3 hb2; cases b)
  · clear H1 H2 H3
    go_wp2
    go_ret
    exact ⟨false, rfl, fun h => (by cases h), B2.out⟩
  have HJ : Hid (∃ j, x = V.ofJ j ∧ j.ok ∧ (x.wt : Int) ≤ 300) := by
    obtain ⟨j, e1, e2, _, e4⟩ := R3.out (by first | rfl | trivial)
    exact ⟨j, e1, e2, e4⟩
  have hnd : x.nodes ≤ 300 := by
    obtain ⟨j, _, _, h4⟩ := HJ.out
    have := V.nodes_le_wt x.nodes x (Nat.le_refl _)
    omega
  clear H1 R3
  go_wp2_with (go_at_call 12; refine (H2.out _ B2.out hnd).mono ?_; rintro e w3 ⟨n3, rfl, hn3, hb3⟩; have KK : Keep w2 w3 := hb3.keep; have b0 := KK _ _ b0; have b1 := KK _ _ b1; have b2 := KK _ _ b2; have b3 := KK _ _ b3; have b4 := KK _ _ b4; have b5 := KK _ _ b5; have B3 : Hid (Ext w w3) := B2.out.trans hb3; clear hb3 KK B2; by_cases h60 : n3 ≤ 60)
  · go_wp2_with (go_at_call 13; refine (H3.out _ B3.out).mono ?_; rintro e w4 ⟨b, rfl, hcl, hb4⟩; have B4 : Hid (Ext w w4) := B3.out.trans hb4; clear hb4 B3 hcl)
    go_ret
    exact ⟨b, rfl, fun _ => HJ.out, B4.out⟩
  · have h60' : ¬ (n3 : Int) ≤ 60 := by omega
    go_wp2
    go_ret
    exact ⟨false, rfl, fun h => (by cases h), B3.out⟩
end Go.Proofs.YtedhdkadpibaeaaGreatDoor
