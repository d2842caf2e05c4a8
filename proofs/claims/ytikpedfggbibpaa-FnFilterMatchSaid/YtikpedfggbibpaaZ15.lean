/- Walks: integer, Fits, fitsOne. -/
import Derived.Test.YtikpedfggbibpaaZ14
namespace Go.Proofs.Ytikpedfggbibpaa
open Go.RowKit Go.Lib
set_option linter.unusedVariables false
set_option linter.unusedSimpArgs false

def intV (n : Int) : Value := .agg #[.int .i64 3, .int .i64 n, .float .f64 0, .string ByteArray.empty, .slice none 0 0, .slice none 0 0]

theorem integer_any (n : Int) (w : World) : Calls Try.prog 34 #[.int .i64 n] w (Gives (intV n) w) := by
  go_enter Try.func34, Try.ntmps34
  go_wp2
  refine bodyPost_ret (results_cell_row rfl _ _ w.heap.size 26 _ _ _ rfl (heap_alloc_new _ _) Try.underlying26 rfl (by kernel_rfl)) rfl ?_
  exact .mk rfl ((Ext.refl _).alloc _)

theorem RV.sh {w : World} {x : V} {v : Value} (h : RV w x v) : ∃ k n f s al ll lc ak kl kc, v = .agg #[.int .i64 k, .int .i64 n, .float .f64 f, .string s, .slice al ll lc, .slice ak kl kc] := by
  cases x; unfold RV at h; obtain ⟨al, lc, ak, kc, e, _⟩ := h; exact ⟨_, _, _, _, _, _, _, _, _, _, e⟩

theorem box_cells' {w wr : World} {c0 c1 c2 c3 c4 c5 : Value} {t : TypeId} (h : Keep (w.alloc (.cells #[c0, c1, c2, c3, c4, c5] t)) wr) :
    wr.cell? ⟨w.heap.size, 0, none⟩ = some c0 ∧ wr.cell? ⟨w.heap.size, 1, none⟩ = some c1 ∧ wr.cell? ⟨w.heap.size, 2, none⟩ = some c2 ∧
    wr.cell? ⟨w.heap.size, 3, none⟩ = some c3 ∧ wr.cell? ⟨w.heap.size, 4, none⟩ = some c4 ∧ wr.cell? ⟨w.heap.size, 5, none⟩ = some c5 := by
  refine ⟨?_, ?_, ?_, ?_, ?_, ?_⟩ <;> exact h _ _ (by simp)

/-- twelve cells of two boxes, one behind the other -/
def Two (w wr : World) (c0 c1 c2 c3 c4 c5 d0 d1 d2 d3 d4 d5 : Value) : Prop :=
    wr.cell? ⟨w.heap.size, 0, none⟩ = some c0 ∧ wr.cell? ⟨w.heap.size, 1, none⟩ = some c1 ∧ wr.cell? ⟨w.heap.size, 2, none⟩ = some c2 ∧
    wr.cell? ⟨w.heap.size, 3, none⟩ = some c3 ∧ wr.cell? ⟨w.heap.size, 4, none⟩ = some c4 ∧ wr.cell? ⟨w.heap.size, 5, none⟩ = some c5 ∧
    wr.cell? ⟨w.heap.size + 1, 0, none⟩ = some d0 ∧ wr.cell? ⟨w.heap.size + 1, 1, none⟩ = some d1 ∧ wr.cell? ⟨w.heap.size + 1, 2, none⟩ = some d2 ∧
    wr.cell? ⟨w.heap.size + 1, 3, none⟩ = some d3 ∧ wr.cell? ⟨w.heap.size + 1, 4, none⟩ = some d4 ∧ wr.cell? ⟨w.heap.size + 1, 5, none⟩ = some d5
theorem Two.of {w wr : World} {c0 c1 c2 c3 c4 c5 d0 d1 d2 d3 d4 d5 : Value} {t : TypeId} (h : Keep ((w.alloc (.cells #[c0, c1, c2, c3, c4, c5] t)).alloc (.cells #[d0, d1, d2, d3, d4, d5] t)) wr) : Two w wr c0 c1 c2 c3 c4 c5 d0 d1 d2 d3 d4 d5 := by
  obtain ⟨a0, a1, a2, a3, a4, a5⟩ := box_cells' (w := w) (Keep.alloc (w.alloc (.cells #[c0, c1, c2, c3, c4, c5] t)) (.cells #[d0, d1, d2, d3, d4, d5] t))
  obtain ⟨e0, e1, e2, e3, e4, e5⟩ := box_cells' (w := w.alloc (.cells #[c0, c1, c2, c3, c4, c5] t)) h
  simp only [World.size_alloc] at e0 e1 e2 e3 e4 e5
  exact ⟨h _ _ a0, h _ _ a1, h _ _ a2, h _ _ a3, h _ _ a4, h _ _ a5, e0, e1, e2, e3, e4, e5⟩
theorem Two.keep {w a b : World} {c0 c1 c2 c3 c4 c5 d0 d1 d2 d3 d4 d5 : Value} (h : Two w a c0 c1 c2 c3 c4 c5 d0 d1 d2 d3 d4 d5) (k : Keep a b) : Two w b c0 c1 c2 c3 c4 c5 d0 d1 d2 d3 d4 d5 := by
  obtain ⟨a0, a1, a2, a3, a4, a5, e0, e1, e2, e3, e4, e5⟩ := h
  exact ⟨k _ _ a0, k _ _ a1, k _ _ a2, k _ _ a3, k _ _ a4, k _ _ a5, k _ _ e0, k _ _ e1, k _ _ e2, k _ _ e3, k _ _ e4, k _ _ e5⟩

set_option maxRecDepth 20000 in
set_option maxHeartbeats 4000000 in
theorem fits_any (f t : J) (hfs : f.nodes ≤ 1000) (hf : f.ok) (hfn : f.nofl) (ht : t.ok) (htn : t.nofl) (vf vt : Value) (w : World) (h1 : RV w (V.ofJ f) vf) (h2 : RV w (V.ofJ t) vt) :
    Calls Try.prog 11 #[vf, vt] w (Gives (.tuple #[.bool (jm f t), .bool false]) w) := by
  have HRF : Hid (∀ w1, Keep w w1 → Calls Try.prog 37 #[vf] w1 (Gives (.bool true) w1)) := fun w1 hk => right_any f.nodes f (Nat.le_refl _) hf vf w1 (RV.keep hk _ h1)
  have HRT : Hid (∀ w1, Keep w w1 → Calls Try.prog 37 #[vt] w1 (Gives (.bool true) w1)) := fun w1 hk => right_any t.nodes t (Nat.le_refl _) ht vt w1 (RV.keep hk _ h2)
  have HBF : Hid (∀ w1, Keep w w1 → Calls Try.prog 38 #[vf] w1 (Gives (.bool false) w1)) := fun w1 hk => big_any f.nodes f (Nat.le_refl _) vf w1 (RV.keep hk _ h1)
  have HBT : Hid (∀ w1, Keep w w1 → Calls Try.prog 38 #[vt] w1 (Gives (.bool false) w1)) := fun w1 hk => big_any t.nodes t (Nat.le_refl _) vt w1 (RV.keep hk _ h2)
  have HPF : Hid (∀ w1, Keep w w1 → Calls Try.prog 40 #[vf] w1 (PlainPost f w1)) := fun w1 hk => plain_any f.nodes f (Nat.le_refl _) hf vf w1 (RV.keep hk _ h1)
  have HPT : Hid (∀ w1, Keep w w1 → Calls Try.prog 40 #[vt] w1 (PlainPost t w1)) := fun w1 hk => plain_any t.nodes t (Nat.le_refl _) ht vt w1 (RV.keep hk _ h2)
  have HM : Hid (∀ a b w1, RA w1 0 f a → RA w1 0 t b → Calls Try.prog 39 #[a, b] w1 (Gives (.bool (jm f t)) w1)) := fun a b w1 ha hb => match_any f.nodes f t (Nat.le_refl _) hfs hf hfn ht htn a b w1 ha hb
  obtain ⟨fk, fn, ff, fs, fal, fll, flc, fak, fkl, fkc, rfl⟩ := h1.sh
  obtain ⟨tk, tn, tf, ts, tal, tll, tlc, tak, tkl, tkc, rfl⟩ := h2.sh
  clear h1 h2 hf hfn ht htn hfs
  generalize hres : jm f t = res at HM
  clear hres
  go_enter Try.func11, Try.ntmps11
  have K0 : Hid (Keep w ((w.alloc (.cells #[.int .i64 fk, .int .i64 fn, .float .f64 ff, .string fs, .slice fal fll flc, .slice fak fkl fkc] 26)).alloc (.cells #[.int .i64 tk, .int .i64 tn, .float .f64 tf, .string ts, .slice tal tll tlc, .slice tak tkl tkc] 26))) := (Keep.alloc _ _).trans (Keep.alloc _ _)
  have T0 : Hid (Two w ((w.alloc (.cells #[.int .i64 fk, .int .i64 fn, .float .f64 ff, .string fs, .slice fal fll flc, .slice fak fkl fkc] 26)).alloc (.cells #[.int .i64 tk, .int .i64 tn, .float .f64 tf, .string ts, .slice tal tll tlc, .slice tak tkl tkc] 26)) _ _ _ _ _ _ _ _ _ _ _ _) := Two.of (Keep.refl _)
  have X0 : Hid (Ext w ((w.alloc (.cells #[.int .i64 fk, .int .i64 fn, .float .f64 ff, .string fs, .slice fal fll flc, .slice fak fkl fkc] 26)).alloc (.cells #[.int .i64 tk, .int .i64 tn, .float .f64 tf, .string ts, .slice tal tll tlc, .slice tak tkl tkc] 26))) := ((Ext.refl _).alloc _).alloc _
  go_wp2_with (go_at_call 37; refine (HRF.out _ K0.out).mono ?_; rintro e w1 ⟨rfl, hb1⟩; have K1 : Hid (Keep w w1) := K0.out.trans hb1.keep; have X1 : Hid (Ext w w1) := X0.out.trans hb1; have T1 : Hid (Two w w1 _ _ _ _ _ _ _ _ _ _ _ _) := T0.out.keep hb1.keep; obtain ⟨a0, a1, a2, a3, a4, a5, e0, e1, e2, e3, e4, e5⟩ := T1.out; clear hb1 HRF K0 T0 X0)
  go_wp2_with (go_at_call 37; refine (HRT.out _ K1.out).mono ?_; rintro e w2 ⟨rfl, hb1⟩; have K2 : Hid (Keep w w2) := K1.out.trans hb1.keep; have X2 : Hid (Ext w w2) := X1.out.trans hb1; have T2 : Hid (Two w w2 _ _ _ _ _ _ _ _ _ _ _ _) := T1.out.keep hb1.keep; clear a0 a1 a2 a3 a4 a5 e0 e1 e2 e3 e4 e5; obtain ⟨a0, a1, a2, a3, a4, a5, e0, e1, e2, e3, e4, e5⟩ := T2.out; clear hb1 HRT K1 T1 X1)
  go_wp2_with (go_at_call 38; refine (HBF.out _ K2.out).mono ?_; rintro e w3 ⟨rfl, hb1⟩; have K3 : Hid (Keep w w3) := K2.out.trans hb1.keep; have X3 : Hid (Ext w w3) := X2.out.trans hb1; have T3 : Hid (Two w w3 _ _ _ _ _ _ _ _ _ _ _ _) := T2.out.keep hb1.keep; clear a0 a1 a2 a3 a4 a5 e0 e1 e2 e3 e4 e5; obtain ⟨a0, a1, a2, a3, a4, a5, e0, e1, e2, e3, e4, e5⟩ := T3.out; clear hb1 HBF K2 T2 X2)
  go_wp2_with (go_at_call 38; refine (HBT.out _ K3.out).mono ?_; rintro e w4 ⟨rfl, hb1⟩; have K4 : Hid (Keep w w4) := K3.out.trans hb1.keep; have X4 : Hid (Ext w w4) := X3.out.trans hb1; have T4 : Hid (Two w w4 _ _ _ _ _ _ _ _ _ _ _ _) := T3.out.keep hb1.keep; clear a0 a1 a2 a3 a4 a5 e0 e1 e2 e3 e4 e5; obtain ⟨a0, a1, a2, a3, a4, a5, e0, e1, e2, e3, e4, e5⟩ := T4.out; clear hb1 HBT K3 T3 X3)
  go_region_held3 (fun w' => w'.cell? ⟨w.heap.size, 0, none⟩ = some (.int .i64 fk) ∧ w'.cell? ⟨w.heap.size, 1, none⟩ = some (.int .i64 fn) ∧ w'.cell? ⟨w.heap.size, 2, none⟩ = some (.float .f64 ff) ∧ w'.cell? ⟨w.heap.size, 3, none⟩ = some (.string fs) ∧ w'.cell? ⟨w.heap.size, 4, none⟩ = some (.slice fal fll flc) ∧ w'.cell? ⟨w.heap.size, 5, none⟩ = some (.slice fak fkl fkc) ∧ w'.cell? ⟨w.heap.size + 1, 0, none⟩ = some (.int .i64 tk) ∧ w'.cell? ⟨w.heap.size + 1, 1, none⟩ = some (.int .i64 tn) ∧ w'.cell? ⟨w.heap.size + 1, 2, none⟩ = some (.float .f64 tf) ∧ w'.cell? ⟨w.heap.size + 1, 3, none⟩ = some (.string ts) ∧ w'.cell? ⟨w.heap.size + 1, 4, none⟩ = some (.slice tal tll tlc) ∧ w'.cell? ⟨w.heap.size + 1, 5, none⟩ = some (.slice tak tkl tkc))
    (first
      | go_keep
      | (go_split_ands
         exact ⟨hk5 _ _ (by assumption), hk5 _ _ (by assumption), hk5 _ _ (by assumption), hk5 _ _ (by assumption), hk5 _ _ (by assumption), hk5 _ _ (by assumption), hk5 _ _ (by assumption), hk5 _ _ (by assumption), hk5 _ _ (by assumption), hk5 _ _ (by assumption), hk5 _ _ (by assumption), hk5 _ _ (by assumption)⟩)
      | (go_split_ands
         exact ⟨hk6 _ _ (by assumption), hk6 _ _ (by assumption), hk6 _ _ (by assumption), hk6 _ _ (by assumption), hk6 _ _ (by assumption), hk6 _ _ (by assumption), hk6 _ _ (by assumption), hk6 _ _ (by assumption), hk6 _ _ (by assumption), hk6 _ _ (by assumption), hk6 _ _ (by assumption), hk6 _ _ (by assumption)⟩)
      | (go_split_ands
         exact ⟨hk7 _ _ (by assumption), hk7 _ _ (by assumption), hk7 _ _ (by assumption), hk7 _ _ (by assumption), hk7 _ _ (by assumption), hk7 _ _ (by assumption), hk7 _ _ (by assumption), hk7 _ _ (by assumption), hk7 _ _ (by assumption), hk7 _ _ (by assumption), hk7 _ _ (by assumption), hk7 _ _ (by assumption)⟩))
    (first
      | (go_at_call 40; refine (HPF.out _ (by first | exact K4.out | exact K4.out.trans (Keep.drew _))).mono ?_; rintro e w5 ⟨a, rfl, ha, hb5⟩; have hk5 := hb5.keep; have HA := Lib.hid ha; have B5 := Lib.hid hb5; clear ha hb5 HPF)
      | (go_at_call 40; refine (HPT.out _ (by first | exact K4.out.trans hk5 | exact (K4.out.trans (Keep.drew _)).trans hk5)).mono ?_; rintro e w6 ⟨b, rfl, hb, hb6⟩; have hk6 := hb6.keep; have HA6 := Lib.hid (RA.keep (hb6.keepB.from _) (Nat.zero_le _) _ HA.out); have HB := Lib.hid (RA.keep (KeepB.from (fun _ _ => rfl) _) (Nat.zero_le _) _ hb); have B6 := Lib.hid (Ext.trans B5.out hb6); clear hb hb6 HPT HA B5)
      | (go_at_call 39; refine (HM.out _ _ _ HA6.out HB.out).mono ?_; rintro e w7 ⟨rfl, hb7⟩; have hk7 := hb7.keep; have B7 := Lib.hid (Ext.trans B6.out hb7); clear hb7 HM HA6 HB))
  go_wp2
  go_ret2
  exact .mk rfl (by first | exact X4.out.trans B7.out | exact (Ext.drew X4.out).trans B7.out)

set_option maxRecDepth 20000 in
set_option maxHeartbeats 1000000 in
theorem fitsOne_any (w : World) : Calls Try.prog 9 #[] w (Gives (.bool true) w) := by
  have hrv : ∀ w1, RV w1 (V.ofJ (.int 1)) (intV 1) := fun w1 => by
    unfold V.ofJ RV intV
    refine ⟨none, 0, none, 0, rfl, ⟨rfl, rfl, rfl, by unfold reachN; decide, by simp, by unfold reachN; simp, by simp, by unfold reachN; simp, by simp⟩, by simp, by intro h; exact absurd rfl h⟩
  have HF : Hid (∀ w1, Calls Try.prog 11 #[intV 1, intV 1] w1 (Gives (.tuple #[.bool true, .bool false]) w1)) := fun w1 => by
    have := fits_any (.int 1) (.int 1) (by simp [J.nodes]) (by simp [J.ok]) (by simp [J.nofl]) (by simp [J.ok]) (by simp [J.nofl]) _ _ w1 (hrv w1) (hrv w1)
    simpa [jm] using this
  clear hrv
  go_enter Try.func9, Try.ntmps9
  have B0 : Hid (Ext w w) := Ext.refl w
  go_wp2_with (go_at_call 34; refine (integer_any 1 _).mono ?_; rintro e w1 ⟨rfl, hb1⟩; have B0 := Lib.hid (B0.out.trans hb1); clear hb1)
  go_wp2_with (go_at_call 11; refine (HF.out _).mono ?_; rintro e w3 ⟨rfl, hb3⟩; have B3 := Lib.hid (B0.out.trans hb3); clear hb3)
  go_ret
  exact .mk rfl B3.out
end Go.Proofs.Ytikpedfggbibpaa
