/- Walks: alt.Bool, simple, AsBool. -/
import Derived.Test.YtedhdkadpibaeaaGreatDoorVa
namespace Go.Proofs.YtedhdkadpibaeaaGreatDoor
open Go.RowKit Go.Lib
set_option linter.unusedVariables false
set_option linter.unusedSimpArgs false

@[go_sem] theorem Tryz.ta_nil_b1 (xT : TypeId) (w : World) : (Instr.typeAssert .nilIface xT 47 true).run Tryz.prog w = .ok (.tuple #[.bool false, .bool false]) w := by kernel_rfl
@[go_sem] theorem Tryz.ta_iface_b1 (t xT : TypeId) (v : Value) (w : World) : (Instr.typeAssert (.iface t v) xT 47 true).run Tryz.prog w = if t = 47 then .ok (.tuple #[v, .bool true]) w else .ok (.tuple #[.bool false, .bool false]) w :=
  run_ta_iface t _ xT v _ w _ Tryz.underlying47 rfl (by kernel_rfl)
@[go_sem] theorem Tryz.ta_nil_b2 (xT : TypeId) (w : World) : (Instr.typeAssert .nilIface xT 48 true).run Tryz.prog w = .ok (.tuple #[.string ByteArray.empty, .bool false]) w := by kernel_rfl
@[go_sem] theorem Tryz.ta_iface_b2 (t xT : TypeId) (v : Value) (w : World) : (Instr.typeAssert (.iface t v) xT 48 true).run Tryz.prog w = if t = 48 then .ok (.tuple #[v, .bool true]) w else .ok (.tuple #[.string ByteArray.empty, .bool false]) w :=
  run_ta_iface t _ xT v _ w _ Tryz.underlying48 rfl (by kernel_rfl)

/-- booleans in a row -/
def BS (w : World) (a : Option Addr) (ds : List Bool) : Prop := ds ≠ [] → ∃ b o, a = some ⟨b, o, none⟩ ∧ ∀ i (h : i < ds.length), w.cell? ⟨b, o + i, none⟩ = some (.bool ds[i])
theorem BS.keep {w w' : World} {a : Option Addr} {ds : List Bool} (h : BS w a ds) (k : Keep w w') : BS w' a ds := fun hn => by
  obtain ⟨b, o, e, hc⟩ := h hn
  exact ⟨b, o, e, fun i hi => k _ _ (hc i hi)⟩

def trueB : List UInt8 := [116, 114, 117, 101]
def falseB : List UInt8 := [102, 97, 108, 115, 101]
/-- what alt.Bool makes of data -/
def boolOf (j : J) (ds : List Bool) : Bool :=
  match j with
  | .null => ds.getD 1 false
  | .bool b => b
  | .str s => if 1 < ds.length then ds.getD 1 false else if equalFold s.data.toList trueB then true else if equalFold s.data.toList falseB then false else ds.getD 0 false
  | _ => ds.getD 0 false

def AsciiS (j : J) : Prop := match j with
  | .str s => s.size < 4294967281 ∧ ∀ (i : Nat) c, s.data.toList[i]? = some c → c.toNat < 128
  | _ => True

theorem fold_true (s : ByteArray) (h1 : s.size < 4294967281) (h2 : ∀ (i : Nat) c, s.data.toList[i]? = some c → c.toNat < 128) (w : World) : Calls Tryz.prog 25 #[.string s, .string { data := #[116, 114, 117, 101] }] w fun e w' => e = .returned (.bool (equalFold s.data.toList trueB)) ∧ w = w' :=
  (Tryz.strings_EqualFold s { data := #[116, 114, 117, 101] } w h1 h2 (fun j b hb => by
    have : b ∈ ([116, 114, 117, 101] : List UInt8) := List.mem_of_getElem? hb
    simp only [List.mem_cons, List.not_mem_nil, or_false] at this
    rcases this with rfl | rfl | rfl | rfl <;> decide)).mono fun e w' ⟨a, b⟩ => ⟨a, b.symm⟩
theorem fold_false (s : ByteArray) (h1 : s.size < 4294967281) (h2 : ∀ (i : Nat) c, s.data.toList[i]? = some c → c.toNat < 128) (w : World) : Calls Tryz.prog 25 #[.string s, .string { data := #[102, 97, 108, 115, 101] }] w fun e w' => e = .returned (.bool (equalFold s.data.toList falseB)) ∧ w = w' :=
  (Tryz.strings_EqualFold s { data := #[102, 97, 108, 115, 101] } w h1 h2 (fun j b hb => by
    have : b ∈ ([102, 97, 108, 115, 101] : List UInt8) := List.mem_of_getElem? hb
    simp only [List.mem_cons, List.not_mem_nil, or_false] at this
    rcases this with rfl | rfl | rfl | rfl | rfl <;> decide)).mono fun e w' ⟨a, b⟩ => ⟨a, b.symm⟩

def BoolAt (j : J) : Prop := ∀ (ds : List Bool), ds.length ≤ 2 → ∀ (a : Option Addr) (c : Nat) (x : Value) (w : World) (lo : Nat), ds.length ≤ c → RA w lo j x → BS w a ds →
  Calls Tryz.prog 15 #[x, .slice a ds.length c] w fun e w' => e = .returned (.bool (boolOf j ds)) ∧ w = w'

/- the kinds -/
set_option maxRecDepth 20000 in
set_option maxHeartbeats 4000000 in
theorem bool_null : BoolAt .null := by
  intro ds hd a c x w lo hc hx hb
  unfold RA at hx
  subst hx
  rcases ds with _ | ⟨d0, _ | ⟨d1, _ | ⟨d2, ds⟩⟩⟩
  · go_enter Tryz.func15, Tryz.ntmps15
    go_wp2
    go_ret
    exact ⟨rfl, rfl⟩
  · obtain ⟨b, o, rfl, hcs⟩ := hb (by simp)
    have h0 := hcs 0 (by simp)
    simp only [List.getElem_cons_succ, List.getElem_cons_zero, Nat.add_zero] at h0
    clear hcs
    go_enter Tryz.func15, Tryz.ntmps15
    go_wp2
    go_ret
    exact ⟨rfl, rfl⟩
  · obtain ⟨b, o, rfl, hcs⟩ := hb (by simp)
    have h0 := hcs 0 (by simp)
    have h1 := hcs 1 (by simp)
    simp only [List.getElem_cons_succ, List.getElem_cons_zero, Nat.add_zero] at h0 h1
    clear hcs
    go_enter Tryz.func15, Tryz.ntmps15
    go_wp2
    go_ret
    exact ⟨rfl, rfl⟩
  · simp at hd

set_option maxRecDepth 20000 in
set_option maxHeartbeats 4000000 in
theorem bool_bool (q : Bool) : BoolAt (.bool q) := by
  intro ds hd a c x w lo hc hx hb
  unfold RA at hx
  subst hx
  rcases ds with _ | ⟨d0, _ | ⟨d1, _ | ⟨d2, ds⟩⟩⟩
  · go_enter Tryz.func15, Tryz.ntmps15
    go_wp2
    go_ret
    exact ⟨rfl, rfl⟩
  · obtain ⟨b, o, rfl, hcs⟩ := hb (by simp)
    have h0 := hcs 0 (by simp)
    simp only [List.getElem_cons_succ, List.getElem_cons_zero, Nat.add_zero] at h0
    clear hcs
    go_enter Tryz.func15, Tryz.ntmps15
    go_wp2
    go_ret
    exact ⟨rfl, rfl⟩
  · obtain ⟨b, o, rfl, hcs⟩ := hb (by simp)
    have h0 := hcs 0 (by simp)
    have h1 := hcs 1 (by simp)
    simp only [List.getElem_cons_succ, List.getElem_cons_zero, Nat.add_zero] at h0 h1
    clear hcs
    go_enter Tryz.func15, Tryz.ntmps15
    go_wp2
    go_ret
    exact ⟨rfl, rfl⟩
  · simp at hd

set_option maxRecDepth 20000 in
set_option maxHeartbeats 4000000 in
theorem bool_int (q : Int) : BoolAt (.int q) := by
  intro ds hd a c x w lo hc hx hb
  unfold RA at hx
  subst hx
  rcases ds with _ | ⟨d0, _ | ⟨d1, _ | ⟨d2, ds⟩⟩⟩
  · go_enter Tryz.func15, Tryz.ntmps15
    go_wp2
    go_ret
    exact ⟨rfl, rfl⟩
  · obtain ⟨b, o, rfl, hcs⟩ := hb (by simp)
    have h0 := hcs 0 (by simp)
    simp only [List.getElem_cons_succ, List.getElem_cons_zero, Nat.add_zero] at h0
    clear hcs
    go_enter Tryz.func15, Tryz.ntmps15
    go_wp2
    go_ret
    exact ⟨rfl, rfl⟩
  · obtain ⟨b, o, rfl, hcs⟩ := hb (by simp)
    have h0 := hcs 0 (by simp)
    have h1 := hcs 1 (by simp)
    simp only [List.getElem_cons_succ, List.getElem_cons_zero, Nat.add_zero] at h0 h1
    clear hcs
    go_enter Tryz.func15, Tryz.ntmps15
    go_wp2
    go_ret
    exact ⟨rfl, rfl⟩
  · simp at hd

set_option maxRecDepth 20000 in
set_option maxHeartbeats 4000000 in
theorem bool_flt (q : Nat) : BoolAt (.flt q) := by
  intro ds hd a c x w lo hc hx hb
  unfold RA at hx
  subst hx
  rcases ds with _ | ⟨d0, _ | ⟨d1, _ | ⟨d2, ds⟩⟩⟩
  · go_enter Tryz.func15, Tryz.ntmps15
    go_wp2
    go_ret
    exact ⟨rfl, rfl⟩
  · obtain ⟨b, o, rfl, hcs⟩ := hb (by simp)
    have h0 := hcs 0 (by simp)
    simp only [List.getElem_cons_succ, List.getElem_cons_zero, Nat.add_zero] at h0
    clear hcs
    go_enter Tryz.func15, Tryz.ntmps15
    go_wp2
    go_ret
    exact ⟨rfl, rfl⟩
  · obtain ⟨b, o, rfl, hcs⟩ := hb (by simp)
    have h0 := hcs 0 (by simp)
    have h1 := hcs 1 (by simp)
    simp only [List.getElem_cons_succ, List.getElem_cons_zero, Nat.add_zero] at h0 h1
    clear hcs
    go_enter Tryz.func15, Tryz.ntmps15
    go_wp2
    go_ret
    exact ⟨rfl, rfl⟩
  · simp at hd

set_option maxRecDepth 20000 in
set_option maxHeartbeats 4000000 in
theorem bool_arr (q : List J) : BoolAt (.arr q) := by
  intro ds hd a c x w lo hc hx hb
  unfold RA at hx
  obtain ⟨bb, cap, rfl, -, -, -⟩ := hx
  rcases ds with _ | ⟨d0, _ | ⟨d1, _ | ⟨d2, ds⟩⟩⟩
  · go_enter Tryz.func15, Tryz.ntmps15
    go_wp2
    go_ret
    exact ⟨rfl, rfl⟩
  · obtain ⟨b, o, rfl, hcs⟩ := hb (by simp)
    have h0 := hcs 0 (by simp)
    simp only [List.getElem_cons_succ, List.getElem_cons_zero, Nat.add_zero] at h0
    clear hcs
    go_enter Tryz.func15, Tryz.ntmps15
    go_wp2
    go_ret
    exact ⟨rfl, rfl⟩
  · obtain ⟨b, o, rfl, hcs⟩ := hb (by simp)
    have h0 := hcs 0 (by simp)
    have h1 := hcs 1 (by simp)
    simp only [List.getElem_cons_succ, List.getElem_cons_zero, Nat.add_zero] at h0 h1
    clear hcs
    go_enter Tryz.func15, Tryz.ntmps15
    go_wp2
    go_ret
    exact ⟨rfl, rfl⟩
  · simp at hd

set_option maxRecDepth 20000 in
set_option maxHeartbeats 4000000 in
theorem bool_obj (ks : List ByteArray) (q : List J) : BoolAt (.obj ks q) := by
  intro ds hd a c x w lo hc hx hb
  unfold RA at hx
  obtain ⟨mm, es, rfl, -, -, -⟩ := hx
  rcases ds with _ | ⟨d0, _ | ⟨d1, _ | ⟨d2, ds⟩⟩⟩
  · go_enter Tryz.func15, Tryz.ntmps15
    go_wp2
    go_ret
    exact ⟨rfl, rfl⟩
  · obtain ⟨b, o, rfl, hcs⟩ := hb (by simp)
    have h0 := hcs 0 (by simp)
    simp only [List.getElem_cons_succ, List.getElem_cons_zero, Nat.add_zero] at h0
    clear hcs
    go_enter Tryz.func15, Tryz.ntmps15
    go_wp2
    go_ret
    exact ⟨rfl, rfl⟩
  · obtain ⟨b, o, rfl, hcs⟩ := hb (by simp)
    have h0 := hcs 0 (by simp)
    have h1 := hcs 1 (by simp)
    simp only [List.getElem_cons_succ, List.getElem_cons_zero, Nat.add_zero] at h0 h1
    clear hcs
    go_enter Tryz.func15, Tryz.ntmps15
    go_wp2
    go_ret
    exact ⟨rfl, rfl⟩
  · simp at hd

set_option maxRecDepth 20000 in
set_option maxHeartbeats 4000000 in
theorem bool_str (s : ByteArray) (hs : AsciiS (.str s)) : BoolAt (.str s) := by
  intro ds hd a c x w lo hc hx hb
  unfold RA at hx
  subst hx
  obtain ⟨hs1, hs2⟩ := hs
  rcases ds with _ | ⟨d0, _ | ⟨d1, _ | ⟨d2, ds⟩⟩⟩
  · have HT := Lib.hid (fold_true s hs1 hs2)
    have HF := Lib.hid (fold_false s hs1 hs2)
    have HR : Hid (boolOf (.str s) [] = if equalFold s.data.toList trueB then true else if equalFold s.data.toList falseB then false else false) := rfl
    clear hs1 hs2
    generalize equalFold s.data.toList trueB = e1 at HT HR
    generalize equalFold s.data.toList falseB = e2 at HF HR
    cases e1 <;> cases e2
    all_goals
      go_enter Tryz.func15, Tryz.ntmps15
      go_wp2_with (first
        | (go_at_call 25; refine (HT.out _).mono ?_; rintro e w' ⟨rfl, rfl⟩; clear HT)
        | (go_at_call 25; refine (HF.out _).mono ?_; rintro e w' ⟨rfl, rfl⟩; clear HF))
      go_ret
      exact ⟨by rw [HR.out]; rfl, rfl⟩
  · obtain ⟨b, o, rfl, hcs⟩ := hb (by simp)
    have h0 := hcs 0 (by simp)
    simp only [List.getElem_cons_succ, List.getElem_cons_zero, Nat.add_zero] at h0
    clear hcs
    have HT := Lib.hid (fold_true s hs1 hs2)
    have HF := Lib.hid (fold_false s hs1 hs2)
    have HR : Hid (boolOf (.str s) [d0] = if equalFold s.data.toList trueB then true else if equalFold s.data.toList falseB then false else d0) := rfl
    clear hs1 hs2
    generalize equalFold s.data.toList trueB = e1 at HT HR
    generalize equalFold s.data.toList falseB = e2 at HF HR
    cases e1 <;> cases e2
    all_goals
      go_enter Tryz.func15, Tryz.ntmps15
      go_wp2_with (first
        | (go_at_call 25; refine (HT.out _).mono ?_; rintro e w' ⟨rfl, rfl⟩; clear HT)
        | (go_at_call 25; refine (HF.out _).mono ?_; rintro e w' ⟨rfl, rfl⟩; clear HF))
      go_ret
      exact ⟨by rw [HR.out]; rfl, rfl⟩
  · obtain ⟨b, o, rfl, hcs⟩ := hb (by simp)
    have h0 := hcs 0 (by simp)
    have h1 := hcs 1 (by simp)
    simp only [List.getElem_cons_succ, List.getElem_cons_zero, Nat.add_zero] at h0 h1
    clear hcs
    go_enter Tryz.func15, Tryz.ntmps15
    go_wp2
    go_ret
    exact ⟨rfl, rfl⟩
  · simp at hd

theorem altBool_any (j : J) (hj : AsciiS j) : BoolAt j := by
  cases j with
  | null => exact bool_null
  | bool q => exact bool_bool q
  | int q => exact bool_int q
  | flt q => exact bool_flt q
  | str s => exact bool_str s hj
  | arr q => exact bool_arr q
  | obj ks q => exact bool_obj ks q

/-! ### simple, AsBool -/
theorem RV.sh' {w : World} {x : V} {v : Value} (h : RV w x v) : ∃ k n f s al ll lc ak kl kc, v = .agg #[.int .i64 k, .int .i64 n, .float .f64 f, .string s, .slice al ll lc, .slice ak kl kc] := by
  cases x; unfold RV at h; obtain ⟨al, lc, ak, kc, e, _⟩ := h; exact ⟨_, _, _, _, _, _, _, _, _, _, e⟩
theorem box6 {w wr : World} {c0 c1 c2 c3 c4 c5 : Value} {t : TypeId} (h : Keep (w.alloc (.cells #[c0, c1, c2, c3, c4, c5] t)) wr) :
    wr.cell? ⟨w.heap.size, 0, none⟩ = some c0 ∧ wr.cell? ⟨w.heap.size, 1, none⟩ = some c1 ∧ wr.cell? ⟨w.heap.size, 2, none⟩ = some c2 ∧
    wr.cell? ⟨w.heap.size, 3, none⟩ = some c3 ∧ wr.cell? ⟨w.heap.size, 4, none⟩ = some c4 ∧ wr.cell? ⟨w.heap.size, 5, none⟩ = some c5 := by
  refine ⟨?_, ?_, ?_, ?_, ?_, ?_⟩ <;> exact h _ _ (by simp)

set_option maxRecDepth 20000 in
set_option maxHeartbeats 2000000 in
theorem simple_any (j : J) (hj : j.ok) (n : Nat) (hn : n ≤ 2) (v : Value) (w : World) (h : RV w (V.ofJ j) v) : Calls Tryz.prog 14 #[v, .int .i64 (n : Int)] w (Gives (.bool true) w) := by
  have HR : Hid (∀ w1, Keep w w1 → Calls Tryz.prog 23 #[v] w1 (Gives (.bool true) w1)) := fun w1 hk => right_any j.nodes j (Nat.le_refl _) hj v w1 (RV.keep hk _ h)
  have HB : Hid (∀ w1, Keep w w1 → Calls Tryz.prog 24 #[v] w1 (Gives (.bool false) w1)) := fun w1 hk => big_any j.nodes j (Nat.le_refl _) v w1 (RV.keep hk _ h)
  obtain ⟨k, nn, f, s, al, ll, lc, ak, kl, kc, rfl⟩ := h.sh'
  clear h
  have hn' : (n : Int) ≤ 2 := by omega
  go_enter Tryz.func14, Tryz.ntmps14
  go_wp2_with (first
    | (go_at_call 23; refine (HR.out _ (Keep.alloc _ _)).mono ?_; rintro e w1 ⟨rfl, hx1⟩; have HX1 := Lib.hid hx1; obtain ⟨b0, b1, b2, b3, b4, b5⟩ := box6 hx1.keep; clear hx1 HR)
    | (go_at_call 24; refine (HB.out _ ((Keep.alloc _ _).trans HX1.out.keep)).mono ?_; rintro e w2 ⟨rfl, hx2⟩; have HX2 := Lib.hid hx2; clear hx2 HB))
  go_ret
  exact .mk rfl (((Ext.refl w).alloc _).trans (HX1.out.trans HX2.out))

set_option maxRecDepth 20000 in
set_option maxHeartbeats 2000000 in
theorem asBool_any (j : J) (hj : j.ok) (ha : AsciiS j) (ds : List Bool) (hd : ds.length ≤ 2) (a : Option Addr) (c : Nat) (hc : ds.length ≤ c) (v : Value) (w : World) (h : RV w (V.ofJ j) v) (hb : BS w a ds) :
    Calls Tryz.prog 7 #[v, .slice a ds.length c] w (Gives (.tuple #[.bool (boolOf j ds), .bool false]) w) := by
  have HS : Hid (∀ w1, Keep w w1 → Calls Tryz.prog 14 #[v, .int .i64 (ds.length : Int)] w1 (Gives (.bool true) w1)) := fun w1 hk => simple_any j hj ds.length hd v w1 (RV.keep hk _ h)
  have HP : Hid (∀ w1, Keep w w1 → Calls Tryz.prog 16 #[v] w1 (PlainPost j w1)) := fun w1 hk => plain_any j.nodes j (Nat.le_refl _) hj v w1 (RV.keep hk _ h)
  have HBB : Hid (∀ x w1, Keep w w1 → RA w1 0 j x → Calls Tryz.prog 15 #[x, .slice a ds.length c] w1 fun e w' => e = .returned (.bool (boolOf j ds)) ∧ w1 = w') := fun x w1 hk hx => altBool_any j ha ds hd a c x w1 0 hc hx (hb.keep hk)
  obtain ⟨k, nn, f, s, al, ll, lc, ak, kl, kc, rfl⟩ := h.sh'
  clear h hb
  generalize hL : ds.length = L at *
  generalize boolOf j ds = r at *
  go_enter Tryz.func7, Tryz.ntmps7
  go_wp2_with (first
    | (go_at_call 14; refine (HS.out _ (Keep.alloc _ _)).mono ?_; rintro e w1 ⟨rfl, hx1⟩; have HX1 := Lib.hid hx1; obtain ⟨b0, b1, b2, b3, b4, b5⟩ := box6 hx1.keep; clear hx1 HS)
    | (go_at_call 16; refine (HP.out _ ((Keep.alloc _ _).trans HX1.out.keep)).mono ?_; rintro e w2 ⟨x, rfl, hx, hx2⟩; have HX2 := Lib.hid hx2; have HXX := Lib.hid hx; clear hx hx2 HP)
    | (go_at_call 15; refine (HBB.out _ _ ((Keep.alloc _ _).trans (HX1.out.trans HX2.out).keep) (RA.keep (KeepB.from (fun _ _ => rfl) _) (Nat.zero_le _) _ HXX.out)).mono ?_; rintro e w3 ⟨rfl, rfl⟩; clear HBB))
  go_ret2
  exact .mk rfl (((Ext.refl w).alloc _).trans (HX1.out.trans HX2.out))
end Go.Proofs.YtedhdkadpibaeaaGreatDoor
