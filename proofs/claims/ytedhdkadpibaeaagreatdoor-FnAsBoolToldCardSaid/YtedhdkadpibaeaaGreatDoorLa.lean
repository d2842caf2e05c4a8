/- AsBool, by kinds, answers as it is said: laws.FnAsBoolTold returns true (the tied card). Conditions: those of the card alone: the listed tables of Go's library read as the row lays them, and are tied to the program's text. -/
import Derived.Test.YtedhdkadpibaeaaGreatDoorVe
import Derived.Test.YtedhdkadpibaeaaGreatDoorWm
import Derived.Test.YtedhdkadpibaeaaGreatDoorTie
import Derived.Test.YtedhdkadpibaeaaGreatDoorCards
import Derived.LaidMore
import Derived.Lay
import Derived.SevenTiedAt
import Derived.Stop.Joined
namespace Go.Proofs.YtedhdkadpibaeaaGreatDoor
open Go.ChangeShapes Go.WideShapes Go.ChangeAt Go.RowKit
set_option linter.unusedVariables false
set_option linter.unusedSimpArgs false

theorem Tryz.cells_bool : Tryz.prog.cellsOf 4 = 1 := by kernel_rfl
theorem Tryz.bytes_bool : Tryz.prog.bytesOf 4 = 1 := by kernel_rfl

section
variable {H : Type} {enc : TypeId × Value → H} {W : World}
set_option maxRecDepth 100000 in
/-- an argument that is a list of booleans -/
theorem open_bools {base : Nat} {v : Value} {d : DataW H} {p : List MemPlace} (hv : Value.okWide Tryz.prog W .any base 27 v) (h : DataW.Trod enc Tryz.prog W 0 (fun _ => true) true 27 v d p) (hs : Small 27 d) :
    ∃ (ds : List Bool) (a : Option Addr) (c : Nat), v = .slice a ds.length c ∧ ds.length ≤ c ∧ ds.length ≤ reachN ∧ BS W a ds := by
  obtain ⟨fuel, hf⟩ := h
  obtain ⟨a0, len0, cap0, rfl⟩ := okWide_slice Tryz.underlying27 hv
  simp only [Value.cells] at hf
  rcases DataW.trod_slice Tryz.underlying27 hf with ⟨e4, _⟩ | ⟨a, len, cap, elems, rest, n, rfl, e4, e5, hb, hl, _, hel, hels, _, _⟩
  · simp only [List.cons.injEq, and_true] at e4
    exact ⟨[], none, 0, e4, by simp, by simp, fun h => absurd rfl h⟩
  · simp only [List.cons.injEq, and_true] at e4
    simp only [Prod.mk.injEq] at e5
    have h1 := hs ((elems.map (·.1)).length * Tryz.prog.bytesOf 4 + (rest.map (·.1)).length * Tryz.prog.bytesOf 4) (by
      rw [e5.1]
      simp only [DataW.weights, Tryz.underlying27]
      rw [Nat.add_mul]
      simp)
    rw [Tryz.bytes_bool] at h1
    simp only [List.length_map, hel, reachBytes] at h1
    have each : ∀ i, i < len → ∃ v : Bool, W.cell? (a.add i) = some (.bool v) := fun i hi => by
      have h2 := hels i hi
      rw [Tryz.cells_bool, List.getElem?_eq_getElem (by omega)] at h2
      obtain ⟨ds, h3, h4⟩ := Option.bind_eq_some_iff.1 h2
      obtain ⟨_, h5, h6⟩ := World.cells?_some h3
      obtain ⟨b, rfl, _⟩ := DataW.trod_bool Tryz.underlying4 h4
      have h7 := h6 0 (by omega)
      rw [Go.Deep.add_add, Nat.mul_one, Nat.add_zero] at h7
      exact ⟨b, h7⟩
    obtain ⟨Y, hY⟩ : ∃ Y : Nat → Bool, ∀ i, i < len → W.cell? (a.add i) = some (.bool (Y i)) := by
      classical
      refine ⟨fun i => if hi : i < len then Classical.choose (each i hi) else false, fun i hi => ?_⟩
      simp only [dif_pos hi]
      exact Classical.choose_spec (each i hi)
    have hlenY : ((List.range len).map Y).length = len := by simp
    refine ⟨(List.range len).map Y, some a, cap, by rw [hlenY]; exact e4, by rw [hlenY]; exact hl, by rw [hlenY]; unfold reachN; omega, fun hn => ?_⟩
    have h0 : 0 < len := by
      rcases Nat.eq_zero_or_pos len with h | h
      · rw [h] at hn; simp at hn
      · exact h
    have hc0 := hY 0 h0
    have hp := addr_plain (a := a) (by simpa [Addr.add] using hc0)
    refine ⟨a.block, a.off, by rw [← hp], fun i hi => ?_⟩
    have hi' : i < len := by simpa using hi
    have := hY i hi'
    rw [hp, Addr.add_lit] at this
    rw [this]
    simp
end

theorem law_fnAsBoolTold (x : V) (v : Value) (ds : List Bool) (a : Option Addr) (c : Nat) (w : World) (h : RV w x v) (hc : ds.length ≤ c) (hr : ds.length ≤ reachN) (hb : BS w a ds) : Calls Tryz.prog 3 #[v, .slice a ds.length c] w (Gives (.bool true) w) := by
  by_cases h2 : 2 < ds.length
  · exact law_big x v ds.length a c w h h2 hr
  · rcases ds with _ | ⟨d0, _ | ⟨d1, _ | ⟨d2, ds⟩⟩⟩
    · exact law_0 x v a c w h hc hb
    · exact law_1 x v d0 a c w h hc hb
    · exact law_2 x v d0 d1 a c w h hc hb
    · simp at h2

theorem ownZ : ownKnob Tryz.prog.godebug = none := by kernel_rfl
theorem laidOutZ : laidOutB Tryz.prog = true := by kernel_rfl

set_option maxRecDepth 100000 in
theorem liftedZ (os : Os) (started : os.Started) (H : Type) (enc : TypeId × Value → H) :
    ReturnsInHanded {} Tryz.checked os 3 .any (fun w args => (Rows.fnAsBoolToldSpec.pre enc Tryz.prog Tryz.f3 Rows.fnAsBoolToldRow.domain false w args ∧ laidMetH Tryz.prog Rows.fnAsBoolToldRow.laid w) ∧ sizedMet enc Tryz.prog Tryz.f3 (OpenSpec.ofChange Rows.fnAsBoolToldSpec) false w args)
      (Rows.fnAsBoolToldSpec.post enc Tryz.prog Tryz.f3 false true false false) := by
  refine returnsInHanded_of_change_and (C := Tryz.checked) (X := fun w _ => laidMetH Tryz.prog Rows.fnAsBoolToldRow.laid w) (fun _ _ _ hh h => h.of_heap hh) ownZ started (by kernel_rfl) Tryz.func3
    (ChangeSpec.witness_shaped (enc := enc) (C := Tryz.checked) (os := os) (X := fun w _ => laidMetH Tryz.prog Rows.fnAsBoolToldRow.laid w) false (World.laidAll Tryz.prog os Rows.fnAsBoolToldRow.laid) #[.agg #[.int .i64 0, .int .i64 0, .float .f64 0, .string ByteArray.empty, .slice none 0 0, .slice none 0 0], .slice none 0 0] 8 (World.laidAll_os _ _ _)
      (World.shaped_of_ZipB (by kernel_rfl) (by kernel_rfl)) (by kernel_rfl) (by kernel_rfl) (by kernel_rfl)
      (by rw [MakeChecks.laidMetH_plain _ _ _ (by kernel_rfl)]; exact laidMet_laidAll _ (by kernel_rfl) (by kernel_rfl))) ?_
  intro W base args ds gs before hval0 hW hcnd hsz0 hL _
  have hval : ∀ (j : Nat) t v, Tryz.f3.params[j]? = some t → args[j]? = some v → Value.okWide Tryz.prog W .any base t v := hval0
  have hsz1 : (DataW.weightsEach Tryz.prog (Tryz.f3.params.toList ++ Rows.fnAsBoolToldSpec.plain.varTypes Tryz.prog) (ds ++ gs)).all (· ≤ reachBytes) = true := hsz0
  clear hL
  have hW' := hW
  obtain ⟨p, q, hA0, hV, rfl, hfz, hnd⟩ := hW
  have hA : DataW.TrodAll enc Tryz.prog W 0 (fun _ => true) true Tryz.f3.params.toList args.toList ds p := hA0
  rw [Tryz.params3] at hA hval hsz1
  obtain ⟨v0, vs0, d0, ds0, p0, q0, hargs, rfl, rfl, h0, r0⟩ := trodAll_cons hA
  obtain ⟨v1, vs1, d1, ds1, p1, q1, rfl, rfl, rfl, h1, r1⟩ := trodAll_cons r0
  obtain ⟨rfl, rfl, rfl⟩ := trodAll_nil r1
  obtain rfl : args = #[v0, v1] := by cases args; simp_all
  obtain ⟨rfl, rfl⟩ := trodVars_none hV
  have sm : ∀ (j : Nat) (t : TypeId) (d : DataW H), [26, 27][j]? = some t → [d0, d1][j]? = some d → Small t d := fun j t d ht hd k hk => by
    have := List.all_eq_true.1 hsz1 k (DataW.weights_mem_each (j := j) (by simpa using List.getElem?_append_left (l₂ := Rows.fnAsBoolToldSpec.plain.varTypes Tryz.prog) (show j < [26, 27].length from (List.getElem?_eq_some_iff.1 ht).1) |>.trans ht) (by simpa using hd) k hk)
    simpa using this
  obtain ⟨x0, hx0⟩ := open_val (hval 0 26 v0 rfl rfl) h0 (sm 0 _ _ rfl rfl)
  obtain ⟨bs, a1, c1, rfl, hc1, hr1, hb1⟩ := open_bools (hval 1 27 v1 rfl rfl) h1 (sm 1 _ _ rfl rfl)
  clear hA0 hval0
  have hW2 := hW'
  simp only [List.append_nil] at hW'
  refine (law_fnAsBoolTold x0 v0 bs a1 c1 W hx0 hc1 hr1 hb1).mono fun e W' ⟨he, bel⟩ => ?_
  subst he
  have hl0 : ∀ x ∈ p0, x.block < W.heap.size := fun x hx => hW'.lt x (by simp [hx])
  have hl1 : ∀ x ∈ p1, x.block < W.heap.size := fun x hx => hW'.lt x (by simp [hx])
  have t0 := Below.trod laidOutZ (by kernel_rfl) (of_decide_eq_true (by kernel_rfl)) h0 bel hl0
  have t1 := Below.trod laidOutZ (by kernel_rfl) (of_decide_eq_true (by kernel_rfl)) h1 bel hl1
  refine ⟨_, rfl, _, _, _, [], _, [], hW', trodAll_mk1 (shut_bool Tryz.underlying4 _), trodAll_cons_mk t0 (trodAll_cons_mk t1 trodAll_mk0), rfl, bel.frame _, fun h => by cases h⟩

theorem rowZ : Rows.FnAsBoolToldSaid :=
  OpenClaim.holds_of_wide 3 Tryz.f3 rfl rfl rfl rfl rfl rfl rfl ⟨rfl, rfl, rfl, rfl, rfl⟩ rfl rfl rfl rfl rfl (by kernel_rfl) Tryz.func3 (by kernel_rfl)
    (of_decide_eq_true (by kernel_rfl)) (by unfold Func.isWrapper; first | (rw [if_pos (by decide +kernel)]; kernel_rfl) | (rw [if_neg (by decide +kernel)]; exact ⟨rfl, rfl⟩))
    (fun os started H enc _ => liftedZ os started H enc)

theorem FnAsBoolTold_holds : Rows.FnAsBoolToldCardSaid :=
  Claim7.holds_tied_plain_at .later [] [.data, .data, .widerDeep, .widerDeep, .data, .data, .data, .data, .data, .data, .sentinel, .sentinel, .data, .data, .pinned, .pinned, .pinned, .pinned] true (true, "7869b71943db1f3a5cea2294060a30f1976febe21248139c63e65a55ca6247fd") true
    rowZ (fun _ h => by cases h) (by kernel_rfl) (fun _ h => by cases h) fnAsBoolTold_row_tie rfl ⟨rfl, rfl⟩ (by kernel_rfl) rfl
    (fun f fn hf hfn => by
      obtain rfl : f = 3 := Option.some.inj ((show Tryz.prog.funcNamed "pub-hodometer/laws.FnAsBoolTold" = some 3 by kernel_rfl).symm.trans hf) |>.symm
      obtain rfl : fn = Tryz.f3 := (Option.some.inj (Tryz.func3.symm.trans hfn)).symm
      exact ⟨by kernel_rfl, fun j t ht => by
        rw [Tryz.params3] at ht
        have hm : t ∈ [26, 27] := by simpa using Array.mem_of_getElem? ht
        have hall : ([26, 27].all fun u => !Tryz.prog.wantsStandIn u) = true := by kernel_rfl
        exact (show Tryz.prog.wantsStandIn t = false by simpa using List.all_eq_true.1 hall t hm)⟩)
    (by kernel_rfl)
#print axioms FnAsBoolTold_holds
end Go.Proofs.YtedhdkadpibaeaaGreatDoor
