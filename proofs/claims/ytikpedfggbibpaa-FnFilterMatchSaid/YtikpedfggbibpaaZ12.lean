/- Walks: Match of objects, Match. -/
import Derived.Test.YtikpedfggbibpaaZ11
namespace Go.Proofs.Ytikpedfggbibpaa
open Go.RowKit
open Go.ChangeMaps (setBlock)
set_option linter.unusedVariables false
set_option linter.unusedSimpArgs false

theorem Try.zeroAny (w : World) : (zeroValue 20).run Try.prog w = .ok .nilIface w := by kernel_rfl

theorem RMs.keyAt {w : World} {lo : Nat} {l : List J} {es : List MapEntry} {ks : List ByteArray} (h : RMs w lo es 0 ks l) {j : Nat} {e : MapEntry} (he : es[j]? = some e) : ∃ k, ks[j]? = some k ∧ e.key = .string k := by
  have hj : j < l.length := by have := RMs.len h; have := (List.getElem?_eq_some_iff.1 he).1; omega
  obtain ⟨e', k, a, b, c, _⟩ := RMs.get h j hj
  rw [he] at a
  cases a
  exact ⟨k, b, c⟩

theorem lookup_RM (w : World) (m : Nat) (es : Array MapEntry) (ks : List ByteArray) (l : List J) (hm : w.heap[m]? = some (.map es es.size)) (h : RMs w 0 es.toList 0 ks l) (hn : ks.Nodup) (k : ByteArray) :
    ∃ u, (Instr.lookup 77 (.map (some m)) (.string k) false).run Try.prog w = .ok u w ∧ RA w 0 (look ks l k) u := by
  have hlen := RMs.len h
  by_cases hk : k ∈ ks
  · obtain ⟨q, hq, hqk⟩ := List.getElem_of_mem hk
    have hq? : ks[q]? = some k := by rw [List.getElem?_eq_getElem hq, hqk]
    obtain ⟨e, k', a, b, c, d, f⟩ := RMs.get h q (by omega)
    rw [hq?] at b
    cases b
    refine ⟨e.val, run_lookup_hit w _ _ _ Try.underlying77 Try.underlying9 m es es.size hm k q e a c ?_, ?_⟩
    · intro j e' hj he'
      obtain ⟨k2, hk2, hk3⟩ := RMs.keyAt h he'
      refine ⟨k2, hk3, fun e => ?_⟩
      subst e
      have hq2 := (List.getElem?_eq_some_iff.1 hk2).1
      have := (List.getElem?_inj hq2 hn).1 (hk2.trans hq?.symm)
      omega
    · rw [look_hit (by omega) hq? hn]
      exact f
  · refine ⟨.nilIface, run_lookup_miss w _ _ _ Try.underlying77 Try.underlying9 m es es.size hm k _ (Try.zeroAny w) ?_, ?_⟩
    · intro e he
      obtain ⟨j, hj⟩ := List.mem_iff_getElem?.1 he
      obtain ⟨k2, hk2, hk3⟩ := RMs.keyAt h hj
      exact ⟨k2, hk3, fun e => hk (by subst e; exact List.mem_of_getElem? hk2)⟩
    · rw [look_miss hk]
      unfold RA
      rfl

theorem RMs.borns {w : World} {lo : Nat} : ∀ {l : List J} {es : List MapEntry} {i : Nat} {ks : List ByteArray}, RMs w lo es i ks l → es.map (·.born) = List.range' i es.length
  | [], _, _, _, h => by unfold RMs at h; obtain ⟨rfl, rfl⟩ := h; rfl
  | x :: xs, _, i, _, h => by
    unfold RMs at h
    obtain ⟨e, es', k', ks', rfl, rfl, _, h4, _, h6⟩ := h
    simp [RMs.borns h6, h4, List.range'_succ]

theorem Ext.drew {a w : World} (h : Ext a w) : Ext a w.drew := Below.trans h ⟨rfl, rfl, rfl, Nat.le_refl _, fun _ _ => rfl⟩

theorem look_all {p : J → Prop} (h0 : p .null) {k : ByteArray} : ∀ {ks : List ByteArray} {l : List J}, (∀ q, (hq : q < l.length) → p l[q]) → p (look ks l k)
  | [], _, _ => by unfold look; exact h0
  | _ :: _, [], _ => by unfold look; exact h0
  | a :: ks, x :: xs, h => by
    unfold look
    split
    · exact h 0 (by simp)
    · exact look_all h0 fun q hq => h (q + 1) (by simpa using hq)

theorem iterSeen_of {w : World} {r a b d : Nat} {s : Array Nat} (h : w.heap[r]? = some (.mapIter (some a) b s d)) : w.iterSeen r = s := by
  unfold World.iterSeen
  rw [h]
theorem setBlock_same {w : World} {r : Nat} {o o' : Obj} (h : w.heap[r]? = some o) : (setBlock w r o').heap[r]? = some o' := by
  have := (Array.getElem?_eq_some_iff.1 h).1
  simp [setBlock, this]
theorem ext_setBlock {w wr : World} {r : Nat} (h : Ext w wr) (hr : w.heap.size ≤ r) (o : Obj) : Ext w (setBlock wr r o) :=
  Below.trans h ⟨rfl, rfl, rfl, by simp [setBlock], fun k hk => by
    have : r ≠ k := by intro e; omega
    simp [setBlock, this]⟩

set_option maxRecDepth 100000 in
set_option maxHeartbeats 4000000 in
theorem match_obj (N : Nat) (ih : MatchAt N) (ks : List ByteArray) (l : List J) (hN : (J.obj ks l).nodes ≤ N + 1) (hsm : (J.obj ks l).nodes ≤ 1000) (hok : (J.obj ks l).ok) (hnf : J.nofls l) (t : J) (htok : t.ok) (htn : t.nofl) (va vt : Value) (w : World) (hf : RA w 0 (.obj ks l) va) (h : RA w 0 t vt) :
    Calls Try.prog 39 #[va, vt] w (Gives (.bool (jm (.obj ks l) t)) w) := by
  unfold RA at hf
  obtain ⟨bm, es, rfl, _, hbm, hrow⟩ := hf
  cases t with
  | flt b => unfold J.nofl at htn; exact htn.elim
  | null =>
    unfold RA at h; subst h; clear htn htok hok hnf hN ih hsm hrow hbm
    go_enter Try.func39, Try.ntmps39
    go_wp2
    go_ret
    exact .mk (by simp [jm]) (.refl _)
  | bool c =>
    unfold RA at h; subst h; clear htn htok hok hnf hN ih hsm hrow hbm
    go_enter Try.func39, Try.ntmps39
    go_wp2
    go_ret
    exact .mk (by simp [jm]) (.refl _)
  | int c =>
    unfold RA at h; subst h; clear htn htok hok hnf hN ih hsm hrow hbm
    go_enter Try.func39, Try.ntmps39
    go_wp2
    go_ret
    exact .mk (by simp [jm]) (.refl _)
  | str c =>
    unfold RA at h; subst h; clear htn htok hok hnf hN ih hsm hrow hbm
    go_enter Try.func39, Try.ntmps39
    go_wp2
    go_ret
    exact .mk (by simp [jm]) (.refl _)
  | arr m =>
    unfold RA at h; obtain ⟨b, cap, rfl, _⟩ := h; clear htn htok hok hnf hN ih hsm hrow hbm
    go_enter Try.func39, Try.ntmps39
    go_wp2
    go_ret
    exact .mk (by simp [jm]) (.refl _)
  | obj ks' m =>
    unfold RA at h
    obtain ⟨bm2, es2, rfl, _, hbm2, hrow2⟩ := h
    unfold J.ok at htok hok
    unfold J.nofl at htn
    have hlt1 : bm < w.heap.size := (Array.getElem?_eq_some_iff.1 hbm).1
    have hlt2 : bm2 < w.heap.size := (Array.getElem?_eq_some_iff.1 hbm2).1
    have hrg := run_range_map (P := Try.prog) w 77 _ _ bm es es.size Try.underlying77 hbm
    have HBM := Lib.hid hbm
    have HBM2 := Lib.hid hbm2
    have IH := Lib.hid ih
    have HN := Lib.hid hN
    have HSM := Lib.hid hsm
    have HOK := Lib.hid hok
    have HNF := Lib.hid hnf
    have HTOK := Lib.hid htok
    have HTN := Lib.hid htn
    have HR := Lib.hid hrow
    have HR2 := Lib.hid hrow2
    clear ih hN hsm hok hnf htok htn hrow hrow2 hbm hbm2
    go_enter Try.func39, Try.ntmps39
    go_wp2
    go_loopw [] (fun wr => ∃ seen : Array Nat, wr.heap[w.heap.size]? = some (.mapIter (some bm) es.size seen es.size) ∧ (∀ q, (hq : q < ks.length) → (hq' : q < l.length) → seen.contains q = true → jm l[q] (look ks' m ks[q]) = true) ∧ Ext w wr)
      (fun wr => (leftOf es (wr.iterSeen w.heap.size)).size)
    case atStart => exact ⟨#[], heap_alloc_new _ _, fun q _ _ h => by simp at h, (Ext.refl _).alloc _⟩
    case round =>
      obtain ⟨seen, hit, hall, hb⟩ := hrel
      have hbm : wr.heap[bm]? = some (.map es es.size) := (hb.block bm hlt1).trans HBM.out
      have hold : ∀ x ∈ es.toList, x.born < es.size := fun x hx => by
        obtain ⟨j, hj, hj'⟩ := List.mem_iff_getElem.1 hx
        have hl := RMs.len HR.out
        obtain ⟨e', k', a, _, _, d, _⟩ := RMs.get HR.out j (by omega)
        rw [List.getElem?_eq_getElem hj, hj'] at a
        cases a
        simp at hj
        omega
      have law := run_next_at (P := Try.prog) wr 0 w.heap.size bm es.size es.size seen es es.size hit hbm hold (Nat.le_refl _)
      rcases law with ⟨h0, hrun⟩ | ⟨e, he, w1, hw1, hrun⟩
      · have hnx : ∀ ty, (Instr.next (.pointer (some ⟨w.heap.size, 0, none⟩)) false ty).run Try.prog wr = _ := fun _ => hrun
        have hj : jm (.obj ks l) (.obj ks' m) = true := by
          unfold jm
          refine jmo_of fun q h1 h2 => hall q h1 h2 ?_
          obtain ⟨e', k', a, _, _, d, _⟩ := RMs.get HR.out q h2
          have := all_seen es seen h0 e' (List.mem_of_getElem? a)
          rw [d, Nat.zero_add] at this
          exact this
        have HJ := Lib.hid hj
        have HB := Lib.hid hb
        clear hj hb hall hold hrun hbm hit
        go_wp2
        go_ret
        exact .mk (congrArg Value.bool HJ.out.symm) HB.out
      · have hmem := mem_left he
        obtain ⟨j, hj⟩ := List.mem_iff_getElem?.1 hmem.1
        have hlen := RMs.len HR.out
        have hjl : j < l.length := by have := (List.getElem?_eq_some_iff.1 hj).1; omega
        obtain ⟨e', k, a1, a2, a3, a4, a5⟩ := RMs.get HR.out j hjl
        rw [hj] at a1
        cases a1
        have hw1 : Ext w w1 ∧ w1.heap[w.heap.size]? = some (.mapIter (some bm) es.size seen es.size) := by
          rcases hw1 with rfl | rfl
          · exact ⟨hb, hit⟩
          · exact ⟨Ext.drew hb, hit⟩
        have hit2 : (setBlock w1 w.heap.size (.mapIter (some bm) es.size (seen.push e.born) es.size)).heap[w.heap.size]? = some (.mapIter (some bm) es.size (seen.push e.born) es.size) := setBlock_same hw1.2
        have hb2 := ext_setBlock hw1.1 (Nat.le_refl _) (.mapIter (some bm) es.size (seen.push e.born) es.size)
        have hlt9 := left_shrinks es seen e he
        generalize setBlock w1 w.heap.size (.mapIter (some bm) es.size (seen.push e.born) es.size) = w2 at hit2 hb2 hrun
        have hen := run_entry_at (P := Try.prog) w2 w.heap.size bm es.size seen es es.size e hit2 ((hb2.block bm hlt1).trans HBM.out) hmem.1 (by
          rw [RMs.borns HR.out]
          exact List.nodup_range')
        obtain ⟨u, hlk, hru⟩ := lookup_RM w2 bm2 es2 ks' m ((hb2.block bm2 hlt2).trans HBM2.out) (RMs.keep (hb2.keepB.from 0) (Nat.le_refl _) _ HR2.out) HTOK.out.1 k
        have hnx : ∀ ty, (Instr.next (.pointer (some ⟨w.heap.size, 0, none⟩)) false ty).run Try.prog wr = .ok (.tuple #[.bool true, .string k, e.val]) w2 := fun _ => by rw [← a3]; exact hrun
        rw [a3] at hen
        have hch : l[j].nodes ≤ N := by
          have h1 := HN.out
          have h2 := J.nodes_mem (List.getElem_mem hjl)
          simp only [J.nodes] at h1
          omega
        have hch2 : l[j].nodes ≤ 1000 := by
          have h1 := HSM.out
          have h2 := J.nodes_mem (List.getElem_mem hjl)
          simp only [J.nodes] at h1
          omega
        have hra := RA.keep (hb2.keepB.from 0) (Nat.le_refl _) _ a5
        have hlook : (look ks' m k).ok ∧ (look ks' m k).nofl := look_all (p := fun j => j.ok ∧ j.nofl) ⟨by unfold J.ok; trivial, by unfold J.nofl; trivial⟩ fun q hq => ⟨J.oks_get HTOK.out.2.2 q hq, J.nofls_get HTN.out q hq⟩
        have HC := Lib.hid (IH.out l[j] (look ks' m k) hch hch2 (J.oks_get HOK.out.2.2 j hjl) (J.nofls_get HNF.out j hjl) hlook.1 hlook.2 e.val u w2 hra hru)
        have hfe := hra.form
        have hfu := hru.form
        have HIT := Lib.hid hit2
        have HB2 := Lib.hid hb2
        have HL9 := Lib.hid hlt9
        have HIT0 := Lib.hid hit
        have HA := Lib.hid hall
        generalize hjr : jm l[j] (look ks' m k) = res at HC
        have HJR := Lib.hid hjr
        have HQ : Hid (∀ q, (hq : q < ks.length) → (hq' : q < l.length) → (seen.push e.born).contains q = true → q = j ∨ seen.contains q = true) := fun q hq hq' hs => by
          rw [contains_push] at hs
          simp only [Bool.or_eq_true, beq_iff_eq] at hs
          rcases hs with h | h
          · exact Or.inr h
          · exact Or.inl (by omega)
        have HK : Hid (ks[j]? = some k) := a2
        clear he hj hjr hra hru hch hch2 hlook hrun hw1 hit hit2 hb hbm hold hall hmem a2 a3 a4 a5 hlt9 hlen
        generalize e.val = ev at *
        rcases hfe with rfl | ⟨ty, x, rfl⟩ <;> rcases hfu with rfl | ⟨ty', x', rfl⟩
        all_goals
          go_wp2_with (go_at_call 39; refine (HC.out).mono ?_; rintro e0 w3 ⟨rfl, hb3⟩; have HB3 := Lib.hid hb3; clear hb3 HC; cases res)
          · go_ret
            have h3 : jm (.obj ks l) (.obj ks' m) = false := Bool.eq_false_iff.2 (fun hh => by
              unfold jm at hh
              have hjk := (List.getElem?_eq_some_iff.1 HK.out)
              obtain ⟨hj1, hj2⟩ := hjk
              have := jmo_get hh j hj1 hjl
              rw [hj2, HJR.out] at this
              cases this)
            exact .mk (congrArg Value.bool h3.symm) (HB2.out.trans HB3.out)
          · go_roundw
            case rel => exact ⟨seen.push e.born, (HB3.out.block _ (Array.getElem?_eq_some_iff.1 HIT.out).1).trans HIT.out, fun q hq hq' hs => by
              rcases HQ.out q hq hq' hs with h | h
              · subst h
                obtain ⟨hj1, hj2⟩ := List.getElem?_eq_some_iff.1 HK.out
                rw [hj2]
                exact HJR.out
              · exact HA.out q hq hq' h, HB2.out.trans HB3.out⟩
            case measure =>
              rw [iterSeen_of ((HB3.out.block _ (Array.getElem?_eq_some_iff.1 HIT.out).1).trans HIT.out), iterSeen_of HIT0.out]
              exact HL9.out

theorem match_any : ∀ N, MatchAt N
  | 0 => fun f t h => by have := f.nodes_pos; omega
  | N + 1 => fun f t hN hsm hok hnf htok htn va vt w hf ht => by
    cases f with
    | null => unfold RA at hf; subst hf; exact match_null t htn vt w ht
    | bool a => unfold RA at hf; subst hf; exact match_bool a t htn vt w ht
    | int a => unfold RA at hf; subst hf; exact match_int a t htn vt w ht
    | str a => unfold RA at hf; subst hf; exact match_str a t htn vt w ht
    | flt a => unfold J.nofl at hnf; exact hnf.elim
    | arr l => exact match_arr N (match_any N) l hN hsm (by simpa [J.ok] using hok) (by simpa [J.nofl] using hnf) t htok htn va vt w hf ht
    | obj ks l => exact match_obj N (match_any N) ks l hN hsm hok (by simpa [J.nofl] using hnf) t htok htn va vt w hf ht
end Go.Proofs.Ytikpedfggbibpaa
