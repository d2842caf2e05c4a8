/- Walks: allKeys. -/
import Derived.Test.YtikpedfggbibpaaDp
namespace Go.Proofs.Ytikpedfggbibpaa
open Go.RowKit Go.Lib
set_option linter.unusedVariables false
set_option linter.unusedSimpArgs false

theorem KS.news {w : World} {a : Option Addr} {ks : List ByteArray} (h : KS w a ks) : 0 < ks.length → ∃ b, a = some b ∧ ∀ j u, (ks.map Value.string)[j]? = some u → w.cell? (b.add j) = some u := fun h0 => by
  obtain ⟨b, o, e, hc⟩ := h (by intro e; subst e; simp at h0)
  refine ⟨_, e, fun j u hu => ?_⟩
  obtain ⟨hj, rfl⟩ := List.getElem?_eq_some_iff.1 hu
  rw [Addr.add_lit, hc j (by simpa using hj)]
  simp
set_option maxRecDepth 20000 in
set_option maxHeartbeats 2000000 in
theorem allKeys_any (ks ks' : List ByteArray) (l l' : List J) (hsm : ks.length + ks'.length ≤ 100000) (va vb : Value) (w : World) (ha : RV w (V.ofJ (.obj ks l)) va) (hb : RV w (V.ofJ (.obj ks' l')) vb) :
    Calls Try.prog 70 #[va, vb] w fun e w' => KeysPost (ks ++ ks') w e w' ∧ Ext w w' := by
  unfold V.ofJ RV at ha hb
  obtain ⟨al, lc, ak, kc, rfl, z, hl, hk⟩ := ha
  obtain ⟨al', lc', ak', kc', rfl, z', hl', hk'⟩ := hb
  rw [V.ofJs_length, V.ofJs_length]
  obtain ⟨i0, hi, hz0, hz1, hz2⟩ := info_parts Try.infoStr
  have hks16 : ks.length * 16 ≤ reachN := by unfold reachN; omega
  have HCL : Hid (∀ w1, Ext w w1 → Calls Try.prog 44 #[.slice ak ks.length kc] w1 fun e w' => ∃ v', e = .returned v' ∧ OwnStrs w' w1.heap.size v' ks ∧ Ext w1 w') := fun w1 h1 => clone_strs ak kc ks w1 (hk.keep h1.keep) hks16
  have HK2 := Lib.hid hk'
  have HSM := Lib.hid hsm
  clear hl hk hl' hk' z z' hsm hks16
  generalize hlen1 : l.length = L1 at *
  generalize hlen2 : l'.length = L2 at *
  clear hlen1 hlen2
  go_enter Try.func70, Try.ntmps70
  go_wp2_with fail
  generalize hw2 : World.alloc (World.alloc w _) _ = w2
  have X2 : Ext w w2 := by rw [← hw2]; exact ((Ext.refl _).alloc _).alloc _
  have s1 : w2.cell? ⟨w.heap.size, 5, none⟩ = some (.slice ak ks.length kc) := by rw [← hw2]; simp
  have s2 : w2.cell? ⟨w.heap.size + 1, 5, none⟩ = some (.slice ak' ks'.length kc') := by
    rw [← hw2]
    have h9 := fun (A : Obj) (cs : Array Value) (t : TypeId) => cell_of_row ((w.alloc A).alloc (.cells cs t)) (w.heap.size + 1) 5 cs t (0, 0) (by rw [← World.size_alloc w A]; exact heap_alloc_new _ _)
    exact (h9 _ _ _).trans rfl
  have HX2 := Lib.hid X2
  have d1 : w2.drew.cell? ⟨w.heap.size, 5, none⟩ = some (.slice ak ks.length kc) := s1
  have d2 : w2.drew.cell? ⟨w.heap.size + 1, 5, none⟩ = some (.slice ak' ks'.length kc') := s2
  have HKS2 := Lib.hid (HK2.out.keep X2.keep)
  clear hw2 HK2 X2
  go_region_held3 (fun w' => w'.cell? ⟨w.heap.size, 5, none⟩ = some (.slice ak ks.length kc) ∧ w'.cell? ⟨w.heap.size + 1, 5, none⟩ = some (.slice ak' ks'.length kc'))
    (first
      | (go_split_ands
         with_reducible exact ⟨k4.get d1, k4.get d2⟩)
      | (go_split_ands
         with_reducible exact ⟨k1.get d1, k1.get d2⟩)
      | (go_split_ands
         with_reducible exact ⟨s1, s2⟩)
      | (go_split_ands
         with_reducible exact ⟨d1, d2⟩)
      | go_keep)
    (first
      | (go_at_call 44; refine (HCL.out _ (Ext.drew HX2.out)).mono ?_; rintro e w3 ⟨v3, rfl, ho, hb1⟩; have HO := Lib.hid ho; have HB1 := Lib.hid hb1; have k1 := hb1.keep; have HN3 := Lib.hid ((HKS2.out.keep k1).news); clear ho hb1)
      | (refine step_append_any rfl (.tmp 8) (.tmp 10) 24 rfl _ 9 i0 (.string ByteArray.empty) 1 16 Try.underlying24 hi hz0 hz1 hz2 rfl (by decide) v3 ks.length _ rfl HO.out ak' ks'.length kc' (ks'.map Value.string) rfl (by simp) HN3.out (by intro u hu; simp at hu; obtain ⟨k, _, rfl⟩ := hu; rfl) (by have := HSM.out; unfold maxLen; omega) (by have := HSM.out; omega) HB1.out.size ?_
         intro v4 w4 hown hgrow
         have HOWN := Lib.hid hown
         have HX4 : Hid (Ext w2.drew w4) := HB1.out.grown hgrow HB1.out.size (fun k hk => (HO.out.lt k hk).1)
         have k4 := HX4.out.keep
         clear hown hgrow))
  have HOW : Hid (OwnStrs w4 w2.drew.heap.size v4 (ks ++ ks')) := by
    unfold OwnStrs
    rw [List.length_append, List.map_append]
    exact HOWN.out
  have HKL : Hid ((ks ++ ks').length * 16 ≤ reachN) := by
    have h9 : ks.length + ks'.length ≤ 100000 := HSM.out
    have h8 : (ks ++ ks').length = ks.length + ks'.length := List.length_append
    show (ks ++ ks').length * 16 ≤ reachN
    unfold reachN
    omega
  clear s1 s2 d1 d2 k1 k4 HN3 HO HB1 HCL HKS2
  go_wp2_with (first
    | (go_at_call 77; refine (sort_strs w2.drew.heap.size v4 (ks ++ ks') _ HOW.out HKL.out).mono ?_; rintro e w5 ⟨rfl, ho5, hg5⟩; have HO5 := Lib.hid ho5; have HG5 := Lib.hid hg5; clear ho5 hg5)
    | (go_at_call 81; refine (compact_keys w2.drew.heap.size v4 (ks ++ ks') _ HO5.out HKL.out).mono ?_; rintro e w6 ⟨⟨a6, c6, K6, rfl, h61, h62, h63⟩, hg6⟩; have HG6 := Lib.hid hg6; have H61 := Lib.hid h61; have H62 := Lib.hid h62; have H63 := Lib.hid h63; clear hg6 h61 h62 h63))
  go_ret
  have x4 : Ext w w4 := (Ext.drew HX2.out).trans HX4.out
  have x5 : Ext w w5 := x4.grown HG5.out x4.size (fun k hk => by have := (HOW.out.lt k hk).1; have := (Ext.drew HX2.out).size; omega)
  exact ⟨⟨a6, c6, K6, rfl, H61.out, H62.out, H63.out⟩, x5.grown HG6.out x5.size (fun k hk => by have := (HO5.out.lt k hk).1; have := (Ext.drew HX2.out).size; omega)⟩
end Go.Proofs.Ytikpedfggbibpaa
