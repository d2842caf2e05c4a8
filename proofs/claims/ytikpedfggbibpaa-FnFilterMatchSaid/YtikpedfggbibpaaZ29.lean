/- Walks: diff of two arrays. -/
import Derived.Test.YtikpedfggbibpaaZ28
namespace Go.Proofs.Ytikpedfggbibpaa
open Go.RowKit Go.Lib
set_option linter.unusedVariables false
set_option linter.unusedSimpArgs false

theorem RAs.at {w wr : World} {b : Nat} {l : List J} (h : RAs w 0 b 0 l) (k : Ext w wr) (i : Nat) (hi : i < l.length) : ∃ u, wr.cell? ⟨b, i, none⟩ = some u ∧ RA wr 0 (arrGet l i) u := by
  obtain ⟨u, h1, h2⟩ := RAs.get h i hi
  rw [Nat.zero_add] at h1
  rw [arrGet_eq hi]
  exact ⟨u, k.keep _ _ h1, RA.keep (k.keepB.from 0) (Nat.le_refl _) _ h2⟩
theorem DP.shape {w : World} {B : Nat} {v : Value} {A : List DI} (h : DP w B v A [] [] none) : ∃ ad cd, v = .slice ad A.length cd ∧ (A ≠ [] → ∃ gd cur, ad = some ⟨gd, 0, none⟩ ∧ w.heap[gd]? = some (.cells cur 86 (0, 0)) ∧ DRow w gd A) := by
  rcases h.row.2 with ⟨e, h0⟩ | ⟨g, cap, cur, rfl, hb, hh, hc, rest⟩
  · have : A = [] := List.length_eq_zero_iff.1 h0
    subst this
    exact ⟨none, 0, e, fun hn => absurd rfl hn⟩
  · refine ⟨_, cap, rfl, fun _ => ⟨g, cur, rfl, hh, fun i d hd => ?_⟩⟩
    have := h.row.cells (g := g) rfl i (dval d) (by rw [List.getElem?_map, hd]; rfl)
    rw [Addr.add_lit, Nat.zero_add] at this
    exact this
theorem DRow.same {w w' : World} {g : Nat} {A : List DI} (h : DRow w g A) (e : w'.heap[g]? = w.heap[g]?) : DRow w' g A := fun i d hd => by
  rw [World.cell?_of_block (a := ⟨g, i, none⟩) e]
  exact h i d hd

/-- an ignored path is handed on without its first step -/
theorem wpList_ign {ops : Array Oper} {rest : List Oper} {o : Oper} {a : Act} {Q : Exit → Act → World → Prop} (s x : Operand) (hgd : o.guard = none)
    (ho : o.op = .call { callee := .builtin .append, args := #[s, x], argTypes := #[84, 84] })
    (w1 : World) (bq oq cq : Nat) (q : List (Option Step)) (h0 : 0 < q.length) (h4 : q.length ≤ 4) (hqc : q.length ≤ cq) (hc : ∀ i, (h : i < q.length) → w1.cell? ⟨bq, oq + i, none⟩ = some (ival q[i]))
    (H : Nat) (hH : w1.heap.size = H) (hs : a.eval s = .slice none 0 0) (hx : a.eval x = .slice (some ⟨H, 0, none⟩) 1 1)
    (h : ∀ g c w', IgAt w' (.slice (some ⟨g, 0, none⟩) 1 c) (some q) → Ext w1 w' → wpList Try.prog ops Q rest (a.put o.dst (.slice (some ⟨g, 0, none⟩) (0 + 1) c)) w') :
    wpList Try.prog ops Q (o :: rest) a (w1.alloc (.cells #[.slice (some ⟨bq, oq, none⟩) q.length cq] 86)) := by
  obtain ⟨i0, hi, hz0, hz1, hz2⟩ := info_parts Try.infoAPath
  subst hH
  refine wpList_append_lies _ hgd s x 84 ho w1.heap.size 86 i0 (.slice none 0 0) 1 24 Try.underlying84 hi hz0 hz1 hz2 rfl (by decide) (.slice none 0 0) 0 [] hs (World.ownsRow_nil _ _ _ _)
    ⟨w1.heap.size, 0, none⟩ 1 1 [.slice (some ⟨bq, oq, none⟩) q.length cq] hx rfl (cell_one_new _ _ _) (by intro u hu; simp at hu; subst hu; rfl) (by decide) (by unfold maxLen; omega) (by omega) (by simp) (w1.heap.size + 1) (by simp) ?_
  intro g c w' hown hgrow hat hlt
  have hx1 : Ext w1 w' := ((Ext.refl w1).alloc (.cells #[.slice (some ⟨bq, oq, none⟩) q.length cq] 86)).grown hgrow (by simp) (fun k hk => by cases hk)
  refine h g c w' ⟨g, 0, c, bq, oq, cq, rfl, ?_, hqc, h0, h4, fun i hi => hx1.keep _ _ (hc i hi)⟩ hx1
  have := hown.cells (g := g) rfl 0 (.slice (some ⟨bq, oq, none⟩) q.length cq) rfl
  rw [Addr.add_lit] at this
  exact this

/-- what a round over the differences of a part knows -/
structure DIn (w w4 wr : World) (st : Step) (v : Value) (A A' D : List DI) (ad : Option Addr) (cd j : Nat) : Prop where
  dp : DP wr w.heap.size v A' [] (D.drop j) (Value.slice ad D.length cd).ownBlock
  path : A'.map (·.2.2) = A.map (·.2.2) ++ (D.take j).map (fun d => st :: d.2.2)
  same : ∀ gd, ad = some ⟨gd, 0, none⟩ → wr.heap[gd]? = w4.heap[gd]?
  ext : Ext w wr
  size : w4.heap.size ≤ wr.heap.size
theorem DIn.len {w w4 wr : World} {st : Step} {v : Value} {A A' D : List DI} {ad : Option Addr} {cd j : Nat} (h : DIn w w4 wr st v A A' D ad cd j) : A'.length ≤ A.length + D.length := by
  have h1 := congrArg List.length h.path
  simp only [List.length_map, List.length_append, List.length_take] at h1
  omega
/-- one more has been told -/
theorem DIn.step {w w4 wr wS w' : World} {st : Step} {v v' : Value} {A A' D : List DI} {gd cd j dg dc : Nat} {dp : List Step} {d' : DI} (h : DIn w w4 wr st v A A' D (some ⟨gd, 0, none⟩) cd j) (hd : D[j]? = some (dg, dc, dp)) (hp : d'.2.2 = st :: dp)
    (hS : wS.heap[gd]? = wr.heap[gd]?) (hSs : wr.heap.size ≤ wS.heap.size) (hgd : gd < wr.heap.size) (hne : v.ownBlock ≠ some gd) (hdp : DP w' w.heap.size v' (A' ++ [d']) [] (D.drop (j + 1)) (some gd)) (hx : Ext w w') (hg : wS.grownBy w' v.ownBlock) : DIn w w4 w' st v' A (A' ++ [d']) D (some ⟨gd, 0, none⟩) cd (j + 1) := by
  obtain ⟨h1, h2⟩ := List.getElem?_eq_some_iff.1 hd
  refine ⟨hdp, ?_, fun g hgg => ?_, hx, Nat.le_trans h.size (Nat.le_trans hSs hg.size)⟩
  · rw [List.take_succ_eq_append_getElem h1, h2, List.map_append, List.map_append, h.path]
    simp [hp]
  · have e : g = gd := by simpa using hgg.symm
    subst e
    exact ((hg.block g (by omega) (fun e => hne e.symm)).trans hS).trans (h.same g rfl)
theorem perm_arr {n : Nat} {g : Ig} {l mm : List J} {m : Nat} {A A' D : List DI} (h : (A.map (·.2.2)).Perm (arrPre n g l mm m)) (hsk : igSkip g (.nth (m : Int)) = false) (hD : (D.map (·.2.2)).Perm (difF n (igSub g (.nth (m : Int))) (arrGet l m) (arrGet mm m)))
    (hp : A'.map (·.2.2) = A.map (·.2.2) ++ D.map (fun d => Step.nth (m : Int) :: d.2.2)) : (A'.map (·.2.2)).Perm (arrPre n g l mm (m + 1)) := by
  rw [hp, arrPre_succ]
  refine h.append ?_
  unfold under1
  rw [hsk]
  have := hD.map (Step.nth (m : Int) :: ·)
  rw [List.map_map] at this
  simpa [Function.comp_def] using this

set_option maxRecDepth 100000 in
set_option maxHeartbeats 16000000 in
theorem diff_arr (n : Nat) (ih : DiffAt n) (l mm : List J) (hN : (J.arr l).nodes + (J.arr mm).nodes ≤ n + 1) (hlok : J.oks l) (hlnf : J.nofls l) (hmok : J.oks mm) (hmnf : J.nofls mm) (hl1 : (J.arr l).nodes ≤ 1000) (hm1 : (J.arr mm).nodes ≤ 1000)
    (g : Ig) (hg : IgOk g) (hev : g = none ∨ evenF (n + 1) (.arr l) (.arr mm)) (va vb vg : Value) (w : World) (h1 : RA w 0 (.arr l) va) (h2 : RA w 0 (.arr mm) vb) (h3 : IgAt w vg g) :
    Calls Try.prog 92 #[va, vb, .bool false, vg] w (DiffPost (n + 1) g (.arr l) (.arr mm) w) := by
  unfold RA at h1 h2
  obtain ⟨b1, cap1, rfl, _, hcap1, hrow1⟩ := h1
  obtain ⟨b2, cap2, rfl, _, hcap2, hrow2⟩ := h2
  have hll : l.length ≤ 1000 := by have := J.nodesL_len l; simp only [J.nodes] at hl1; omega
  have hml : mm.length ≤ 1000 := by have := J.nodesL_len mm; simp only [J.nodes] at hm1; omega
  have HR1 := Lib.hid hrow1
  have HR2 := Lib.hid hrow2
  have IH := Lib.hid ih
  have HN := Lib.hid hN
  have HLO := Lib.hid hlok
  have HLN := Lib.hid hlnf
  have HMO := Lib.hid hmok
  have HMN := Lib.hid hmnf
  have HL1 := Lib.hid hl1
  have HM1 := Lib.hid hm1
  have HG := Lib.hid hg
  have HEV := Lib.hid hev
  have HIG := Lib.hid h3
  have HLEQ : Hid (igIsNone g = false → l.length = mm.length) := fun h => by
    rcases hev with e | e
    · rw [e] at h; cases h
    · exact e.1
  obtain ⟨ag, ng, cg, rfl, hng, hn0⟩ := h3.slice
  have HN0 := Lib.hid hn0
  have HNGL := Lib.hid hng
  clear hng
  clear hrow1 hrow2 ih hN hlok hlnf hmok hmnf hl1 hm1 hg hev h3 hn0 hcap1 hcap2
  obtain ⟨i0, hi, hz0, hz1, hz2⟩ := info_parts Try.infoAPath
  go_enter Try.func92, Try.ntmps92
  go_wp2
  go_loopw [29, 30, 210] (fun ci ii c wr => ∃ m : Nat, ∃ k : Int, m ≤ ng ∧ c = .int .i64 m ∧ ii = .int .i64 k ∧ (m = 0 → ci = .slice none 0 0 ∧ k = -1) ∧ (m = ng → ChI wr ci k g ∧ ∃ a9 n9 c9, ci = .slice a9 n9 c9) ∧ Ext w wr) (fun _ _ c _ => ng - (intOf c).toNat)
  case atStart =>
    refine ⟨0, -1, Nat.zero_le _, rfl, rfl, fun _ => ⟨rfl, rfl⟩, fun e => ⟨?_, none, 0, 0, rfl⟩, Ext.refl _⟩
    have hgn := HN0.out.1 e.symm
    subst hgn
    exact ChI.none_of fun i => rfl
  case round =>
    obtain ⟨m, k, hm, rfl, rfl, hst, hfin, hx⟩ := hrel
    by_cases hlt : m < ng
    · have hm0 : m = 0 := by have := HNGL.out; omega
      have hng1 : ng = 1 := by have := HNGL.out; omega
      obtain ⟨q, rfl⟩ : ∃ q, g = some q := by
        cases g with
        | none => exact absurd (HN0.out.2 rfl) (by omega)
        | some q => exact ⟨q, rfl⟩
      subst hm0
      obtain ⟨rfl, rfl⟩ := hst rfl
      have HNG : Hid (ng = 1) := hng1
      clear hng1
      obtain ⟨bg, og, cg2, bq, oq, cq, hge, hq1, hq2, hq3, hq4, hq5⟩ := HIG.out
      simp only [Value.slice.injEq] at hge
      obtain ⟨rfl, -, rfl⟩ := hge
      have f1 := hx.keep _ _ hq1
      have f2 := hx.keep _ _ (hq5 0 hq3)
      have HX := Lib.hid hx
      rw [Nat.add_zero] at f2
      clear hst hfin hx hm hq1
      rcases q with _ | ⟨x, q⟩
      · simp at hq3
      rcases q with _ | ⟨y, r⟩
      · simp only [List.length_singleton] at f1
        clear hq2 hq3 hq4 hq5 f2
        go_wp2
        go_roundw
        case rel => exact ⟨1, -1, by have := HNG.out; omega, by go_num, rfl, fun e => by omega, fun _ => ⟨ChI.none_of fun i => rfl, none, 0, 0, rfl⟩, HX.out⟩
        case measure => (have := HNG.out; simp [intOf]; omega)
      · have HC5 : Hid (∀ i, (h : i < (y :: r).length) → wr.cell? ⟨bq, oq + 1 + i, none⟩ = some (ival (y :: r)[i])) := fun i hi => by
          have := HX.out.keep _ _ (hq5 (i + 1) (by simpa using hi))
          rw [show oq + (i + 1) = oq + 1 + i from by omega] at this
          simpa using this
        simp only [List.length_cons] at f1 hq2 hq4
        simp only [List.getElem_cons_zero] at f2
        have hc1 : ¬ cq = 1 := by omega
        have hr0 : (0 : Int) ≤ (r.length : Int) := by omega
        have hr1 : (1 : Int) < (r.length : Int) + 1 + 1 := by omega
        have hr2 : (1 : Int) ≤ (r.length : Int) + 1 + 1 := by omega
        have hr3 : ((r.length : Int) + 1 + 1) ≤ (cq : Int) := by omega
        have HCQ : Hid ((y :: r).length ≤ cq - 1 ∧ (y :: r).length ≤ 4) := ⟨by simp; omega, by simp; omega⟩
        clear hq3 hq5
        rcases x with _ | st
        · simp only [ival] at f2
          go_wp2_with (at_builtin; refine wpList_ign (.tmp 221) (.tmp 224) rfl rfl wr bq (oq + 1) (cq - 1) (y :: r) (by simp) HCQ.out.2 HCQ.out.1 HC5.out wr.heap.size rfl rfl rfl ?_; intro g9 c9 w9 hg9 hx9; have HG9 := Lib.hid hg9; have HX9 := Lib.hid hx9; clear hg9 hx9)
          go_roundw
          case rel => exact ⟨1, -1, by have := HNG.out; omega, by go_num, rfl, fun e => by omega, fun _ => ⟨fun i => ⟨fun _ => HG9.out, fun h => absurd (Or.inr (by omega)) h⟩, _, _, _, rfl⟩, Ext.trans HX.out HX9.out⟩
          case measure => (have := HNG.out; simp [intOf]; omega)
        · rcases st with s1 | n1
          · simp only [ival, Step.val] at f2
            go_wp2
            go_roundw
            case rel => exact ⟨1, -1, by have := HNG.out; omega, by go_num, rfl, fun e => by omega, fun _ => ⟨ChI.none_of fun i => rfl, none, 0, 0, rfl⟩, HX.out⟩
            case measure => (have := HNG.out; simp [intOf]; omega)
          · simp only [ival, Step.val] at f2
            have HN1 : Hid (0 ≤ n1) := HG.out n1 (by simp)
            go_wp2_with (at_builtin; refine wpList_ign (.tmp 230) (.tmp 233) rfl rfl wr bq (oq + 1) (cq - 1) (y :: r) (by simp) HCQ.out.2 HCQ.out.1 HC5.out wr.heap.size rfl rfl rfl ?_; intro g9 c9 w9 hg9 hx9; have HG9 := Lib.hid hg9; have HX9 := Lib.hid hx9; clear hg9 hx9)
            go_roundw
            case rel =>
              refine ⟨1, n1, by have := HNG.out; omega, by go_num, rfl, fun e => by omega, fun _ => ⟨fun i => ⟨fun h => ?_, fun h => ?_⟩, _, _, _, rfl⟩, Ext.trans HX.out HX9.out⟩
              · have hp := HN1.out
                have he : n1 = (i : Int) := by omega
                have : igSub (some (some (Step.nth n1) :: y :: r)) (.nth (i : Int)) = some (y :: r) := by simp [igSub, igM, Step.eqb, he]
                rw [this]
                exact HG9.out
              · have he : ¬ n1 = (i : Int) := fun e => h (Or.inl e)
                simp [igSub, igM, Step.eqb, he]
            case measure => (have := HNG.out; simp [intOf]; omega)
    · obtain rfl : ng = m := by omega
      obtain ⟨hch, a9, n9, c9, rfl⟩ := hfin rfl
      have HCH := Lib.hid hch
      have HX := Lib.hid hx
      clear hst hfin hch hx hlt hm
      go_wp2
      obtain ⟨wo, rfl⟩ : ∃ wo : World, wo = wr := ⟨_, rfl⟩
      go_loopw [8, 238] (fun v i wr => ∃ m : Nat, ∃ A : List DI, m ≤ l.length ∧ m ≤ mm.length ∧ i = .int .i64 m ∧ DP wr wo.heap.size v A [] [] none ∧ (A.map (·.2.2)).Perm (arrPre n g l mm m) ∧ Ext wo wr)
        (fun _ i _ => l.length - (intOf i).toNat)
      case atStart => exact ⟨0, [], Nat.zero_le _, Nat.zero_le _, rfl, DP.nil _ _, by simp [arrPre], Ext.refl _⟩
      case round =>
        obtain ⟨m, A, hm, hmm, rfl, hdp, hperm, hx2⟩ := hrel
        have HDP := Lib.hid hdp
        have HPM := Lib.hid hperm
        have HX2 : Hid (Ext w wr) := HX.out.trans hx2
        have HXR := Lib.hid hx2
        have hAlen : A.length ≤ 2000 := by
          have h1 := hperm.length_eq
          rw [List.length_map] at h1
          have h2 := arrPre_len n g l mm HLO.out HMO.out m hm hmm
          have h3 := nodesL_take_le l m
          have h4 := nodesL_take_le mm m
          have h5 := HL1.out
          have h6 := HM1.out
          simp only [J.nodes] at h5 h6
          omega
        have HALN := Lib.hid hAlen
        clear hdp hperm hx2 hAlen
        by_cases hltm : m < l.length
        · obtain ⟨x1, hx1, hra1⟩ := HR1.out.at HX2.out m hltm
          have HRA1 := Lib.hid hra1
          have HII : Hid (Calls Try.prog 103 #[.int .i64 (m : Int), .slice ag ng cg] wr fun e w' => e = .returned (.bool (igSkip g (.nth (m : Int)))) ∧ wr = w') := (ignoreIndex_any (m : Int) _ g wr (HIG.out.keep HX2.out.keep)).mono fun _ _ h => ⟨h.1, h.2.symm⟩
          generalize hsk : igSkip g (.nth (m : Int)) = sk at HII
          have HSK := Lib.hid hsk
          clear hra1 hsk
          cases sk with
          | true =>
            have hlm : m + 1 ≤ mm.length := by
              have : igIsNone g = false := by
                cases g with
                | none => cases HSK.out
                | some _ => rfl
              have := HLEQ.out this
              omega
            go_wp2_with (go_at_call 103; refine (HII.out).mono ?_; rintro e w' ⟨rfl, rfl⟩)
            go_roundw
            case rel => exact ⟨m + 1, A, by omega, hlm, by go_num, HDP.out, by rw [arrPre_succ]; simpa [under1, HSK.out] using HPM.out, HXR.out⟩
            case measure => simp [intOf]; omega
          | false =>
            by_cases hltq : m < mm.length
            · obtain ⟨x2, hx2, hra2⟩ := HR2.out.at HX2.out m hltq
              have HRA2 := Lib.hid hra2
              clear hra2
              have hn1 := arrGet_lt (l := l) hltm
              have hn2 := arrGet_lt (l := mm) hltq
              have HCALL : ∀ civ, IgAt wr civ (igSub g (.nth (m : Int))) → Hid (Calls Try.prog 92 #[x1, x2, .bool false, civ] wr (DiffPost n (igSub g (.nth (m : Int))) (arrGet l m) (arrGet mm m) wr)) := fun civ hc => IH.out _ _ (by have := HN.out; omega) (arrGet_ok HLO.out hltm) (arrGet_nofl HLN.out hltm) (arrGet_ok HMO.out hltq) (arrGet_nofl HMN.out hltq) (by have := HL1.out; omega) (by have := HM1.out; omega) _ (igOk_sub HG.out _) (by
                rcases HEV.out with e | e
                · left; rw [e]; rfl
                · right; exact e.2 m hltm) x1 x2 civ wr HRA1.out HRA2.out hc
              have hchm := HCH.out m
              clear hn1 hn2
              have HCC : Hid (∃ civ : Value, (((k == (m : Int)) = true ∧ civ = .slice a9 n9 c9) ∨ ((k == (m : Int)) = false ∧ k < 0 ∧ civ = .slice a9 n9 c9) ∨ ((k == (m : Int)) = false ∧ 0 ≤ k ∧ civ = .slice none 0 0)) ∧ IgAt wr civ (igSub g (.nth (m : Int)))) := by
                by_cases e1 : k = (m : Int)
                · exact ⟨_, Or.inl ⟨by simp [e1], rfl⟩, (hchm.1 (Or.inl e1)).keep HXR.out.keep⟩
                · by_cases e2 : k < 0
                  · exact ⟨_, Or.inr (Or.inl ⟨by simp [e1], e2, rfl⟩), (hchm.1 (Or.inr e2)).keep HXR.out.keep⟩
                  · refine ⟨_, Or.inr (Or.inr ⟨by simp [e1], by omega, rfl⟩), ?_⟩
                    rw [hchm.2 (fun h => h.elim e1 e2)]
                    exact ⟨none, 0, rfl⟩
              clear hchm
              obtain ⟨civ, hciv, hcig⟩ := HCC.out
              have HCL := HCALL civ hcig
              clear hcig HCALL HCC
              rcases hciv with ⟨e1, rfl⟩ | ⟨e1, e2, rfl⟩ | ⟨e1, e2, rfl⟩
              all_goals
                go_wp2_with (first
                  | (go_at_call 103; refine (HII.out).mono ?_; rintro e w' ⟨rfl, rfl⟩)
                  | (go_at_call 92; refine (HCL.out).mono ?_; rintro e w4 ⟨vds, D, rfl, hpD, hdD, hx4⟩; obtain ⟨ad, cd, rfl, hsh⟩ := hdD.shape
                     have HSH := Lib.hid hsh
                     have HPD := Lib.hid hpD
                     have HX4 := Lib.hid hx4
                     have HDI : Hid (DIn wo w4 w4 (.nth (m : Int)) u8 A A D ad cd 0) := ⟨HDP.out.take (Ext.refl wr) hx4 hdD HXR.out.size, by simp, fun _ _ => rfl, Ext.trans HXR.out hx4, Nat.le_refl _⟩
                     have hbd : D.length ≤ 2000 ∧ (∀ d ∈ D, d.2.2.length ≤ 1000000) := by
                       have h1 := hpD.length_eq
                       rw [List.length_map] at h1
                       have a1 := arrGet_ok HLO.out hltm
                       have a2 := arrGet_ok HMO.out hltq
                       have h2 := difF_len_le n (arrGet l m) (arrGet mm m) (igSub g (.nth (m : Int))) a1 a2
                       have h3 := arrGet_lt (l := l) hltm
                       have h4 := arrGet_lt (l := mm) hltq
                       have h5 := HL1.out
                       have h6 := HM1.out
                       refine ⟨by omega, fun d hd => ?_⟩
                       have h7 := difF_path_le n (arrGet l m) (arrGet mm m) (igSub g (.nth (m : Int))) a1 a2 d.2.2 (hpD.mem_iff.1 (List.mem_map.2 ⟨d, hd, rfl⟩))
                       omega
                     have hDl : D.length ≤ 2000 := hbd.1
                     have HBD : Hid (A.length + D.length ≤ 1000000) := by have := HALN.out; refine Lib.hid ?_; omega
                     have HPL : Hid (∀ d ∈ D, d.2.2.length ≤ 1000000) := hbd.2
                     clear hsh hpD hdD hx4 hbd HCL))
                obtain ⟨w2o, rfl⟩ : ∃ w2o : World, w2o = wr := ⟨_, rfl⟩
                go_loopw [8, 280] (fun v i wr => ∃ j : Nat, ∃ A' : List DI, j ≤ D.length ∧ i = .int .i64 j ∧ DIn wo w4 wr (Step.nth (m : Int)) v A A' D ad cd j) (fun _ i _ => D.length - (intOf i).toNat)
                case atStart => exact ⟨0, A, Nat.zero_le _, rfl, HDI.out⟩
                case round =>
                  obtain ⟨j, A', hj, rfl, hin⟩ := hrel
                  have HIN := Lib.hid hin
                  clear hin
                  by_cases hltj : j < D.length
                  · obtain ⟨⟨dg, dc, dp⟩, hdj⟩ : ∃ d, D[j]? = some d := ⟨D[j], List.getElem?_eq_getElem hltj⟩
                    have hD0 : D ≠ [] := fun e => by rw [e] at hltj; simp at hltj
                    obtain ⟨gd, cur, rfl, hgc, hdrow⟩ := HSH.out hD0
                    have hdrop : D.drop j = (dg, dc, dp) :: D.drop (j + 1) := by
                      obtain ⟨h1, h2⟩ := List.getElem?_eq_some_iff.1 hdj
                      rw [List.drop_eq_getElem_cons h1, h2]
                    have hdp5 : DP wr wo.heap.size u8 A' [] ((dg, dc, dp) :: D.drop (j + 1)) (some gd) := by
                      have := HIN.out.dp
                      rw [hdrop] at this
                      exact this
                    have hap := (hdp5.all (dg, dc, dp) (by simp)).2
                    have hgs := HIN.out.same gd rfl
                    have hgc5 := hgs.trans hgc
                    have hcd := (hdrow.same hgs) j _ hdj
                    have hAl : A'.length ≤ 1000000 := Nat.le_trans HIN.out.len HBD.out
                    have hpl : dp.length ≤ 1000000 := HPL.out _ (List.mem_of_getElem? hdj)
                    have hgl : gd < wr.heap.size := (Array.getElem?_eq_some_iff.1 hgc5).1
                    have hned : gd ≠ dg := fun e => by
                      obtain ⟨cur2, hc2⟩ := hap.type
                      simp only at hc2
                      rw [← e, hgc5] at hc2
                      simp only [Option.some.injEq, Obj.cells.injEq] at hc2
                      exact absurd hc2.2.1 (by decide)
                    have HGL : Hid (∀ g, (some gd : Option Nat) = some g → g < wr.heap.size) := fun g hg => by cases hg; exact hgl
                    have HGD : Hid (gd < wr.heap.size) := hgl
                    have HNED : Hid (gd ≠ dg) := hned
                    have HDP6 := Lib.hid hdp5
                    have HAP := Lib.hid hap
                    have HAL := Lib.hid hAl
                    have HDJ := Lib.hid hdj
                    have HPL9 := Lib.hid hpl
                    have HNE : Hid (u8.ownBlock ≠ some gd) := hdp5.ne gd rfl
                    simp only [dval] at hcd
                    clear hdrop hdp5 hap hgs hgc5 hgc hdrow hAl hpl hgl hned hdj hD0
                    cases dp with
                    | nil =>
                      have hc0 := HAP.out.cell 0 .nilIface rfl
                      have hf0 : wr.frozen? ⟨dg, 0, none⟩ = false := by
                        obtain ⟨cur, hcur⟩ := HAP.out.type
                        exact frozen_of_row _ _ _ _ _ hcur
                      obtain ⟨wS, hS⟩ : ∃ wS, wr.setCell ⟨dg, 0, none⟩ (Value.iface 3 (Value.int .i64 (m : Int))) = wS := ⟨_, rfl⟩
                      have HS := Lib.hid hS
                      have hkS : ∀ k, k ≠ dg → wS.heap[k]? = wr.heap[k]? := fun k hne => by rw [← HS.out]; exact heap_setCell_other _ _ _ _ (fun e => hne e)
                      have hsz : wS.heap.size = wr.heap.size := by rw [← HS.out]; simp [World.setCell]
                      have HDPS : Hid (DP wS wo.heap.size u8 A' [(dg, dc, [(Step.nth (m : Int))])] (D.drop (j + 1)) (some gd)) := HDP6.out.put (st := (Step.nth (m : Int))) HS.out.symm
                      have HXS : Hid (Ext wo wS) := HIN.out.ext.grown (row := some dg) (by rw [← HS.out]; exact ⟨rfl, rfl, rfl, by simp [World.setCell], fun k hk hne => heap_setCell_other _ _ _ _ (fun e => hne (by rw [e]))⟩) HIN.out.ext.size (fun k hk => by cases hk; exact (HDP6.out.all (dg, dc, []) (by simp)).1)
                      have HSZ := Lib.hid hsz
                      have HKS := Lib.hid hkS
                      have hcd' : wr.cell? ⟨gd, j, none⟩ = some (.slice (some ⟨dg, 0, none⟩) 1 dc) := hcd
                      clear hcd hkS hsz
                      go_wp2_with (at_builtin; refine wpList_push' (.tmp 302) (.tmp 304) rfl rfl wo wS u8 _ A' (D.drop (j + 1)) (dg, dc, [(Step.nth (m : Int))]) (some gd) HDPS.out rfl HXS.out (fun g hg => by rw [HSZ.out]; exact HGL.out g hg) HAL.out wS.heap.size rfl rfl rfl ?_; intro g9 c9 w9 hd9 hx9 hgw9; have HD9 := Lib.hid hd9; have HX9 := Lib.hid hx9; have HG9 := Lib.hid hgw9; clear hd9 hx9 hgw9)
                      go_roundw
                      case rel => exact ⟨j + 1, _, by omega, by go_num, HIN.out.step HDJ.out rfl (HKS.out gd HNED.out) (Nat.le_of_eq HSZ.out.symm) HGD.out HNE.out HD9.out HX9.out HG9.out⟩
                      case measure => simp [intOf]; omega
                    | cons st1 q =>
                      have hq9 : q.length ≤ 1000000 := by have := HPL9.out; simp at this; omega
                      have HQ9 := Lib.hid hq9
                      have hcd' : wr.cell? ⟨gd, j, none⟩ = some (.slice (some ⟨dg, 0, none⟩) (q.length + 1) dc) := by
                        have e : (enc (st1 :: q)).length = q.length + 1 := by simp [enc]
                        rw [e] at hcd
                        exact hcd
                      have HC0 : Hid (wr.cell? ⟨dg, 0, none⟩ = some st1.val) := HAP.out.cell 0 st1.val (by simp [enc])
                      clear hcd
                      rcases q with _ | ⟨st2, q⟩
                      · simp only [List.length_nil, Nat.zero_add] at hcd'
                        rcases st1 with s1 | n1
                        all_goals
                          have hc0 := HC0.out
                          simp only [Step.val] at hc0
                          clear hq9
                          go_wp2_with (first
                            | (at_builtin; refine wpList_cons (.tmp 299) (.tmp 300) rfl rfl wr (Step.nth (m : Int)) _ [] dg dc HAP.out HQ9.out wr.heap.size rfl rfl rfl ?_; intro g6 c6 w6 hap6 hg6 hx6 hl6; have HAP6 := Lib.hid hap6; have HG6 := Lib.hid hg6; have HX6 := Lib.hid hx6; clear hap6 hg6 hx6 hl6)
                            | (at_builtin; refine wpList_push' (.tmp 302) (.tmp 304) rfl rfl wo w6 u8 _ A' (D.drop (j + 1)) (g6, c6, (Step.nth (m : Int)) :: _ :: []) (some gd) (HDP6.out.fresh HX6.out HAP6.out HG6.out HIN.out.ext.size) (by simp [dval, enc]) (Ext.trans HIN.out.ext HX6.out) (fun g hg => Nat.lt_of_lt_of_le (HGL.out g hg) HX6.out.size) HAL.out w6.heap.size rfl rfl rfl ?_; intro g9 c9 w9 hd9 hx9 hgw9; have HD9 := Lib.hid hd9; have HX9 := Lib.hid hx9; have HG9 := Lib.hid hgw9; clear hd9 hx9 hgw9))
                          go_roundw
                          case rel => exact ⟨j + 1, _, by omega, by go_num, HIN.out.step HDJ.out rfl (HX6.out.block gd HGD.out) HX6.out.size HGD.out HNE.out HD9.out HX9.out HG9.out⟩
                          case measure => simp [intOf]; omega
                      · simp only [List.length_cons] at hcd' hq9
                        have hne1 : ((q.length : Int) + 1 + 1 == 1) = false := by simp; omega
                        go_wp2_with (first
                          | (at_builtin; refine wpList_cons (.tmp 299) (.tmp 300) rfl rfl wr (Step.nth (m : Int)) st1 (st2 :: q) dg dc HAP.out HQ9.out wr.heap.size rfl rfl rfl ?_; intro g6 c6 w6 hap6 hg6 hx6 hl6; have HAP6 := Lib.hid hap6; have HG6 := Lib.hid hg6; have HX6 := Lib.hid hx6; clear hap6 hg6 hx6 hl6)
                          | (at_builtin; refine wpList_push' (.tmp 302) (.tmp 304) rfl rfl wo w6 u8 _ A' (D.drop (j + 1)) (g6, c6, (Step.nth (m : Int)) :: st1 :: st2 :: q) (some gd) (HDP6.out.fresh HX6.out HAP6.out HG6.out HIN.out.ext.size) (by simp [dval, enc]; omega) (Ext.trans HIN.out.ext HX6.out) (fun g hg => Nat.lt_of_lt_of_le (HGL.out g hg) HX6.out.size) HAL.out w6.heap.size rfl rfl rfl ?_; intro g9 c9 w9 hd9 hx9 hgw9; have HD9 := Lib.hid hd9; have HX9 := Lib.hid hx9; have HG9 := Lib.hid hgw9; clear hd9 hx9 hgw9))
                        go_roundw
                        case rel => exact ⟨j + 1, _, by omega, by go_num, HIN.out.step HDJ.out rfl (HX6.out.block gd HGD.out) HX6.out.size HGD.out HNE.out HD9.out HX9.out HG9.out⟩
                        case measure => simp [intOf]; omega
                  · have hje : j = D.length := by omega
                    subst hje
                    have HPA : Hid ((A'.map (·.2.2)).Perm (arrPre n g l mm (m + 1))) := perm_arr HPM.out HSK.out HPD.out (by have := HIN.out.path; rwa [List.take_length] at this)
                    have HDPF : Hid (DP wr wo.heap.size u8 A' [] [] none) := by have := HIN.out.dp; rw [List.drop_length] at this; exact this.done
                    have HXF : Hid (Ext wo wr) := HIN.out.ext
                    go_wp2
                    go_roundw
                    case rel => exact ⟨m + 1, A', by omega, by omega, by go_num, HDPF.out, HPA.out, HXF.out⟩
                    case measure => simp [intOf]; omega
            · have hme : m = mm.length := by omega
              have hgn : g = none := by
                cases hc : igIsNone g
                · have := HLEQ.out hc
                  omega
                · cases g with
                  | none => rfl
                  | some _ => cases hc
              have HP9 : Hid (∀ d : DI, d.2.2 = [.nth (m : Int)] → ((A ++ [d]).map (·.2.2)).Perm (difF (n + 1) g (.arr l) (.arr mm))) := fun d hd => by
                have e1 : min l.length mm.length = m := by omega
                have e2 : ¬ l.length = mm.length := by omega
                simp only [difF]
                rw [e1, if_neg e2, List.map_append]
                refine HPM.out.append ?_
                simp [under1, hgn, igSkip, igSub, hd]
              have HME := Lib.hid hme
              clear hgn hme
              go_wp2_with (first
                | (go_at_call 103; refine (HII.out).mono ?_; rintro e w' ⟨rfl, rfl⟩)
                | (at_builtin; refine wpList_push' (.tmp 250) (.tmp 254) rfl rfl wo _ u8 _ A [] (wr.heap.size, 1, [.nth (m : Int)]) none (HDP.out.first ((Ext.refl wr).alloc (.cells #[.iface 3 (.int .i64 (m : Int))] 20)) (own_fresh wr 0 20 1 [.iface 3 (.int .i64 (m : Int))] (Nat.zero_le _) rfl) (Nat.le_refl _) HXR.out.size) rfl (HXR.out.alloc _) (by intro g hg; cases hg) (Nat.le_trans HALN.out (by omega)) (wr.heap.size + 1) (by simp) rfl rfl ?_; intro g9 c9 w9 hd9 hx9 hgw9; have HD9 := Lib.hid hd9; have HX9 := Lib.hid hx9; clear hd9 hx9 hgw9))
              go_ret
              exact ⟨_, _, rfl, HP9.out _ rfl, HD9.out.base HX.out.size, Ext.trans HX.out HX9.out⟩
        · have hme : m = l.length := by omega
          subst hme
          by_cases hleq : l.length = mm.length
          · have hq1 : ((l.length : Int) != (mm.length : Int)) = false := by simp [hleq]
            have HP9 : Hid ((A.map (·.2.2)).Perm (difF (n + 1) g (.arr l) (.arr mm))) := by
              have e1 : min l.length mm.length = l.length := by omega
              refine Lib.hid ?_
              simp only [difF]
              rw [e1, if_pos hleq, List.append_nil]
              exact HPM.out
            clear hleq
            go_wp2
            go_ret
            exact ⟨_, _, rfl, HP9.out, HDP.out.base HX.out.size, HX2.out⟩
          · have hq1 : ((l.length : Int) != (mm.length : Int)) = true := by simp; omega
            have hgn : g = none := by
              cases hc : igIsNone g
              · exact absurd (HLEQ.out hc) hleq
              · cases g with
                | none => rfl
                | some _ => cases hc
            have HP9 : Hid (∀ d : DI, d.2.2 = [.nth (l.length : Int)] → ((A ++ [d]).map (·.2.2)).Perm (difF (n + 1) g (.arr l) (.arr mm))) := fun d hd => by
              have e1 : min l.length mm.length = l.length := by omega
              simp only [difF]
              rw [e1, if_neg hleq, List.map_append]
              refine HPM.out.append ?_
              simp [under1, hgn, igSkip, igSub, hd]
            have HII : Hid (Calls Try.prog 103 #[.int .i64 (l.length : Int), .slice ag ng cg] wr fun e w' => e = .returned (.bool false) ∧ wr = w') := by
              have := ignoreIndex_any (l.length : Int) _ g wr (HIG.out.keep HX2.out.keep)
              rw [hgn] at this
              exact this.mono fun _ _ h => ⟨h.1, h.2.symm⟩
            clear hleq hgn
            go_wp2_with (first
              | (go_at_call 103; refine (HII.out).mono ?_; rintro e w' ⟨rfl, rfl⟩)
              | (at_builtin; refine wpList_push' (.tmp 321) (.tmp 326) rfl rfl wo _ u8 _ A [] (wr.heap.size, 1, [.nth (l.length : Int)]) none (HDP.out.first ((Ext.refl wr).alloc (.cells #[.iface 3 (.int .i64 (l.length : Int))] 20)) (own_fresh wr 0 20 1 [.iface 3 (.int .i64 (l.length : Int))] (Nat.zero_le _) rfl) (Nat.le_refl _) HXR.out.size) rfl (HXR.out.alloc _) (by intro g hg; cases hg) (Nat.le_trans HALN.out (by omega)) (wr.heap.size + 1) (by simp) rfl rfl ?_; intro g9 c9 w9 hd9 hx9 hgw9; have HD9 := Lib.hid hd9; have HX9 := Lib.hid hx9; clear hd9 hx9 hgw9))
            go_ret
            exact ⟨_, _, rfl, HP9.out _ rfl, HD9.out.base HX.out.size, Ext.trans HX.out HX9.out⟩
end Go.Proofs.Ytikpedfggbibpaa
