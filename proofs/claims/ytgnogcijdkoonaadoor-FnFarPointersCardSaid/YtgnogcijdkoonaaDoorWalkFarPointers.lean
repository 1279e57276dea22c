/- laws.FnFarPointers: the law returns true for each input that its row speaks of: its walk. -/
import Derived.Test.YtgnogcijdkoonaaDoorKUnknown
import Derived.Test.YtgnogcijdkoonaaDoorPlainly
import Derived.Test.YtgnogcijdkoonaaDoorRead9
import Derived.Test.YtgnogcijdkoonaaDoorMuch
set_option linter.unusedVariables false
set_option linter.unusedSimpArgs false
namespace Go.Proofs.YtgnogcijdkoonaaDoor
open Go.RowKit
set_option maxHeartbeats 4000000
set_option maxRecDepth 100000

theorem laws_FnFarPointers (w : World) (h : HeadM) (hid : h.id < 65536) (x1 : Bytes) (hx1 : x1.length ≤ lim) (x2 : Nat) (hx2 : x2 < 65536) (u3 : Value) (x3 : List (RecM × RecV)) (hx3 : RecsAt w u3 x3) (hn3 : x3.length * 168 ≤ lim) (hE : Errs w) (hKn : Known w) : Calls Tryd.prog 8 #[.agg (hcells h), strOf x1, .int .u16 (x2 : Int), u3] w (RetV w (.bool true)) := by
  refine calls_of_WC Tryd.func8 rfl Tryd.ntmps8 rfl ?_
  refine GO ?_
  refine WL_box vv ?_
  intro b4 w1 hb4 h4 g1
  have h4 : w1.heap[b4]? = some (.cells (hcells h) 28 (0, 0)) := h4
  refine GO ?_
  refine WL_conv (c := (x2 : Int)) vv (by rw [IntWalk.i64_in _ (by omega)]) ?_
  refine WL_y (Y_rem (a := x2) (b := 400) vv rfl (by decide)) ?_
  generalize hk : x2 % 400 = k
  have hk1 : k < 400 := by omega
  refine WL_add (c := ((16184 + k : Nat) : Int)) vv vv (by rw [IntWalk.i64_in _ (by omega)]; omega) ?_
  refine WL_makeB vv (by omega) ?_
  intro b21 w2 hb21 h21 g2
  have G2 := g1.trans g2
  have hAz : AccB w.heap.size w2 (.slice (some ⟨b21, 0, none⟩) (16184 + k) (16184 + k)) (List.replicate (16184 + k) 0) := accB_cells h21 (zeros_cells _) (by simp) (by simp only [maxLen]; omega) (by have := g1.size; omega)
  obtain ⟨r, hr⟩ : ∃ r : RecM × RecV, r = (⟨x1, 65280, 1, 0, 0, 0, List.replicate (16184 + k) 0, [], [], 0, 0, 0, 0, 0, [], []⟩, ⟨.slice (some ⟨b21, 0, none⟩) (16184 + k) (16184 + k), .slice none 0 0, .slice none 0 0⟩) := ⟨_, rfl⟩
  have hrec : RecAt w2 r := by
    rw [hr]
    have hx := hx1
    simp only [lim] at hx
    exact ⟨⟨hx1, by simp, by simp, by simp only [List.length_replicate, lim]; omega, by simp, by simp, by simp, by simp, by simp, by simp, by simp, by simp, by simp, by simp, by simp⟩, AccB.reads hAz, ReadsAt.nil _ 1, ⟨[], rfl, ⟨by simp, ReadsAt.nil _ 2⟩, by simp⟩⟩
  refine WL_build (vs := [(0, strOf x1), (1, .int .u16 65280), (2, .int .u16 1), (6, .slice (some ⟨b21, 0, none⟩) (16184 + k) (16184 + k))]) (l := recCells r) (EvL.eq ⟨rfl, vv, rfl, vv, rfl, vv, rfl, vv, trivial⟩) ⟨⟨_, rfl⟩, ⟨_, rfl⟩, ⟨_, rfl⟩, ⟨_, rfl⟩, trivial⟩ (by rw [hr]; rfl) ?_
  clear hr hAz h21
  refine WL_alloc ?_
  intro b9 w3 hb9 h9 g3
  refine WL_storeRow (new := (recCells r).toArray) vv vv h9 rfl rfl (recCells_one hrec) ?_
  intro w4 hw4 h9'
  have g4 : Grows w2 w4 := g3.wrote hw4 hb9
  have G4 := G2.trans g4
  have hrec4 := hrec.grow g4
  refine GO ?_
  refine WL_loadRow vv h9' rfl ?_
  refine WL_slice (vs := [.agg (recCells r).toArray]) (EvL.eq ⟨rfl, vv, trivial⟩) (by simp) rfl (by simp [Value.cells, recCells_length]) rfl ?_
  intro b24 w5 hb24 h24 g5
  have h24 : w5.heap[b24]? = some (.cells (recCells r).toArray 43 (0, 0)) := by rw [h24]; simp [Value.cells]
  have G5 := G4.trans g5
  have hx5 := hx3.grow G5
  have hL : LAcc w4.heap.size w5 43 recCells 16 (.slice (some ⟨b24, 0, none⟩) 1 1) [r] := by
    refine ⟨?_, fun x _ => rfl⟩
    have := Acc.block (B := w4.heap.size) (size := 16) h24 hb24 (n := 1) (by decide) (by rfl)
    simpa using this
  have hxl := hn3
  simp only [lim] at hxl
  refine GO ?_
  refine WL_append vv hL.acc.own vv hx5.at_.2 (fun u hu => by
    obtain ⟨x, hx, hu⟩ := List.mem_flatMap.1 hu
    exact recCells_one (hx5.recs x hx) u hu) ⟨by simp only [List.length_singleton]; omega, by omega, by decide⟩ ?_
  intro v10 w6 hgr
  have g46 : Grows w4 w6 := Acc.below hL.acc hgr g5.size g5
  have G6 := G4.trans g46
  have hR6 : RecsAt w6 v10 (r :: x3) := recs_cons hL hgr g5.size (hrec4.grow g46) (fun x hx => (hx3.recs x hx).grow G6) hn3
  have h46 := ((g2.trans g4).trans g46).kept h4
  generalize hrs : r :: x3 = rs at *
  clear hL hgr h24 h9 h9' hx5 hrec hrec4 hrs
  obtain ⟨ao10, cap10, rfl⟩ := hR6.at_.value
  refine GO ?_
  refine WL_loadRow vv h46 rfl ?_
  refine GO ?_
  refine WL_fun rfl ((laws_message w6 13 h (.slice none 0 0) (.slice ao10 rs.length cap10) (.slice ao10 rs.length cap10) (.slice none 0 0) [] rs rs [] (AsksAt.nil _) hR6 hR6 (RecsAt.nil _)).mono ?_)
  rintro e w7 ⟨vs, rfl, hM, g7⟩
  refine ⟨_, rfl, ?_⟩
  obtain ⟨av', v1', v2', v3', l1', l2', l3', rfl, ha', s1, s2, s3, e1, e2, e3⟩ := hM.at_
  clear hM
  obtain ⟨ao0, cap0, rfl⟩ := ha'.at_.value
  obtain ⟨ao1, cap1, rfl⟩ := s1.at_.at_.value
  obtain ⟨ao2, cap2, rfl⟩ := s2.at_.at_.value
  obtain ⟨ao3, cap3, rfl⟩ := s3.at_.at_.value
  refine WL_alloc ?_
  intro b11 w8 hb11 h11 g8
  refine WL_storeRow (new := (msgCells h (.slice ao0 ([] : List AskM).length cap0) (.slice ao1 l1'.length cap1) (.slice ao2 l2'.length cap2) (.slice ao3 l3'.length cap3)).toArray) vv vv h11 rfl rfl (by simp [msgCells, Value.oneCell']) ?_
  intro w9 hw9 h11'
  have g9 : Grows w7 w9 := g8.wrote hw9 hb11
  have G9 := (G6.trans g7).trans g9
  clear g8 hw9 h11
  refine GO ?_
  refine WL_loadRow vv h11' rfl ?_
  refine WL_fun rfl ((spec_Ok body_Unknown bok_Unknown w9 h _ _ _ _ [] l1' l2' l3' (ha'.grow g9) (s1.grow g9) (s2.grow g9) (s3.grow g9)).mono ?_)
  rintro e wa ⟨b, rfl, ga, hOk⟩
  refine ⟨_, rfl, ?_⟩
  have Ga := G9.trans ga
  cases b with
  | false =>
    refine RUN ?_
    exact ret1 (v := .bool true) Tryd.results8 rfl ⟨rfl, Ga⟩
  | true =>
    have hMk := hOk rfl
    rw [e1, e2, e3] at hMk
    have hMo : MsgOk 13 ⟨h, [], recsOf rs, recsOf rs, []⟩ := hMk.kind
    have hhd := head_of hMo
    clear hOk
    refine RUN ?_
    refine WL_loadRow vv (ga.kept h11') rfl ?_
    refine RUN ?_
    refine WL_fun rfl ((spec_Small wa h _ _ _ _ [] l1' l2' l3' ((ha'.grow g9).grow ga) ((s1.grow g9).grow ga) ((s2.grow g9).grow ga) ((s3.grow g9).grow ga)).mono ?_)
    rintro e wb ⟨bs, rfl, gb⟩
    refine ⟨_, rfl, ?_⟩
    have Gb := Ga.trans gb
    cases bs with
    | false =>
      refine RUN ?_
      exact ret1 (v := .bool true) Tryd.results8 rfl ⟨rfl, Gb⟩
    | true =>
      refine RUN ?_
      have gab := ga.trans gb
      refine WL_loadRow vv (gab.kept h11') rfl ?_
      refine RUN ?_
      refine WL_fun rfl ((spec_Plainly wb h _ _ _ _ [] l1' l2' l3' ((ha'.grow g9).grow gab) ((s1.grow g9).grow gab) ((s2.grow g9).grow gab) ((s3.grow g9).grow gab)).mono ?_)
      rintro e wc ⟨bp, rfl, gc, hPl⟩
      refine ⟨_, rfl, ?_⟩
      have Gc := Gb.trans gc
      cases bp with
      | false =>
        refine RUN ?_
        exact ret1 (v := .bool true) Tryd.results8 rfl ⟨rfl, Gc⟩
      | true =>
        refine RUN ?_
        have g6c := ((g7.trans g9).trans gab).trans gc
        have h4c := g6c.kept h46
        have h11c := (gab.trans gc).kept h11'
        have hRc := hR6.grow g6c
        have hpt : ∀ q ∈ recsOf rs, kindOfM q.type = 13 := by
          intro q hq
          have h1 : ({ q with kind := ((13 : Nat) : Int) } : RecM) ∈ recsOf l1' := by rw [e1]; exact List.mem_map.2 ⟨q, hq, rfl⟩
          obtain ⟨x, hx, hxe⟩ := List.mem_map.1 h1
          have h2 := hPl rfl l1' (by simp) x hx rfl
          rw [hxe] at h2
          exact h2
        have hin : ∀ q ∈ recsOf rs, RecIn 13 q := by
          intro q hq
          have hro := List.all_eq_true.1 hMo.one q hq
          have hnm := nameOk_len (recOk_parts hro).1
          obtain ⟨x, hx, rfl⟩ := List.mem_map.1 hq
          have o := (hR6.recs x hx).ok
          exact ⟨by omega, fun e => absurd e (by decide), fun _ => (recOk_parts hro).2.2.1, o.cls, o.ttl, o.type, hpt _ hq⟩
        have hn1 : rs.length < 60000 := by have := hMo.n1; simpa [recsOf] using this
        have hn1' : (recsOf rs).length < 60000 := by have := hMo.n1; exact this
        obtain ⟨m', hst, hRM⟩ := read2 okUnknown rdUnknown ⟨h, [], recsOf rs, recsOf rs, []⟩ hMo rfl
        have hRMs := hRM.short
        simp only at hst hRM hRMs
        refine WL_slice (vs := [.slice ao10 rs.length cap10, .slice ao10 rs.length cap10]) (EvL.eq ⟨rfl, vv, rfl, vv, trivial⟩) (by simp) rfl (by simp [Value.cells]) rfl ?_
        intro b46 wd hb46 h46' gd
        have Gd := Gc.trans gd
        have hsec : SecsAt wd (.slice (some ⟨b46, 0, none⟩) 2 2) [rs, rs] := SecsAt.lit h46' rfl rfl (by
          intro j u l hu hl
          match j with
          | 0 => cases hu; cases hl; exact hRc.grow gd
          | 1 => cases hu; cases hl; exact hRc.grow gd
          | j + 2 => simp at hu)
        refine WL_fun rfl ((laws_steps wd true _ _ [] [rs, rs] (AsksAt.nil _) hsec (by simp) (by simp) (by simp [hn1])).mono ?_)
        rintro e we ⟨lv, rfl, hA, hSt, ge⟩
        refine ⟨_, rfl, ?_⟩
        have Ge := Gd.trans ge
        have hSn := hSt.len
        have hso : stepsOf (stepsV true [] [rs, rs]) = stepsM true [] [recsOf rs, recsOf rs] := stepsV_of _ _ _
        rw [← hso] at hst
        have hwl := msgWire_le hMo
        have hfl : (MSt.steps kUnknown .first (stepsOf (stepsV true [] [rs, rs]))).2 = m' := by rw [hst]
        have hlen : (MSt.steps kUnknown .first (stepsOf (stepsV true [] [rs, rs]))).2.out.length ≤ 100000000 := by rw [final_length kUnknown _ h, hfl]; omega
        have hlb := lb_steps (LB := fun r => r.data.length) (B := 100000) (short := true) (qs := []) (ls := [rs, rs]) (by
          intro l hl
          have hl' : l = rs := by simpa using hl
          subst hl'
          exact recs_lb kc_Unknown.lb hMo.one) kc_Unknown.lb0
        generalize hss : stepsV true [] [rs, rs] = ss at *
        obtain ⟨aol, capl, rfl⟩ := hA.reads.value
        refine GO ?_
        refine WL_loadRow vv ((gd.trans ge).kept h4c) rfl ?_
        refine GO ?_
        refine WL_fun rfl ((build_Unknown we (.slice none 0 0) [] h _ _ (ReadsAt.nil _ _) (by decide) hid hhd.1 hhd.2 hSt (fun e => by cases e) (fun x hx => by have := hlb x hx; simp only [List.length_nil]; omega) (hE.grow Ge) (hKn.grow Ge)).mono ?_)
        rintro e wf ⟨v, fv, dv, cs, rfl, hb⟩
        refine ⟨_, rfl, ?_⟩
        obtain rfl := hb.val
        have gf := hb.grows
        have hcs : cs.length = ss.length := by rw [← hb.codes.1, steps_length]; simp [stepsOf]
        have hz := codes_none hb.codes (by rw [hst]; exact noFlt_replicate _)
        have hdt := hb.data
        have hwire : (([] : Bytes) ++ (MSt.steps kUnknown .first (stepsOf ss)).2.final h) = m'.final h := by rw [hfl]; rfl
        rw [hwire] at hdt
        refine WL_alloc ?_
        intro b13 wg hb13 h13 gg
        refine WL_storeRow (new := #[fv, dv, .int .i64 0]) vv vv h13 rfl rfl hb.one ?_
        intro wh hwh h13'
        have gh : Grows wf wh := gg.wrote hwh hb13
        have Gh := (Ge.trans gf).trans gh
        obtain ⟨ad, capd, hdv⟩ := ReadsAt.value hdt.reads
        refine GO ?_
        refine WL_fun rfl ((spec_Read wh dv (m'.final h) 13 ⟨h, [], recsOf rs, recsOf rs, []⟩ (by decide) bodyRd13 (src_of (hdt.grow gh) (by omega)) hRM hid hhd.1 hhd.2 (by simp) hn1' hn1' (by simp) (by simp) hin hin (by simp)).mono ?_)
        rintro e wi ⟨vr, rfl, hRd, gi⟩
        refine ⟨_, rfl, ?_⟩
        have hRd0 := hRd
        obtain ⟨va, r1, r2, r3, q1, q2, q3, rfl, hAr, hL1, hL2, hL3⟩ := hRd.at_
        obtain ⟨aoa, capa, hva⟩ := hAr.reads.value
        obtain ⟨aob, capb, hvb⟩ := hL1.acc.reads.value
        obtain ⟨aoc, capc, hvc⟩ := hL2.acc.reads.value
        obtain ⟨aod, capd', hvd⟩ := hL3.acc.reads.value
        refine RUN ?_
        refine WL_alloc ?_
        intro b14 wj hb14 h14 gj
        refine WL_storeRow (new := (msgCells h va r1 r2 r3).toArray) vv vv h14 rfl rfl (by rw [hva, hvb, hvc, hvd]; simp [msgCells, Value.oneCell']) ?_
        intro wk hwk h14'
        have gk : Grows wi wk := gj.wrote hwk hb14
        have hRd := hRd0.grow gk
        have ghk := gi.trans gk
        have gck := ((gd.trans ge).trans (gf.trans gh)).trans ghk
        have h13k := ghk.kept h13'
        have h11k := gck.kept h11c
        refine GO ?_
        refine WC_seq (WC_draws (fun w' => w'.heap[b13]? = some (.cells #[fv, dv, .int .i64 0] 35 (0, 0)) ∧ w'.heap[b14]? = some (.cells (msgCells h va r1 r2 r3).toArray 56 (0, 0)) ∧ w'.heap[b11]? = some (.cells (msgCells h (.slice ao0 ([] : List AskM).length cap0) (.slice ao1 l1'.length cap1) (.slice ao2 l2'.length cap2) (.slice ao3 l3'.length cap3)).toArray 56 (0, 0))) (by kernel_rfl) (fun w1 g => ⟨g.kept h13k, g.kept h14', g.kept h11k⟩) ?_)
        intro wl gl hS
        refine WD_take (i := 0) rfl rfl rfl rfl (by kernel_rfl) (by assumption) (fun w' hS => by exact Y_loadRow vv hS.1 rfl) ?_
        refine WT 1 ?_
        refine WD_one (c := 2) (by kernel_rfl) rfl ?_
        refine WL_fun rfl ((laws_fine wl fv dv _ cs ss.length ((hb.faults.reads.grow gh).grow (ghk.trans gl)) ⟨_, _, _, hdv⟩ aol capl rfl (by omega)).mono ?_)
        rintro e wm ⟨rfl, gm⟩
        have gm : Grows wl wm := gm
        have hSm := And.intro (gm.kept hS.1) (And.intro (gm.kept hS.2.1) (gm.kept hS.2.2))
        refine ⟨_, rfl, WL_nil ⟨hSm, ?_⟩⟩
        rw [fine_true hz hcs]
        refine WT 3 ?_
        refine WD_takeG (i := 4) (c := true) rfl rfl rfl rfl vv rfl rfl (by kernel_rfl) (by assumption) (fun _ w' hS => by first | exact Y_move vv | exact Y_assign vv | exact Y_nilCheck vv | exact Y_field vv | exact Y_load vv (by first | assumption | exact hS | exact hS.1 | exact hS.2 | exact hS.2.1 | exact hS.2.2) (by rfl) | exact Y_extract vv (by rfl) | exact Y_len vv | exact Y_lss vv vv | exact Y_leq vv vv | exact Y_gtr vv vv | exact Y_geq vv vv | exact Y_eql vv vv | exact Y_neq vv vv | exact Y_pick vv vv vv | exact Y_not vv) (fun h => absurd rfl h) ?_
        refine WT 5 ?_
        refine WT 6 ?_
        refine WD_takeG (i := 7) (c := true) rfl rfl rfl rfl vv rfl rfl (by kernel_rfl) (by assumption) (fun _ w' hS => by exact Y_loadRow vv hS.2.1 rfl) (fun h => absurd rfl h) ?_
        refine WD_takeG (i := 9) (c := true) rfl rfl rfl rfl vv rfl rfl (by kernel_rfl) (by assumption) (fun _ w' hS => by exact Y_loadRow vv hS.2.2 rfl) (fun h => absurd rfl h) ?_
        refine WD_one (c := 8) (by kernel_rfl) rfl ?_
        refine WL_wanted rfl vv ?_
        have glm := gl.trans gm
        refine WL_fun rfl ((read_wire (hRd.grow glm) (by decide) body_Unknown hid hMo (by simp) hin hin (by simp)).mono ?_)
        rintro e wn ⟨vn, rfl, an, gn⟩
        refine ⟨_, rfl, ?_⟩
        have hSn := And.intro (gn.kept hSm.1) (And.intro (gn.kept hSm.2.1) (gn.kept hSm.2.2))
        refine WL_nil ⟨hSn, ?_⟩
        refine WD_one (c := 10) (by kernel_rfl) rfl ?_
        refine WL_wanted rfl vv ?_
        have hbl : ∀ l ∈ [l1', l2', l3'], ∀ x ∈ l, (body 13 x.1).length < 65536 := by
          intro l hl
          simp only [List.mem_cons, List.not_mem_nil, or_false] at hl
          rcases hl with rfl | rfl | rfl
          · exact body_of (by rw [e1]; exact hMk.one)
          · exact body_of (by rw [e2]; exact hMk.two)
          · exact body_of (by rw [e3]; exact hMk.three)
        have hmw : msgWire 13 ⟨h, [], recsOf l1', recsOf l2', recsOf l3'⟩ = msgWire 13 ⟨h, [], recsOf rs, recsOf rs, []⟩ := by rw [e1, e2, e3, msgWire_kind]; rfl
        have g7n := ((g9.trans (gab.trans gc)).trans gck).trans (glm.trans gn)
        have hcall := spec_MessageWire body_Unknown (by decide) wn h _ _ _ _ [] l1' l2' l3' hid hhd.1 hhd.2 (ha'.grow g7n) (s1.grow g7n) (s2.grow g7n) (s3.grow g7n) hbl (by rw [hmw]; omega)
        rw [hmw] at hcall
        refine WL_fun rfl ((hcall).mono ?_)
        rintro e wo ⟨vo, rfl, ao, go⟩
        refine ⟨_, rfl, ?_⟩
        have hSo := And.intro (go.kept hSn.1) (And.intro (go.kept hSn.2.1) (go.kept hSn.2.2))
        refine WL_nil ⟨hSo, ?_⟩
        refine WD_one (c := 11) (by kernel_rfl) rfl ?_
        refine WL_wanted rfl vv ?_
        refine WL_fun rfl ((laws_same wo vn vo _ _ (an.reads.grow go) ao.reads).mono ?_)
        rintro e wp ⟨rfl, rfl⟩
        refine ⟨_, rfl, WL_nil ⟨hSo, ?_⟩⟩
        rw [beq_self_eq_true (msgWire 13 ⟨h, [], recsOf rs, recsOf rs, []⟩)]
        refine WT 12 ?_
        refine WD_one (c := 13) (by kernel_rfl) rfl ?_
        refine WL_assign vv (WL_nil ⟨hSo, ?_⟩)
        refine WD_done (by kernel_rfl) ?_
        refine GO ?_
        exact ret1 (v := .bool true) Tryd.results8 rfl ⟨rfl, (Gh.trans ghk).trans (glm.trans (gn.trans go))⟩
end Go.Proofs.YtgnogcijdkoonaaDoor
