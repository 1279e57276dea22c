/- laws.FnWholeHTTPS: the law returns true for each input that its row speaks of: its walk. -/
import Derived.Test.YtgkhfpkfjajdjaaDoorKHTTPS
import Derived.Test.YtgkhfpkfjajdjaaDoorSmall
set_option linter.unusedVariables false
set_option linter.unusedSimpArgs false
namespace Go.Proofs.YtgkhfpkfjajdjaaDoor
open Go.RowKit
set_option maxHeartbeats 4000000
set_option maxRecDepth 100000

theorem laws_FnWholeHTTPS (w : World) (h : HeadM) (hid : h.id < 65536) (x1 : RecM × RecV) (hx1 : RecAt w x1) (hE : Errs w) (hKn : Known w) : Calls Tryd.prog 5 #[.agg (hcells h), .agg (recCells x1).toArray] w (RetV w (.bool true)) := by
  refine calls_of_WC Tryd.func5 rfl Tryd.ntmps5 rfl ?_
  refine GO ?_
  refine WL_box vv ?_
  intro b2 w0 hb2 h2 g0
  refine WL_box vv ?_
  intro b3 w1 hb3 h3 g1
  have hlt2 := (Array.getElem?_eq_some_iff.1 h2).1
  have h2 := g1.kept h2
  have h3 : w1.heap[b3]? = some (.cells (recCells x1).toArray 30 (0, 0)) := h3
  refine GO ?_
  refine WL_store1 vv vv h3 (by simp [recCells, Value.cells]) rfl ?_
  intro wb hwb h3b
  have h3b : wb.heap[b3]? = some (.cells (recCells ({ x1.1 with host := x1.1.name }, x1.2)).toArray 30 (0, 0)) := h3b
  have hrec : RecAt w ({ x1.1 with host := x1.1.name }, x1.2) := by
    have o := hx1.ok
    exact ⟨⟨o.name, o.name, o.box, o.data, o.type, o.cls, o.ttl, o.len, o.n1, o.n2, o.n3, o.n4, o.n5, o.texts, o.pairs⟩, hx1.data, hx1.texts, hx1.pairs⟩
  obtain ⟨r, hr⟩ : ∃ r : RecM × RecV, r = ({ x1.1 with host := x1.1.name }, x1.2) := ⟨_, rfl⟩
  have hhost : r.1.host = r.1.name := by rw [hr]
  rw [← hr] at h3b hrec
  have hbz : w.heap.size ≤ b3 := Nat.le_trans g0.size hb3
  have Gb := (g0.trans g1).wrote hwb hbz
  have h2b := hwb.kept h2 (by omega)
  clear h2 h3 hwb g0 g1 hr hx1
  refine GO ?_
  refine WL_loadRow vv h2b rfl ?_
  refine WL_loadRow vv h3b rfl ?_
  refine WL_slice (vs := [.agg (recCells r).toArray]) (EvL.eq ⟨rfl, vv, trivial⟩) (by simp) rfl (by simp [Value.cells, recCells_length]) rfl ?_
  intro b19 wc hb19 h19 gc
  have hr1 : RecsAt wc (.slice (some ⟨b19, 0, none⟩) 1 1) [r] := RecsAt.lit (l := [r]) h19 rfl (by decide) (by
    intro x hx
    rw [List.mem_singleton.1 hx]
    exact hrec.grow (Gb.trans gc))
  refine WL_fun rfl ((laws_message wc 12 h (.slice none 0 0) (.slice (some ⟨b19, 0, none⟩) 1 1) (.slice none 0 0) (.slice none 0 0) [] [r] [] [] (AsksAt.nil _) hr1 (RecsAt.nil _) (RecsAt.nil _)).mono ?_)
  rintro e w2 ⟨vs, rfl, hM, g2'⟩
  refine ⟨_, rfl, ?_⟩
  have g2 : Grows wb w2 := gc.trans g2'
  obtain ⟨av', v1', v2', v3', l1', l2', l3', rfl, ha', s1, s2, s3, e1, e2, e3⟩ := hM.at_
  clear hM gc g2' h19 hr1
  obtain ⟨ao0, cap0, rfl⟩ := ha'.at_.value
  obtain ⟨ao1, cap1, rfl⟩ := s1.at_.at_.value
  obtain ⟨ao2, cap2, rfl⟩ := s2.at_.at_.value
  obtain ⟨ao3, cap3, rfl⟩ := s3.at_.at_.value
  refine WL_alloc ?_
  intro b5 w3 hb5 h5 g3
  refine WL_storeRow (new := (msgCells h (.slice ao0 ([] : List AskM).length cap0) (.slice ao1 l1'.length cap1) (.slice ao2 l2'.length cap2) (.slice ao3 l3'.length cap3)).toArray) vv vv h5 rfl rfl (by simp [msgCells, Value.oneCell']) ?_
  intro w4 hw4 h5'
  have g4 : Grows w2 w4 := g3.wrote hw4 hb5
  have G4 := (Gb.trans g2).trans g4
  refine GO ?_
  refine WL_loadRow vv h5' rfl ?_
  refine WL_fun rfl ((spec_Ok body_HTTPS bok_HTTPS w4 h _ _ _ _ [] l1' l2' l3' (ha'.grow g4) (s1.grow g4) (s2.grow g4) (s3.grow g4)).mono ?_)
  rintro e w5 ⟨b, rfl, g5, hOk⟩
  refine ⟨_, rfl, ?_⟩
  have G5 := G4.trans g5
  cases b with
  | false =>
    refine RUN ?_
    exact ret1 (v := .bool true) Tryd.results5 rfl ⟨rfl, G5⟩
  | true =>
    have hMk := hOk rfl
    rw [e1, e2, e3] at hMk
    have hMo : MsgOk 12 ⟨h, [], [r.1], [], []⟩ := hMk.kind
    have hhd := head_of hMo
    have hro : recOk 12 r.1 = true := by have := hMo.one; simpa using this
    have hnm := nameOk_len (recOk_parts hro).1
    clear hOk
    refine RUN ?_
    refine WL_loadRow vv (g5.kept h5') rfl ?_
    refine RUN ?_
    refine WL_fun rfl ((spec_Small w5 h _ _ _ _ [] l1' l2' l3' ((ha'.grow g4).grow g5) ((s1.grow g4).grow g5) ((s2.grow g4).grow g5) ((s3.grow g4).grow g5)).mono ?_)
    rintro e w6 ⟨bs, rfl, g6⟩
    refine ⟨_, rfl, ?_⟩
    have G6 := G5.trans g6
    cases bs with
    | false =>
      refine RUN ?_
      exact ret1 (v := .bool true) Tryd.results5 rfl ⟨rfl, G6⟩
    | true =>
      have g26 : Grows wb w6 := (g2.trans g4).trans (g5.trans g6)
      have h26 := g26.kept h2b
      have h36 := g26.kept h3b
      have h56 := (g5.trans g6).kept h5'
      refine RUN ?_
      obtain ⟨m', hst, hfin⟩ := whole_law okHTTPSv h r.1 hro (fun pos m => svcbv_body (.inr rfl) hro pos (some m))
      refine WL_loadRow vv h36 rfl ?_
      refine WL_slice (vs := [.agg (recCells r).toArray]) (EvL.eq ⟨rfl, vv, trivial⟩) (by simp) rfl (by simp [Value.cells, recCells_length]) rfl ?_
      intro b36 wd hb36 h36' gd
      refine WL_slice (vs := [.slice (some ⟨b36, 0, none⟩) 1 1]) (EvL.eq ⟨rfl, vv, trivial⟩) (by simp) rfl (by simp [Value.cells]) rfl ?_
      intro b37 w7 hb37 h37 ge
      have g7 : Grows w6 w7 := gd.trans ge
      have G7 := G6.trans g7
      have hrs : RecsAt w7 (.slice (some ⟨b36, 0, none⟩) 1 1) [r] := RecsAt.lit (l := [r]) (ge.kept h36') rfl (by decide) (by
        intro x hx
        rw [List.mem_singleton.1 hx]
        exact hrec.grow G7)
      have hsec : SecsAt w7 (.slice (some ⟨b37, 0, none⟩) 1 1) [[r]] := SecsAt.lit h37 rfl rfl (by
        intro j u l hu hl
        match j with
        | 0 => cases hu; cases hl; exact hrs
        | j + 1 => simp at hu)
      refine WL_fun rfl ((laws_steps w7 true _ _ [] [[r]] (AsksAt.nil _) hsec (by simp) (by simp) (by simp)).mono ?_)
      rintro e w8 ⟨lv, rfl, hA, hSt, g8⟩
      refine ⟨_, rfl, ?_⟩
      have G8 := G7.trans g8
      have hso : stepsOf (stepsV true [] [[r]]) = stepsM true [] [[r.1]] := stepsV_of _ _ _
      rw [← hso] at hst
      have hsl : (stepsV true [] [[r]]).length = 4 := rfl
      have hwl := msgWire_le hMo
      have hfl : (MSt.steps kHTTPSv .first (stepsOf (stepsV true [] [[r]]))).2 = m' := by rw [hst]
      have hlen : (MSt.steps kHTTPSv .first (stepsOf (stepsV true [] [[r]]))).2.out.length ≤ 100000000 := by first | (rw [final_length kHTTPSv _ h, hfl, hfin]; exact hwl) | (rw [final_length kHTTPSv _ h, hfl]; omega)
      have hlb := lb_steps (LB := (fun r => 700 + (pairsB r.pairs).length)) (B := 100000) (short := true) (qs := []) (ls := [[r]]) (by
        intro l hl x hx
        have hl' : l = [r] := by simpa using hl
        subst hl'
        exact kc_HTTPS.lb x.1 (by rw [List.mem_singleton.1 hx]; exact hro)) kc_HTTPS.lb0
      generalize hss : stepsV true [] [[r]] = ss at *
      obtain ⟨aol, capl, rfl⟩ := hA.reads.value
      refine GO ?_
      refine WL_loadRow vv ((g7.trans g8).kept h26) rfl ?_
      refine GO ?_
      refine WL_fun rfl ((build_HTTPS w8 (.slice none 0 0) [] h _ _ (ReadsAt.nil _ _) (by decide) hid hhd.1 hhd.2 hSt (fun e => by cases e) (fun x hx => by have := hlb x hx; simp only [List.length_nil]; omega) (hE.grow G8) (hKn.grow G8)).mono ?_)
      rintro e w9 ⟨v, fv, dv, cs, rfl, hb⟩
      refine ⟨_, rfl, ?_⟩
      obtain rfl := hb.val
      have g9 := hb.grows
      have hcs : cs.length = ss.length := by rw [← hb.codes.1, steps_length]; simp [stepsOf]
      have hz := codes_none hb.codes (by rw [hst]; exact noFlt_replicate 4)
      have hdt := hb.data
      have hwire : (([] : Bytes) ++ (MSt.steps kHTTPSv .first (stepsOf ss)).2.final h) = m'.final h := by rw [hfl]; rfl
      rw [hwire] at hdt
      refine WL_alloc ?_
      intro b7 wf hb7 h7 gf
      refine WL_storeRow (new := #[fv, dv, .int .i64 0]) vv vv h7 rfl rfl hb.one ?_
      intro w10 hw10 h7'
      have g10 : Grows w9 w10 := gf.wrote hw10 hb7
      have G10 := (G8.trans g9).trans g10
      obtain ⟨ad, capd, hdv⟩ := ReadsAt.value hdt.reads
      have h5x := ((g7.trans g8).trans (g9.trans g10)).kept h56
      refine GO ?_
      refine WC_seq (WC_draws (fun w' => w'.heap[b7]? = some (.cells #[fv, dv, .int .i64 0] 49 (0, 0)) ∧ w'.heap[b5]? = some (.cells (msgCells h (.slice ao0 ([] : List AskM).length cap0) (.slice ao1 l1'.length cap1) (.slice ao2 l2'.length cap2) (.slice ao3 l3'.length cap3)).toArray 42 (0, 0))) (by kernel_rfl) (fun w1 g => ⟨g.kept h7', g.kept h5x⟩) ?_)
      intro w11 g11 hS
      refine WD_take (i := 0) rfl rfl rfl rfl (by kernel_rfl) (by assumption) (fun w' hS => by exact Y_loadRow vv hS.1 rfl) ?_
      refine WT 1 ?_
      refine WD_one (c := 2) (by kernel_rfl) rfl ?_
      refine WL_fun rfl ((laws_fine w11 fv dv _ cs ss.length ((hb.faults.reads.grow g10).grow g11) ⟨_, _, _, hdv⟩ aol capl rfl (by omega)).mono ?_)
      rintro e w12 ⟨rfl, g12⟩
      have g12 : Grows w11 w12 := g12
      have hS12 := And.intro (g12.kept hS.1) (g12.kept hS.2)
      refine ⟨_, rfl, WL_nil ⟨hS12, ?_⟩⟩
      rw [fine_true hz hcs]
      refine WT 3 ?_
      refine WD_takeG (i := 4) (c := true) rfl rfl rfl rfl vv rfl rfl (by kernel_rfl) (by assumption) (fun _ w' hS => by first | exact Y_move vv | exact Y_assign vv | exact Y_nilCheck vv | exact Y_field vv | exact Y_load vv (by first | assumption | exact hS | exact hS.1 | exact hS.2 | exact hS.2.1 | exact hS.2.2) (by rfl) | exact Y_extract vv (by rfl) | exact Y_len vv | exact Y_lss vv vv | exact Y_leq vv vv | exact Y_gtr vv vv | exact Y_geq vv vv | exact Y_eql vv vv | exact Y_neq vv vv | exact Y_pick vv vv vv | exact Y_not vv) (fun h => absurd rfl h) ?_
      refine WD_takeG (i := 5) (c := true) rfl rfl rfl rfl vv rfl rfl (by kernel_rfl) (by assumption) (fun _ w' hS => by first | exact Y_move vv | exact Y_assign vv | exact Y_nilCheck vv | exact Y_field vv | exact Y_load vv (by first | assumption | exact hS | exact hS.1 | exact hS.2 | exact hS.2.1 | exact hS.2.2) (by rfl) | exact Y_extract vv (by rfl) | exact Y_len vv | exact Y_lss vv vv | exact Y_leq vv vv | exact Y_gtr vv vv | exact Y_geq vv vv | exact Y_eql vv vv | exact Y_neq vv vv | exact Y_pick vv vv vv | exact Y_not vv) (fun h => absurd rfl h) ?_
      refine WD_takeG (i := 6) (c := true) rfl rfl rfl rfl vv rfl rfl (by kernel_rfl) (by assumption) (fun _ w' hS => by exact Y_loadRow vv hS.2 rfl) (fun h => absurd rfl h) ?_
      refine WD_one (c := 7) (by kernel_rfl) rfl ?_
      refine WL_wanted rfl vv ?_
      have g2to12 : Grows w2 w12 := (g4.trans ((g5.trans g6).trans (g7.trans g8))).trans ((g9.trans g10).trans (g11.trans g12))
      have hbl : ∀ l ∈ [l1', l2', l3'], ∀ x ∈ l, (body 12 x.1).length < 65536 := by
        intro l hl
        simp only [List.mem_cons, List.not_mem_nil, or_false] at hl
        rcases hl with rfl | rfl | rfl
        · exact body_of (by rw [e1]; exact hMk.one)
        · exact body_of (by rw [e2]; exact hMk.two)
        · exact body_of (by rw [e3]; exact hMk.three)
      have hmw : msgWire 12 ⟨h, [], recsOf l1', recsOf l2', recsOf l3'⟩ = msgWire 12 ⟨h, [], [r.1], [], []⟩ := by rw [e1, e2, e3, msgWire_kind]; rfl
      have hcall := spec_MessageWire body_HTTPS (by decide) w12 h _ _ _ _ [] l1' l2' l3' hid hhd.1 hhd.2 (ha'.grow g2to12) (s1.grow g2to12) (s2.grow g2to12) (s3.grow g2to12) hbl (by rw [hmw]; omega)
      rw [hmw] at hcall
      refine WL_fun rfl ((hcall).mono ?_)
      rintro e w13 ⟨v10, rfl, a10, g13⟩
      refine ⟨_, rfl, ?_⟩
      have hS13 := And.intro (g13.kept hS12.1) (g13.kept hS12.2)
      refine WL_nil ⟨hS13, ?_⟩
      refine WD_one (c := 8) (by kernel_rfl) rfl ?_
      refine WL_wanted rfl vv ?_
      refine WL_fun rfl ((laws_same w13 dv v10 _ _ ((hdt.reads.grow g10).grow (g11.trans (g12.trans g13))) a10.reads).mono ?_)
      rintro e w16 ⟨rfl, rfl⟩
      refine ⟨_, rfl, WL_nil ⟨hS13, ?_⟩⟩
      rw [hfin, beq_self_eq_true (msgWire 12 ⟨h, [], [r.1], [], []⟩)]
      refine WT 9 ?_
      refine WD_one (c := 10) (by kernel_rfl) rfl ?_
      refine WL_assign vv (WL_nil ⟨hS13, ?_⟩)
      refine WD_done (by kernel_rfl) ?_
      refine GO ?_
      exact ret1 (v := .bool true) Tryd.results5 rfl ⟨rfl, G10.trans (g11.trans (g12.trans g13))⟩
end Go.Proofs.YtgkhfpkfjajdjaaDoor
