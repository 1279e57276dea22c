/- The laws' own helpers: early. -/
import Derived.Test.YtgkhfpkfjajdjaaDoorG9
set_option linter.unusedVariables false
set_option linter.unusedSimpArgs false
namespace Go.Proofs.YtgkhfpkfjajdjaaDoor
open Go.RowKit
set_option maxHeartbeats 4000000
set_option maxRecDepth 100000

theorem reads_cell {w : World} {b o n cap : Nat} {xs : List Value} (h : ReadsAt w 1 (.slice (some ⟨b, o, none⟩) n cap) n xs) {j : Nat} {x : Value} (hx : xs[j]? = some x) : w.cell? ⟨b, o + j * 1, none⟩ = some x := by
  obtain ⟨_, ao, cap', hv, _, hc⟩ := h
  obtain ⟨a, ha, hca⟩ := hc j x hx
  simp only [Value.slice.injEq] at hv
  rw [← hv.1] at ha
  cases ha
  rw [add_addr] at hca
  rw [Nat.mul_one]
  exact hca
theorem stepR_cells (x : RecM × RecV) : stepCells (sR x) = .int .i64 7 :: (askCells ask0 ++ recCells x) := rfl
theorem laws_early {F : FuncId} {K : KindM} {LB : RecM → Nat} {k : Nat} (hK : KC F K LB k) (w : World) (h : HeadM) (r : RecM × RecV) (hid : h.id < 65536) (hr : RecAt w r) (hE : Errs w) (hKn : Known w) :
    Calls Tryd.prog 12 #[.func (.func F) #[] #[], .int .i64 (k : Int), .agg (hcells h), .agg (recCells r).toArray] w (RetV w (.bool true)) := by
  refine calls_of_WC Tryd.func12 rfl Tryd.ntmps12 rfl ?_
  refine GO ?_
  refine WL_box vv ?_
  intro b6 w0 hb6 h6 g0
  refine WL_box vv ?_
  intro b7 w1 hb7 h7 g1'
  have h6 := g1'.kept h6
  have h7 : w1.heap[b7]? = some (.cells (recCells r).toArray 30 (0, 0)) := h7
  have g1 := g0.trans g1'
  clear g0 g1' hb7 hb6
  refine GO ?_
  refine WL_loadRow vv h6 rfl ?_
  refine WL_loadRow vv h7 rfl ?_
  refine WL_slice (vs := [.agg (recCells r).toArray]) (EvL.eq ⟨rfl, vv, trivial⟩) (by simp) rfl (by simp [Value.cells, recCells_length]) rfl ?_
  intro b15 wa hb15 h15 ga
  have hr1 : RecsAt wa (.slice (some ⟨b15, 0, none⟩) 1 1) [r] := RecsAt.lit (l := [r]) h15 rfl (by decide) (by
    intro x hx
    rw [List.mem_singleton.1 hx]
    exact hr.grow (g1.trans ga))
  refine WL_fun rfl ((laws_message wa k h (.slice none 0 0) (.slice (some ⟨b15, 0, none⟩) 1 1) (.slice none 0 0) (.slice none 0 0) [] [r] [] [] (AsksAt.nil _) hr1 (RecsAt.nil _) (RecsAt.nil _)).mono ?_)
  rintro e w2 ⟨vs, rfl, hM, g2'⟩
  refine ⟨_, rfl, ?_⟩
  have g2 : Grows w1 w2 := ga.trans g2'
  obtain ⟨av', v1', v2', v3', l1', l2', l3', rfl, ha', s1, s2, s3, e1, e2, e3⟩ := hM.at_
  clear hM ga g2' h15 hr1
  obtain ⟨ao0, cap0, rfl⟩ := ha'.at_.value
  obtain ⟨ao1, cap1, rfl⟩ := s1.at_.at_.value
  obtain ⟨ao2, cap2, rfl⟩ := s2.at_.at_.value
  obtain ⟨ao3, cap3, rfl⟩ := s3.at_.at_.value
  refine WL_alloc ?_
  intro b9 w3 hb9 h9 g3
  refine WL_storeRow (new := (msgCells h (.slice ao0 ([] : List AskM).length cap0) (.slice ao1 l1'.length cap1) (.slice ao2 l2'.length cap2) (.slice ao3 l3'.length cap3)).toArray) vv vv h9 rfl rfl (by simp [msgCells, Value.oneCell']) ?_
  intro w4 hw4 h9'
  have g4 : Grows w2 w4 := g3.wrote hw4 hb9
  have G4 := (g1.trans g2).trans g4
  refine GO ?_
  refine WL_loadRow vv h9' rfl ?_
  refine WL_fun rfl ((spec_Ok hK.body hK.bodyOk w4 h _ _ _ _ [] l1' l2' l3' (ha'.grow g4) (s1.grow g4) (s2.grow g4) (s3.grow g4)).mono ?_)
  rintro e w5 ⟨b, rfl, g5, hOk⟩
  refine ⟨_, rfl, ?_⟩
  have G5 := G4.trans g5
  refine WL_not vv ?_
  refine GO ?_
  first | refine WC_sif vv (fun hc => ?_) (fun hc => ?_) | refine WC_if vv (fun hc => ?_) (fun hc => ?_)
  · refine GO ?_
    exact ret1 (v := .bool true) Tryd.results12 rfl ⟨rfl, G5⟩
  have hMk := hOk (by simpa using hc)
  rw [e1, e2, e3] at hMk
  have hMo : MsgOk k ⟨h, [], [r.1], [], []⟩ := hMk.kind
  have hhd := head_of hMo
  have hro : recOk k r.1 = true := by have := hMo.one; simpa using this
  clear hOk
  have g15 := g2.trans (g4.trans g5)
  have h65 := g15.kept h6
  have h75 := g15.kept h7
  have h95 := g5.kept h9'
  refine GO ?_
  refine WL_loadRow vv h75 rfl ?_
  refine WL_build (vs := [(0, .int .i64 7), (2, .agg (recCells r).toArray)]) (l := stepCells (sR r)) (EvL.eq ⟨rfl, vv, rfl, vv, trivial⟩) ⟨⟨_, rfl⟩, ⟨_, rfl⟩, trivial⟩ (by kernel_rfl) ?_
  refine WL_alloc ?_
  intro b10 wb hb10 h10 gb
  refine WL_storeRow (new := (stepCells (sR r)).toArray) vv vv h10 rfl rfl (step_one (x := sR r) (hr.grow (G5.trans gb))) ?_
  intro w6 hw6 h10'
  have g6 : Grows w5 w6 := gb.wrote hw6 hb10
  refine GO ?_
  refine WL_loadRow vv (g6.kept h65) rfl ?_
  refine WL_loadRow vv h10' rfl ?_
  refine WL_build (vs := [(0, .int .i64 2)]) (l := stepCells (sS 2)) rfl ⟨⟨_, rfl⟩, trivial⟩ (by kernel_rfl) ?_
  refine WL_loadRow vv h10' rfl ?_
  refine WL_build (vs := [(0, .int .i64 3)]) (l := stepCells (sS 3)) rfl ⟨⟨_, rfl⟩, trivial⟩ (by kernel_rfl) ?_
  refine WL_loadRow vv h10' rfl ?_
  refine WL_slice (vs := [.agg (stepCells (sR r)).toArray, .agg (stepCells (sS 2)).toArray, .agg (stepCells (sR r)).toArray, .agg (stepCells (sS 3)).toArray, .agg (stepCells (sR r)).toArray]) (EvL.eq ⟨rfl, vv, rfl, vv, rfl, vv, rfl, vv, rfl, vv, trivial⟩) (by simp) rfl (by simp [Value.cells, stepCells_length]) rfl ?_
  intro b29 w7 hb29 h29 g7
  have G7 := (G5.trans g6).trans g7
  have hSt : StepsIn w7 (.slice (some ⟨b29, 0, none⟩) 5 5) [sR r, sS 2, sR r, sS 3, sR r] := StepsIn.lit h29 rfl (by decide) (by
    intro x hx
    simp only [List.mem_cons, List.not_mem_nil, or_false] at hx
    rcases hx with rfl | rfl | rfl | rfl | rfl <;> exact ask0_ok) (by
    intro x hx
    simp only [List.mem_cons, List.not_mem_nil, or_false] at hx
    rcases hx with rfl | rfl | rfl | rfl | rfl
    · exact hr.grow G7
    · exact rec0_at _
    · exact hr.grow G7
    · exact rec0_at _
    · exact hr.grow G7)
  have hel := early_law hK.ok h r.1 hro
  have hso : stepsOf [sR r, sS 2, sR r, sS 3, sR r] = [stepR r.1, stepS 2, stepR r.1, stepS 3, stepR r.1] := rfl
  rw [← hso] at hel
  have hwl := msgWire_le hMo
  have hlen : (MSt.steps K .first (stepsOf [sR r, sS 2, sR r, sS 3, sR r])).2.out.length ≤ 100000000 := by rw [final_length K _ h, hel.2]; exact hwl
  have hlb : ∀ x ∈ [sR r, sS 2, sR r, sS 3, sR r], LB x.1.rec_ ≤ 100000 := by
    intro x hx
    simp only [List.mem_cons, List.not_mem_nil, or_false] at hx
    rcases hx with rfl | rfl | rfl | rfl | rfl
    · exact hK.lb _ hro
    · exact hK.lb0
    · exact hK.lb _ hro
    · exact hK.lb0
    · exact hK.lb _ hro
  refine WL_funv hK.call vv rfl ((hK.build w7 (.slice none 0 0) [] h _ _ (ReadsAt.nil _ _) (by decide) hid hhd.1 hhd.2 hSt (fun e => by cases e) (fun x hx => by have := hlb x hx; simp only [List.length_nil]; omega) (hE.grow G7) (hKn.grow G7)).mono ?_)
  rintro e w8 ⟨v, fv, dv, cs, rfl, hb⟩
  refine ⟨_, rfl, ?_⟩
  obtain rfl := hb.val
  have g8 := hb.grows
  refine WL_alloc ?_
  intro b11 w9 hb11 h11 g9
  refine WL_storeRow (new := #[fv, dv, .int .i64 0]) vv vv h11 rfl rfl hb.one ?_
  intro w10 hw10 h11'
  have g10 : Grows w8 w10 := g9.wrote hw10 hb11
  have G10 := (G7.trans g8).trans g10
  have hcd := hb.codes
  rw [hel.1] at hcd
  obtain ⟨c0, c1, c2, c3, c4, rfl⟩ : ∃ c0 c1 c2 c3 c4, cs = [c0, c1, c2, c3, c4] := by
    have hl := hcd.1
    match cs, hl with
    | [c0, c1, c2, c3, c4], _ => exact ⟨c0, c1, c2, c3, c4, rfl⟩
  obtain rfl : c0 = 1 := hcd.2 0 _ _ rfl rfl
  obtain rfl : c1 = 0 := hcd.2 1 _ _ rfl rfl
  obtain rfl : c2 = 1 := hcd.2 2 _ _ rfl rfl
  obtain rfl : c3 = 0 := hcd.2 3 _ _ rfl rfl
  obtain rfl : c4 = 0 := hcd.2 4 _ _ rfl rfl
  have hfl := hb.faults.reads.grow g10
  have hdt := hb.data.reads.grow g10
  obtain ⟨bf, of, capf, hfv, hcell⟩ := hfl.form (by decide)
  obtain ⟨ad, capd, hdv⟩ := ReadsAt.value hdt
  subst hfv
  have h9w : w10.heap[b9]? = some (.cells (msgCells h (.slice ao0 ([] : List AskM).length cap0) (.slice ao1 l1'.length cap1) (.slice ao2 l2'.length cap2) (.slice ao3 l3'.length cap3)).toArray 42 (0, 0)) := ((g6.trans g7).trans (g8.trans g10)).kept h95
  have hwire : (([] : Bytes) ++ (MSt.steps K .first (stepsOf [sR r, sS 2, sR r, sS 3, sR r])).2.final h) = msgWire k ⟨h, [], [r.1], [], []⟩ := by rw [hel.2]; rfl
  rw [hwire] at hdt hdv
  subst hdv
  refine RUN ?_
  refine WL_index (i := 0) vv (by rfl) (by decide) ?_
  refine WL_want2 rfl vv (by decide) ?_
  refine WL_load_cell vv (hcell 0 _ rfl) ?_
  refine RUN ?_
  refine WL_index (i := 2) vv (by rfl) (by decide) ?_
  refine WL_want2 rfl vv (by decide) ?_
  refine WL_load_cell vv (hcell 2 _ rfl) ?_
  refine RUN ?_
  refine WC_seq (WC_draws (fun w' => w'.heap[b11]? = some (.cells #[.slice (some ⟨bf, of, none⟩) [(1 : Int), 0, 1, 0, 0].length capf, .slice ad (msgWire k ⟨h, [], [r.1], [], []⟩).length capd, .int .i64 0] 49 (0, 0)) ∧ w'.heap[b9]? = some (.cells (msgCells h (.slice ao0 ([] : List AskM).length cap0) (.slice ao1 l1'.length cap1) (.slice ao2 l2'.length cap2) (.slice ao3 l3'.length cap3)).toArray 42 (0, 0)) ∧ ReadsAt w' 1 (.slice (some ⟨bf, of, none⟩) [(1 : Int), 0, 1, 0, 0].length capf) [(1 : Int), 0, 1, 0, 0].length (iv [1, 0, 1, 0, 0])) (by kernel_rfl) (fun w1 g => ⟨g.kept h11', g.kept h9w, hfl.grow g⟩) ?_)
  intro w11 g11 hS
  refine WT 0 ?_
  refine WT 1 ?_
  refine WD_take (i := 2) rfl rfl rfl rfl (by kernel_rfl) (by assumption) (fun w' hS => by exact Y_index (i := 1) vv (by rfl) (by decide)) ?_
  refine WD_take (i := 3) rfl rfl rfl rfl (by kernel_rfl) (by assumption) (fun w' hS => by exact Y_load_cell vv (reads_cell hS.2.2 (j := 1) rfl)) ?_
  refine WT 4 ?_
  refine WT 5 ?_
  refine WD_takeG (i := 6) (c := true) rfl rfl rfl rfl (by rfl) rfl rfl (by kernel_rfl) (by assumption) (fun _ w' hS => by first | exact Y_move vv | exact Y_assign vv | exact Y_nilCheck vv | exact Y_field vv | exact Y_load vv (by first | assumption | exact hS | exact hS.1 | exact hS.2 | exact hS.2.1 | exact hS.2.2) (by rfl) | exact Y_extract vv (by rfl) | exact Y_len vv | exact Y_lss vv vv | exact Y_leq vv vv | exact Y_gtr vv vv | exact Y_geq vv vv | exact Y_eql vv vv | exact Y_neq vv vv | exact Y_pick vv vv vv | exact Y_not vv) (fun h => absurd rfl h) ?_
  refine WD_takeG (i := 7) (c := true) rfl rfl rfl rfl (by rfl) rfl rfl (by kernel_rfl) (by assumption) (fun _ w' hS => by first | exact Y_move vv | exact Y_assign vv | exact Y_nilCheck vv | exact Y_field vv | exact Y_load vv (by first | assumption | exact hS | exact hS.1 | exact hS.2 | exact hS.2.1 | exact hS.2.2) (by rfl) | exact Y_extract vv (by rfl) | exact Y_len vv | exact Y_lss vv vv | exact Y_leq vv vv | exact Y_gtr vv vv | exact Y_geq vv vv | exact Y_eql vv vv | exact Y_neq vv vv | exact Y_pick vv vv vv | exact Y_not vv) (fun h => absurd rfl h) ?_
  refine WD_takeG (i := 8) (c := true) rfl rfl rfl rfl (by rfl) rfl rfl (by kernel_rfl) (by assumption) (fun _ w' hS => by exact Y_index (i := 3) vv (by rfl) (by decide)) (fun h => absurd rfl h) ?_
  refine WD_takeG (i := 9) (c := true) rfl rfl rfl rfl (by rfl) rfl rfl (by kernel_rfl) (by assumption) (fun _ w' hS => by exact Y_load_cell vv (reads_cell hS.2.2 (j := 3) rfl)) (fun h => absurd rfl h) ?_
  refine WD_takeG (i := 10) (c := true) rfl rfl rfl rfl (by rfl) rfl rfl (by kernel_rfl) (by assumption) (fun _ w' hS => by first | exact Y_move vv | exact Y_assign vv | exact Y_nilCheck vv | exact Y_field vv | exact Y_load vv (by first | assumption | exact hS | exact hS.1 | exact hS.2 | exact hS.2.1 | exact hS.2.2) (by rfl) | exact Y_extract vv (by rfl) | exact Y_len vv | exact Y_lss vv vv | exact Y_leq vv vv | exact Y_gtr vv vv | exact Y_geq vv vv | exact Y_eql vv vv | exact Y_neq vv vv | exact Y_pick vv vv vv | exact Y_not vv) (fun h => absurd rfl h) ?_
  refine WT 11 ?_
  refine WT 12 ?_
  refine WD_takeG (i := 13) (c := true) rfl rfl rfl rfl (by rfl) rfl rfl (by kernel_rfl) (by assumption) (fun _ w' hS => by first | exact Y_move vv | exact Y_assign vv | exact Y_nilCheck vv | exact Y_field vv | exact Y_load vv (by first | assumption | exact hS | exact hS.1 | exact hS.2 | exact hS.2.1 | exact hS.2.2) (by rfl) | exact Y_extract vv (by rfl) | exact Y_len vv | exact Y_lss vv vv | exact Y_leq vv vv | exact Y_gtr vv vv | exact Y_geq vv vv | exact Y_eql vv vv | exact Y_neq vv vv | exact Y_pick vv vv vv | exact Y_not vv) (fun h => absurd rfl h) ?_
  refine WD_takeG (i := 14) (c := true) rfl rfl rfl rfl (by rfl) rfl rfl (by kernel_rfl) (by assumption) (fun _ w' hS => by first | exact Y_move vv | exact Y_assign vv | exact Y_nilCheck vv | exact Y_field vv | exact Y_load vv (by first | assumption | exact hS | exact hS.1 | exact hS.2 | exact hS.2.1 | exact hS.2.2) (by rfl) | exact Y_extract vv (by rfl) | exact Y_len vv | exact Y_lss vv vv | exact Y_leq vv vv | exact Y_gtr vv vv | exact Y_geq vv vv | exact Y_eql vv vv | exact Y_neq vv vv | exact Y_pick vv vv vv | exact Y_not vv) (fun h => absurd rfl h) ?_
  refine WD_takeG (i := 15) (c := true) rfl rfl rfl rfl (by rfl) rfl rfl (by kernel_rfl) (by assumption) (fun _ w' hS => by exact Y_index (i := 4) vv (by rfl) (by decide)) (fun h => absurd rfl h) ?_
  refine WD_takeG (i := 16) (c := true) rfl rfl rfl rfl (by rfl) rfl rfl (by kernel_rfl) (by assumption) (fun _ w' hS => by exact Y_load_cell vv (reads_cell hS.2.2 (j := 4) rfl)) (fun h => absurd rfl h) ?_
  refine WD_takeG (i := 17) (c := true) rfl rfl rfl rfl (by rfl) rfl rfl (by kernel_rfl) (by assumption) (fun _ w' hS => by first | exact Y_move vv | exact Y_assign vv | exact Y_nilCheck vv | exact Y_field vv | exact Y_load vv (by first | assumption | exact hS | exact hS.1 | exact hS.2 | exact hS.2.1 | exact hS.2.2) (by rfl) | exact Y_extract vv (by rfl) | exact Y_len vv | exact Y_lss vv vv | exact Y_leq vv vv | exact Y_gtr vv vv | exact Y_geq vv vv | exact Y_eql vv vv | exact Y_neq vv vv | exact Y_pick vv vv vv | exact Y_not vv) (fun h => absurd rfl h) ?_
  refine WT 18 ?_
  refine WT 19 ?_
  refine WD_takeG (i := 20) (c := true) rfl rfl rfl rfl (by rfl) rfl rfl (by kernel_rfl) (by assumption) (fun _ w' hS => by first | exact Y_move vv | exact Y_assign vv | exact Y_nilCheck vv | exact Y_field vv | exact Y_load vv (by first | assumption | exact hS | exact hS.1 | exact hS.2 | exact hS.2.1 | exact hS.2.2) (by rfl) | exact Y_extract vv (by rfl) | exact Y_len vv | exact Y_lss vv vv | exact Y_leq vv vv | exact Y_gtr vv vv | exact Y_geq vv vv | exact Y_eql vv vv | exact Y_neq vv vv | exact Y_pick vv vv vv | exact Y_not vv) (fun h => absurd rfl h) ?_
  refine WD_takeG (i := 21) (c := true) rfl rfl rfl rfl (by rfl) rfl rfl (by kernel_rfl) (by assumption) (fun _ w' hS => by first | exact Y_move vv | exact Y_assign vv | exact Y_nilCheck vv | exact Y_field vv | exact Y_load vv (by first | assumption | exact hS | exact hS.1 | exact hS.2 | exact hS.2.1 | exact hS.2.2) (by rfl) | exact Y_extract vv (by rfl) | exact Y_len vv | exact Y_lss vv vv | exact Y_leq vv vv | exact Y_gtr vv vv | exact Y_geq vv vv | exact Y_eql vv vv | exact Y_neq vv vv | exact Y_pick vv vv vv | exact Y_not vv) (fun h => absurd rfl h) ?_
  refine WD_takeG (i := 22) (c := true) rfl rfl rfl rfl (by rfl) rfl rfl (by kernel_rfl) (by assumption) (fun _ w' hS => by exact Y_loadRow vv hS.2.1 rfl) (fun h => absurd rfl h) ?_
  refine WD_one (c := 23) (by kernel_rfl) rfl ?_
  refine WL_want2 rfl vv (by decide) ?_
  have G2x : Grows w2 w11 := ((g4.trans g5).trans (g6.trans g7)).trans ((g8.trans g10).trans g11)
  have hbl : ∀ l ∈ [l1', l2', l3'], ∀ x ∈ l, (body k x.1).length < 65536 := by
    intro l hl
    simp only [List.mem_cons, List.not_mem_nil, or_false] at hl
    rcases hl with rfl | rfl | rfl
    · exact body_of (by rw [e1]; exact hMk.one)
    · exact body_of (by rw [e2]; exact hMk.two)
    · exact body_of (by rw [e3]; exact hMk.three)
  have hmw : msgWire k ⟨h, [], recsOf l1', recsOf l2', recsOf l3'⟩ = msgWire k ⟨h, [], [r.1], [], []⟩ := by rw [e1, e2, e3, msgWire_kind]; rfl
  have hcall := spec_MessageWire hK.body hK.lt w11 h _ _ _ _ [] l1' l2' l3' hid hhd.1 hhd.2 (ha'.grow G2x) (s1.grow G2x) (s2.grow G2x) (s3.grow G2x) hbl (by rw [hmw]; omega)
  rw [hmw] at hcall
  refine WL_fun rfl ((hcall).mono ?_)
  rintro e w12 ⟨v12, rfl, a12, g12⟩
  refine ⟨_, rfl, ?_⟩
  have hS12 := And.intro (g12.kept hS.1) (And.intro (g12.kept hS.2.1) (hS.2.2.grow g12))
  refine WL_nil ⟨hS12, ?_⟩
  refine WD_one (c := 24) (by kernel_rfl) rfl ?_
  refine WL_want2 rfl vv (by decide) ?_
  refine WL_fun rfl ((laws_same w12 _ v12 _ _ (hdt.grow (g11.trans g12)) a12.reads).mono ?_)
  rintro e w13 ⟨rfl, rfl⟩
  refine ⟨_, rfl, WL_nil ⟨hS12, ?_⟩⟩
  rw [beq_self_eq_true (msgWire k ⟨h, [], [r.1], [], []⟩)]
  refine WT 25 ?_
  refine WD_one (c := 26) (by kernel_rfl) rfl ?_
  refine WL_assign vv (WL_nil ⟨hS12, ?_⟩)
  refine WD_done (by kernel_rfl) ?_
  refine GO ?_
  exact ret1 (v := .bool true) Tryd.results12 rfl ⟨rfl, G10.trans (g11.trans g12)⟩
end Go.Proofs.YtgkhfpkfjajdjaaDoor
