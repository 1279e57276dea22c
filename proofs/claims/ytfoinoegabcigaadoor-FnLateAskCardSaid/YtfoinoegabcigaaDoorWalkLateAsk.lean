/- laws.FnLateAsk: the law returns true for each input that its row speaks of: its walk. -/
import Derived.Test.YtfoinoegabcigaaDoorHd
import Derived.Test.YtfoinoegabcigaaDoorG11
import Derived.Test.YtfoinoegabcigaaDoorKNone
set_option linter.unusedVariables false
set_option linter.unusedSimpArgs false
namespace Go.Proofs.YtfoinoegabcigaaDoor
open Go.RowKit
set_option maxHeartbeats 4000000
set_option maxRecDepth 100000

theorem laws_FnLateAsk (w : World) (h : HeadM) (hid : h.id < 65536) (x1 : AskM) (hx1 : AskOk x1) (x2 : Nat) (hx2 : x2 < 256) (hE : Errs w) (hKn : Known w) : Calls Tryd.prog 7 #[.agg (hcells h), .agg (askCells x1).toArray, .int .u8 (x2 : Int)] w (RetV w (.bool true)) := by
  refine calls_of_WC Tryd.func7 rfl Tryd.ntmps7 rfl ?_
  refine GO ?_
  refine WL_box vv ?_
  intro b3 w0 hb3 h3 g0
  refine WL_box vv ?_
  intro b4 w1 hb4 h4 g1'
  have h3 : w1.heap[b3]? = some (.cells (hcells h) 28 (0, 0)) := g1'.kept h3
  have h4 : w1.heap[b4]? = some (.cells (askCells x1).toArray 37 (0, 0)) := h4
  have g1 := g0.trans g1'
  refine GO ?_
  refine WL_loadRow vv h3 rfl ?_
  refine WL_fun rfl ((laws_head w1 h).mono ?_)
  rintro e w2 ⟨rfl, g2⟩
  refine ⟨_, rfl, ?_⟩
  have g2 : Grows w1 w2 := g2
  refine WL_fun rfl ((spec_headOk w2 h).mono ?_)
  rintro e w3 ⟨rfl, g3⟩
  refine ⟨_, rfl, ?_⟩
  have g3 : Grows w2 w3 := g3
  have G3 := g1.trans (g2.trans g3)
  cases hok : headOk h with
  | false =>
    refine RUN ?_
    exact ret1 (v := .bool true) Tryd.results7 rfl ⟨rfl, G3⟩
  | true =>
    obtain ⟨hop, hcode⟩ := headOk_iff hok
    have h33 := (g2.trans g3).kept h3
    refine RUN ?_
    have h43 := (g2.trans g3).kept h4
    refine RUN ?_
    refine WL_fun rfl ((spec_NameOk w3 x1.name hx1.name).mono ?_)
    rintro e wn ⟨rfl, rfl⟩
    refine ⟨_, rfl, ?_⟩
    cases hnm : nameOk x1.name with
    | false =>
      refine RUN ?_
      exact ret1 (v := .bool true) Tryd.results7 rfl ⟨rfl, G3⟩
    | true =>
    refine RUN ?_
    refine WL_loadRow vv h43 rfl ?_
    refine WL_build (vs := [(0, .int .i64 6), (1, .agg (askCells x1).toArray)]) (l := stepCells (sA x1)) (EvL.eq ⟨rfl, vv, rfl, vv, trivial⟩) ⟨⟨_, rfl⟩, ⟨_, rfl⟩, trivial⟩ (by kernel_rfl) ?_
    refine WL_alloc ?_
    intro b7 wy hb7 h7 gy
    refine WL_storeRow (new := (stepCells (sA x1)).toArray) vv vv h7 rfl rfl (step_one (x := sA x1) (rec0_at wy)) ?_
    intro wz hwz h7'
    have gz : Grows w3 wz := gy.wrote hwz hb7
    refine GO ?_
    refine WL_loadRow vv (gz.kept h33) rfl ?_
    refine WL_build (vs := [(0, .int .i64 2)]) (l := stepCells (sS 2)) rfl ⟨⟨_, rfl⟩, trivial⟩ (by kernel_rfl) ?_
    refine WL_loadRow vv h7' rfl ?_
    refine GO ?_
    refine WL_y (Y_remK (a := x2) (b := 3) vv rfl (by decide)) ?_
    generalize hk2 : x2 % 3 = k2
    have hkl2 : k2 < 3 := by omega
    refine WL_conv (c := (k2 : Int)) vv (by rw [IntWalk.i64_in _ (by omega)]) ?_
    refine WL_add (c := ((3 + k2 : Nat) : Int)) vv vv (by rw [IntWalk.i64_in _ (by omega)]; omega) ?_
    generalize ha2 : 3 + k2 = a2
    have hlaw := late_law kNone h x1 hnm a2 (by omega) (by omega)
    refine WL_build (vs := [(0, .int .i64 (a2 : Int))]) (l := stepCells (sS (a2 : Int))) (EvL.eq ⟨rfl, vv, trivial⟩) ⟨⟨_, rfl⟩, trivial⟩ (by kernel_rfl) ?_
    refine WL_loadRow vv h7' rfl ?_
    refine WL_slice (vs := [.agg (stepCells (sS 2)).toArray, .agg (stepCells (sA x1)).toArray, .agg (stepCells (sS (a2 : Int))).toArray, .agg (stepCells (sA x1)).toArray]) (EvL.eq ⟨rfl, vv, rfl, vv, rfl, vv, rfl, vv, trivial⟩) (by simp) rfl (by simp [Value.cells, stepCells_length]) rfl ?_
    intro b13 w4 hb13 h13 g4'
    have g4 : Grows w3 w4 := gz.trans g4'
    have G4 := G3.trans g4
    have hSt : StepsIn w4 (.slice (some ⟨b13, 0, none⟩) 4 4) [sS 2, sA x1, sS (a2 : Int), sA x1] := StepsIn.lit (l := [sS 2, sA x1, sS (a2 : Int), sA x1]) h13 rfl (by decide) (by
      intro x hx
      simp only [List.mem_cons, List.not_mem_nil, or_false] at hx
      rcases hx with rfl | rfl | rfl | rfl
      · exact ask0_ok
      · exact hx1
      · exact ask0_ok
      · exact hx1) (by
      intro x hx
      simp only [List.mem_cons, List.not_mem_nil, or_false] at hx
      rcases hx with rfl | rfl | rfl | rfl <;> exact rec0_at w4)
    have hnl := nameOk_len hnm
    have hwl := (wire_length hnm).1
    have hmw : (msgWire 0 ⟨h, [x1], [], [], []⟩).length ≤ 1000 := by
      simp only [msgWire, List.length_append, headWire, hdr_length, List.flatMap_cons, List.flatMap_nil, List.append_nil, List.length_nil, askWire, two_length]
      omega
    have hout : (MSt.steps kNone .first (stepsOf [sS 2, sA x1, sS (a2 : Int), sA x1])).2.out.length ≤ 1000 := by
      rw [final_length kNone _ h]
      show ((MSt.steps kNone .first [stepS 2, stepA x1, stepS (a2 : Int), stepA x1]).2.final h).length ≤ 1000
      rw [hlaw.2]
      exact hmw
    refine GO ?_
    refine WL_fun rfl ((build_Asks w4 (.slice none 0 0) [] h _ _ (ReadsAt.nil _ _) (by decide) hid hop hcode hSt (fun _ x hx => by
      simp only [List.mem_cons, List.not_mem_nil, or_false] at hx
      rcases hx with rfl | rfl | rfl | rfl
      · decide
      · show (6 : Int) ≠ 7; decide
      · show (a2 : Int) ≠ 7; omega
      · show (6 : Int) ≠ 7; decide) (fun x hx => by simp only [List.length_nil]; omega) (hE.grow G4) (hKn.grow G4)).mono ?_)
    rintro e w5 ⟨v, fv, dv, cs, rfl, hb⟩
    refine ⟨_, rfl, ?_⟩
    obtain rfl := hb.val
    have g5 := hb.grows
    have hdt0 : AccB w4.heap.size w5 dv (msgWire 0 ⟨h, [x1], [], [], []⟩) := by
      have := hb.data
      rw [show (([] : Bytes) ++ (MSt.steps kNone .first (stepsOf [sS 2, sA x1, sS (a2 : Int), sA x1])).2.final h) = msgWire 0 ⟨h, [x1], [], [], []⟩ from hlaw.2] at this
      exact this
    have hcs : cs = [0, 0, 0, 2] := by
      have hc := hb.codes
      rw [show (MSt.steps kNone .first (stepsOf [sS 2, sA x1, sS (a2 : Int), sA x1])).1 = [.none, .none, .none, .done] from hlaw.1] at hc
      match cs, hc.1 with
      | [c0, c1, c2, c3], _ => rw [show c0 = 0 from hc.2 0 _ _ rfl rfl, show c1 = 0 from hc.2 1 _ _ rfl rfl, show c2 = 0 from hc.2 2 _ _ rfl rfl, show c3 = 2 from hc.2 3 _ _ rfl rfl]
    subst hcs
    have hflt : ReadsAt w5 1 fv 4 [.int .i64 0, .int .i64 0, .int .i64 0, .int .i64 2] := hb.faults.reads
    have hone := hb.one
    obtain ⟨bf, of, capf, hfv, _⟩ := hflt.form (by decide)
    subst hfv
    refine WL_alloc ?_
    intro b5 wx hb5 h5 gx
    refine WL_storeRow (new := #[.slice (some ⟨bf, of, none⟩) 4 capf, dv, .int .i64 0]) vv vv h5 rfl rfl hone ?_
    intro w6 hw6 h5'
    have g6 : Grows w5 w6 := gx.wrote hw6 hb5
    have G6 := (G4.trans g5).trans g6
    have hdt := hdt0.grow g6
    have hflt6 := ReadsAt.grow hflt g6
    have h36 := (g4.trans (g5.trans g6)).kept h33
    have h46 := (g4.trans (g5.trans g6)).kept h43
    refine RUN ?_
    refine WL_index (i := 0) vv (by rfl) (by decide) ?_
    refine WL_want2 rfl vv (by decide) ?_
    refine WL_load_cell vv (reads_cell hflt6 (j := 0) rfl) ?_
    refine RUN ?_
    refine WL_index (i := 1) vv (by rfl) (by decide) ?_
    refine WL_want2 rfl vv (by decide) ?_
    refine WL_load_cell vv (reads_cell hflt6 (j := 1) rfl) ?_
    refine RUN ?_
    refine WL_index (i := 2) vv (by rfl) (by decide) ?_
    refine WL_want2 rfl vv (by decide) ?_
    refine WL_load_cell vv (reads_cell hflt6 (j := 2) rfl) ?_
    refine RUN ?_
    refine WL_index (i := 3) vv (by rfl) (by decide) ?_
    refine WL_want2 rfl vv (by decide) ?_
    refine WL_load_cell vv (reads_cell hflt6 (j := 3) rfl) ?_
    refine RUN ?_
    refine WC_seq (WC_draws (fun w' => w'.heap[b5]? = some (.cells #[.slice (some ⟨bf, of, none⟩) 4 capf, dv, .int .i64 0] 45 (0, 0)) ∧ w'.heap[b3]? = some (.cells (hcells h) 28 (0, 0)) ∧ w'.heap[b4]? = some (.cells (askCells x1).toArray 37 (0, 0))) (by kernel_rfl) (fun w1 g => ⟨g.kept h5', g.kept h36, g.kept h46⟩) ?_)
    intro w7 g7 hS
    refine WT 0 ?_
    refine WT 1 ?_
    refine WD_take (i := 2) rfl rfl rfl rfl (by kernel_rfl) (by assumption) (fun w' hS => by exact Y_loadRow vv hS.2.1 rfl) ?_
    refine WD_take (i := 3) rfl rfl rfl rfl (by kernel_rfl) (by assumption) (fun w' hS => by exact Y_loadRow vv hS.2.2 rfl) ?_
    refine WD_one (c := 4) (by kernel_rfl) rfl ?_
    refine WL_slice (vs := [.agg (askCells x1).toArray]) (EvL.eq ⟨rfl, vv, trivial⟩) (by simp) rfl (by simp [Value.cells, askCells]) rfl ?_
    intro b73 wa hb73 h73 ga
    have hSa := And.intro (ga.kept hS.1) (And.intro (ga.kept hS.2.1) (ga.kept hS.2.2))
    refine WL_nil ⟨hSa, ?_⟩
    have hAs : AsksAt wa (.slice (some ⟨b73, 0, none⟩) 1 1) [x1] := AsksAt.lit1 h73 hx1
    refine WD_one (c := 5) (by kernel_rfl) rfl ?_
    refine WL_fun rfl ((laws_message wa 0 h (.slice (some ⟨b73, 0, none⟩) 1 1) (.slice none 0 0) (.slice none 0 0) (.slice none 0 0) [x1] [] [] [] hAs (RecsAt.nil _) (RecsAt.nil _) (RecsAt.nil _)).mono ?_)
    rintro e wb ⟨vs, rfl, hM, gb⟩
    refine ⟨_, rfl, ?_⟩
    obtain ⟨av', v1', v2', v3', l1', l2', l3', rfl, ha', s1, s2, s3, e1, e2, e3⟩ := hM.at_
    clear hM
    have hSb := And.intro (gb.kept hSa.1) (And.intro (gb.kept hSa.2.1) (gb.kept hSa.2.2))
    refine WL_nil ⟨hSb, ?_⟩
    have z1 := recs_none e1
    have z2 := recs_none e2
    have z3 := recs_none e3
    subst z1 z2 z3
    refine WD_one (c := 6) (by kernel_rfl) rfl ?_
    refine WL_fun rfl ((spec_MessageWire body_None (by decide) wb h _ _ _ _ [x1] [] [] [] hid hop hcode ha' s1 s2 s3 (by simp) (Nat.le_trans hmw (by decide))).mono ?_)
    rintro e wc ⟨vc, rfl, ac, gc⟩
    refine ⟨_, rfl, ?_⟩
    have ac : AccB wb.heap.size wc vc (msgWire 0 ⟨h, [x1], [], [], []⟩) := ac
    have hSc := And.intro (gc.kept hSb.1) (And.intro (gc.kept hSb.2.1) (gc.kept hSb.2.2))
    refine WL_nil ⟨hSc, ?_⟩
    refine WD_one (c := 7) (by kernel_rfl) rfl ?_
    refine WL_fun rfl ((laws_same wc dv vc _ _ (hdt.grow (g7.trans (ga.trans (gb.trans gc)))).reads ac.reads).mono ?_)
    rintro e wd ⟨rfl, rfl⟩
    refine ⟨_, rfl, WL_nil ⟨hSc, ?_⟩⟩
    rw [beq_self_eq_true (msgWire 0 ⟨h, [x1], [], [], []⟩)]
    refine WD_one (c := 8) (by kernel_rfl) rfl ?_
    refine WL_assign vv (WL_nil ⟨hSc, ?_⟩)
    refine WD_done (by kernel_rfl) ?_
    refine GO ?_
    exact ret1 (v := .bool true) Tryd.results7 rfl ⟨rfl, (G6.trans g7).trans (ga.trans (gb.trans gc))⟩
end Go.Proofs.YtfoinoegabcigaaDoor
