/- laws.FnBackwards: the law returns true for each input that its row speaks of: its walk. -/
import Derived.Test.YtfoinoegabcigaaDoorHd
import Derived.Test.YtfoinoegabcigaaDoorG11
set_option linter.unusedVariables false
set_option linter.unusedSimpArgs false
namespace Go.Proofs.YtfoinoegabcigaaDoor
open Go.RowKit
set_option maxHeartbeats 4000000
set_option maxRecDepth 100000

theorem laws_FnBackwards (w : World) (h : HeadM) (hid : h.id < 65536) (x1 : Nat) (hx1 : x1 < 256) (x2 : Nat) (hx2 : x2 < 256) (hE : Errs w) (hKn : Known w) : Calls Tryd.prog 5 #[.agg (hcells h), .int .u8 (x1 : Int), .int .u8 (x2 : Int)] w (RetV w (.bool true)) := by
  refine calls_of_WC Tryd.func5 rfl Tryd.ntmps5 rfl ?_
  refine GO ?_
  refine WL_box vv ?_
  intro b3 w1 hb3 h3 g1
  have h3 : w1.heap[b3]? = some (.cells (hcells h) 28 (0, 0)) := h3
  refine GO ?_
  refine WL_y (Y_remK (a := x1) (b := 4) vv rfl (by decide)) ?_
  generalize hk1 : x1 % 4 = k1
  have hkl1 : k1 < 4 := by omega
  refine WL_conv (c := (k1 : Int)) vv (by rw [IntWalk.i64_in _ (by omega)]) ?_
  refine WL_add (c := ((2 + k1 : Nat) : Int)) vv vv (by rw [IntWalk.i64_in _ (by omega)]; omega) ?_
  generalize ha1 : 2 + k1 = a1
  refine GO ?_
  refine WL_y (Y_remK (a := x2) (b := 4) vv rfl (by decide)) ?_
  generalize hk2 : x2 % 4 = k2
  have hkl2 : k2 < 4 := by omega
  refine WL_conv (c := (k2 : Int)) vv (by rw [IntWalk.i64_in _ (by omega)]) ?_
  refine WL_add (c := ((2 + k2 : Nat) : Int)) vv vv (by rw [IntWalk.i64_in _ (by omega)]; omega) ?_
  generalize ha2 : 2 + k2 = a2
  refine GO ?_
  refine WL_loadRow vv h3 rfl ?_
  refine WL_fun rfl ((laws_head w1 h).mono ?_)
  rintro e w2 ⟨rfl, g2⟩
  refine ⟨_, rfl, ?_⟩
  have g2 : Grows w1 w2 := g2
  refine WL_fun rfl ((spec_headOk w2 h).mono ?_)
  rintro e w3 ⟨rfl, g3⟩
  refine ⟨_, rfl, ?_⟩
  have g3 : Grows w2 w3 := g3
  have G3 := g1.trans (g2.trans g3)
  cases hok : headOk h with
  | false =>
    refine RUN ?_
    exact ret1 (v := .bool true) Tryd.results5 rfl ⟨rfl, G3⟩
  | true =>
    obtain ⟨hop, hcode⟩ := headOk_iff hok
    have h33 := (g2.trans g3).kept h3
    refine RUN ?_
    by_cases hle : a1 ≤ a2
    · rw [show decide ((a1 : Int) ≤ (a2 : Int)) = true from decide_eq_true (by omega)]
      refine RUN ?_
      exact ret1 (v := .bool true) Tryd.results5 rfl ⟨rfl, G3⟩
    rw [show decide ((a1 : Int) ≤ (a2 : Int)) = false from decide_eq_false (by omega)]
    have hlaw := back_law kNone h a1 a2 (by omega) (by omega) (by omega)
    refine RUN ?_
    refine WL_loadRow vv h33 rfl ?_
    refine GO ?_
    refine WL_build (vs := [(0, .int .i64 (a1 : Int))]) (l := stepCells (sS (a1 : Int))) (EvL.eq ⟨rfl, vv, trivial⟩) ⟨⟨_, rfl⟩, trivial⟩ (by kernel_rfl) ?_
    refine GO ?_
    refine WL_build (vs := [(0, .int .i64 (a2 : Int))]) (l := stepCells (sS (a2 : Int))) (EvL.eq ⟨rfl, vv, trivial⟩) ⟨⟨_, rfl⟩, trivial⟩ (by kernel_rfl) ?_
    refine WL_slice (vs := [.agg (stepCells (sS (a1 : Int))).toArray, .agg (stepCells (sS (a2 : Int))).toArray]) (EvL.eq ⟨rfl, vv, rfl, vv, trivial⟩) (by simp) rfl (by simp [Value.cells, stepCells_length]) rfl ?_
    intro b13 w4 hb13 h13 g4
    have G4 := G3.trans g4
    have hSt : StepsIn w4 (.slice (some ⟨b13, 0, none⟩) 2 2) [sS (a1 : Int), sS (a2 : Int)] := StepsIn.lit (l := [sS (a1 : Int), sS (a2 : Int)]) h13 rfl (by decide) (by
      intro x hx
      simp only [List.mem_cons, List.not_mem_nil, or_false] at hx
      rcases hx with rfl | rfl <;> exact ask0_ok) (by
      intro x hx
      simp only [List.mem_cons, List.not_mem_nil, or_false] at hx
      rcases hx with rfl | rfl <;> exact rec0_at w4)
    have hout : (MSt.steps kNone .first (stepsOf [sS (a1 : Int), sS (a2 : Int)])).2.out.length = 12 := by
      rw [final_length kNone _ h]
      show ((MSt.steps kNone .first [stepS (a1 : Int), stepS (a2 : Int)]).2.final h).length = 12
      rw [hlaw.2]
      rfl
    refine GO ?_
    refine WL_fun rfl ((build_Asks w4 (.slice none 0 0) [] h _ _ (ReadsAt.nil _ _) (by decide) hid hop hcode hSt (fun _ x hx => by
      simp only [List.mem_cons, List.not_mem_nil, or_false] at hx
      rcases hx with rfl | rfl
      · show (a1 : Int) ≠ 7; omega
      · show (a2 : Int) ≠ 7; omega) (fun x hx => by rw [hout]; simp only [List.length_nil]; omega) (hE.grow G4) (hKn.grow G4)).mono ?_)
    rintro e w5 ⟨v, fv, dv, cs, rfl, hb⟩
    refine ⟨_, rfl, ?_⟩
    obtain rfl := hb.val
    have g5 := hb.grows
    have hdt0 : AccB w4.heap.size w5 dv (hdr h.id h.bits 0 0 0 0) := by
      have := hb.data
      rw [show (([] : Bytes) ++ (MSt.steps kNone .first (stepsOf [sS (a1 : Int), sS (a2 : Int)])).2.final h) = hdr h.id h.bits 0 0 0 0 from hlaw.2] at this
      exact this
    have hcs : cs = [0, 2] := by
      have hc := hb.codes
      rw [show (MSt.steps kNone .first (stepsOf [sS (a1 : Int), sS (a2 : Int)])).1 = [.none, .done] from hlaw.1] at hc
      match cs, hc.1 with
      | [c0, c1], _ => rw [show c0 = 0 from hc.2 0 _ _ rfl rfl, show c1 = 2 from hc.2 1 _ _ rfl rfl]
    subst hcs
    have hflt : ReadsAt w5 1 fv 2 [.int .i64 0, .int .i64 2] := hb.faults.reads
    have hone := hb.one
    obtain ⟨bf, of, capf, hfv, _⟩ := hflt.form (by decide)
    subst hfv
    refine WL_alloc ?_
    intro b5 wx hb5 h5 gx
    refine WL_storeRow (new := #[.slice (some ⟨bf, of, none⟩) 2 capf, dv, .int .i64 0]) vv vv h5 rfl rfl hone ?_
    intro w6 hw6 h5'
    have g6 : Grows w5 w6 := gx.wrote hw6 hb5
    have G6 := (G4.trans g5).trans g6
    have hdt := hdt0.grow g6
    have hflt6 := ReadsAt.grow hflt g6
    have h36 := (g4.trans (g5.trans g6)).kept h33
    refine GO ?_
    refine WC_seq (WC_draws (fun w' => w'.heap[b5]? = some (.cells #[.slice (some ⟨bf, of, none⟩) 2 capf, dv, .int .i64 0] 45 (0, 0)) ∧ w'.heap[b3]? = some (.cells (hcells h) 28 (0, 0)) ∧ ReadsAt w' 1 (.slice (some ⟨bf, of, none⟩) 2 capf) 2 [.int .i64 0, .int .i64 2]) (by kernel_rfl) (fun w1 g => ⟨g.kept h5', g.kept h36, hflt6.grow g⟩) ?_)
    intro w7 g7 hS
    refine WT 0 ?_
    refine WT 1 ?_
    refine WT 2 ?_
    refine WT 3 ?_
    refine WT 4 ?_
    refine WD_takeG (i := 5) (c := true) rfl rfl rfl rfl (by rfl) rfl rfl (by kernel_rfl) (by assumption) (fun _ w' hS => by first | exact Y_move vv | exact Y_assign vv | exact Y_nilCheck vv | exact Y_field vv | exact Y_load vv (by first | assumption | exact hS | exact hS.1 | exact hS.2 | exact hS.2.1 | exact hS.2.2) (by rfl) | exact Y_extract vv (by rfl) | exact Y_len vv | exact Y_lss vv vv | exact Y_leq vv vv | exact Y_gtr vv vv | exact Y_geq vv vv | exact Y_eql vv vv | exact Y_neq vv vv | exact Y_pick vv vv vv | exact Y_not vv) (fun h => absurd rfl h) ?_
    refine WD_takeG (i := 6) (c := true) rfl rfl rfl rfl (by rfl) rfl rfl (by kernel_rfl) (by assumption) (fun _ w' hS => by first | exact Y_move vv | exact Y_assign vv | exact Y_nilCheck vv | exact Y_field vv | exact Y_load vv (by first | assumption | exact hS | exact hS.1 | exact hS.2 | exact hS.2.1 | exact hS.2.2) (by rfl) | exact Y_extract vv (by rfl) | exact Y_len vv | exact Y_lss vv vv | exact Y_leq vv vv | exact Y_gtr vv vv | exact Y_geq vv vv | exact Y_eql vv vv | exact Y_neq vv vv | exact Y_pick vv vv vv | exact Y_not vv) (fun h => absurd rfl h) ?_
    refine WD_takeG (i := 7) (c := true) rfl rfl rfl rfl (by rfl) rfl rfl (by kernel_rfl) (by assumption) (fun _ w' hS => by first | exact Y_move vv | exact Y_assign vv | exact Y_nilCheck vv | exact Y_field vv | exact Y_load vv (by first | assumption | exact hS | exact hS.1 | exact hS.2 | exact hS.2.1 | exact hS.2.2) (by rfl) | exact Y_extract vv (by rfl) | exact Y_len vv | exact Y_lss vv vv | exact Y_leq vv vv | exact Y_gtr vv vv | exact Y_geq vv vv | exact Y_eql vv vv | exact Y_neq vv vv | exact Y_pick vv vv vv | exact Y_not vv) (fun h => absurd rfl h) ?_
    refine WT 8 ?_
    refine WT 9 ?_
    refine WD_takeG (i := 10) (c := true) rfl rfl rfl rfl (by rfl) rfl rfl (by kernel_rfl) (by assumption) (fun _ w' hS => by first | exact Y_move vv | exact Y_assign vv | exact Y_nilCheck vv | exact Y_field vv | exact Y_load vv (by first | assumption | exact hS | exact hS.1 | exact hS.2 | exact hS.2.1 | exact hS.2.2) (by rfl) | exact Y_extract vv (by rfl) | exact Y_len vv | exact Y_lss vv vv | exact Y_leq vv vv | exact Y_gtr vv vv | exact Y_geq vv vv | exact Y_eql vv vv | exact Y_neq vv vv | exact Y_pick vv vv vv | exact Y_not vv) (fun h => absurd rfl h) ?_
    refine WD_takeG (i := 11) (c := true) rfl rfl rfl rfl (by rfl) rfl rfl (by kernel_rfl) (by assumption) (fun _ w' hS => by first | exact Y_move vv | exact Y_assign vv | exact Y_nilCheck vv | exact Y_field vv | exact Y_load vv (by first | assumption | exact hS | exact hS.1 | exact hS.2 | exact hS.2.1 | exact hS.2.2) (by rfl) | exact Y_extract vv (by rfl) | exact Y_len vv | exact Y_lss vv vv | exact Y_leq vv vv | exact Y_gtr vv vv | exact Y_geq vv vv | exact Y_eql vv vv | exact Y_neq vv vv | exact Y_pick vv vv vv | exact Y_not vv) (fun h => absurd rfl h) ?_
    refine WD_takeG (i := 12) (c := true) rfl rfl rfl rfl (by rfl) rfl rfl (by kernel_rfl) (by assumption) (fun _ w' hS => by exact Y_index (i := 0) vv rfl (by decide)) (fun h => absurd rfl h) ?_
    refine WD_takeG (i := 13) (c := true) rfl rfl rfl rfl (by rfl) rfl rfl (by kernel_rfl) (by assumption) (fun _ w' hS => by exact Y_load_cell vv (reads_cell hS.2.2 (j := 0) rfl)) (fun h => absurd rfl h) ?_
    refine WD_takeG (i := 14) (c := true) rfl rfl rfl rfl (by rfl) rfl rfl (by kernel_rfl) (by assumption) (fun _ w' hS => by first | exact Y_move vv | exact Y_assign vv | exact Y_nilCheck vv | exact Y_field vv | exact Y_load vv (by first | assumption | exact hS | exact hS.1 | exact hS.2 | exact hS.2.1 | exact hS.2.2) (by rfl) | exact Y_extract vv (by rfl) | exact Y_len vv | exact Y_lss vv vv | exact Y_leq vv vv | exact Y_gtr vv vv | exact Y_geq vv vv | exact Y_eql vv vv | exact Y_neq vv vv | exact Y_pick vv vv vv | exact Y_not vv) (fun h => absurd rfl h) ?_
    refine WT 15 ?_
    refine WT 16 ?_
    refine WD_takeG (i := 17) (c := true) rfl rfl rfl rfl (by rfl) rfl rfl (by kernel_rfl) (by assumption) (fun _ w' hS => by first | exact Y_move vv | exact Y_assign vv | exact Y_nilCheck vv | exact Y_field vv | exact Y_load vv (by first | assumption | exact hS | exact hS.1 | exact hS.2 | exact hS.2.1 | exact hS.2.2) (by rfl) | exact Y_extract vv (by rfl) | exact Y_len vv | exact Y_lss vv vv | exact Y_leq vv vv | exact Y_gtr vv vv | exact Y_geq vv vv | exact Y_eql vv vv | exact Y_neq vv vv | exact Y_pick vv vv vv | exact Y_not vv) (fun h => absurd rfl h) ?_
    refine WD_takeG (i := 18) (c := true) rfl rfl rfl rfl (by rfl) rfl rfl (by kernel_rfl) (by assumption) (fun _ w' hS => by first | exact Y_move vv | exact Y_assign vv | exact Y_nilCheck vv | exact Y_field vv | exact Y_load vv (by first | assumption | exact hS | exact hS.1 | exact hS.2 | exact hS.2.1 | exact hS.2.2) (by rfl) | exact Y_extract vv (by rfl) | exact Y_len vv | exact Y_lss vv vv | exact Y_leq vv vv | exact Y_gtr vv vv | exact Y_geq vv vv | exact Y_eql vv vv | exact Y_neq vv vv | exact Y_pick vv vv vv | exact Y_not vv) (fun h => absurd rfl h) ?_
    refine WD_takeG (i := 19) (c := true) rfl rfl rfl rfl (by rfl) rfl rfl (by kernel_rfl) (by assumption) (fun _ w' hS => by exact Y_index (i := 1) vv rfl (by decide)) (fun h => absurd rfl h) ?_
    refine WD_takeG (i := 20) (c := true) rfl rfl rfl rfl (by rfl) rfl rfl (by kernel_rfl) (by assumption) (fun _ w' hS => by exact Y_load_cell vv (reads_cell hS.2.2 (j := 1) rfl)) (fun h => absurd rfl h) ?_
    refine WD_takeG (i := 21) (c := true) rfl rfl rfl rfl (by rfl) rfl rfl (by kernel_rfl) (by assumption) (fun _ w' hS => by first | exact Y_move vv | exact Y_assign vv | exact Y_nilCheck vv | exact Y_field vv | exact Y_load vv (by first | assumption | exact hS | exact hS.1 | exact hS.2 | exact hS.2.1 | exact hS.2.2) (by rfl) | exact Y_extract vv (by rfl) | exact Y_len vv | exact Y_lss vv vv | exact Y_leq vv vv | exact Y_gtr vv vv | exact Y_geq vv vv | exact Y_eql vv vv | exact Y_neq vv vv | exact Y_pick vv vv vv | exact Y_not vv) (fun h => absurd rfl h) ?_
    refine WT 22 ?_
    refine WT 23 ?_
    refine WD_takeG (i := 24) (c := true) rfl rfl rfl rfl (by rfl) rfl rfl (by kernel_rfl) (by assumption) (fun _ w' hS => by first | exact Y_move vv | exact Y_assign vv | exact Y_nilCheck vv | exact Y_field vv | exact Y_load vv (by first | assumption | exact hS | exact hS.1 | exact hS.2 | exact hS.2.1 | exact hS.2.2) (by rfl) | exact Y_extract vv (by rfl) | exact Y_len vv | exact Y_lss vv vv | exact Y_leq vv vv | exact Y_gtr vv vv | exact Y_geq vv vv | exact Y_eql vv vv | exact Y_neq vv vv | exact Y_pick vv vv vv | exact Y_not vv) (fun h => absurd rfl h) ?_
    refine WD_takeG (i := 25) (c := true) rfl rfl rfl rfl (by rfl) rfl rfl (by kernel_rfl) (by assumption) (fun _ w' hS => by first | exact Y_move vv | exact Y_assign vv | exact Y_nilCheck vv | exact Y_field vv | exact Y_load vv (by first | assumption | exact hS | exact hS.1 | exact hS.2 | exact hS.2.1 | exact hS.2.2) (by rfl) | exact Y_extract vv (by rfl) | exact Y_len vv | exact Y_lss vv vv | exact Y_leq vv vv | exact Y_gtr vv vv | exact Y_geq vv vv | exact Y_eql vv vv | exact Y_neq vv vv | exact Y_pick vv vv vv | exact Y_not vv) (fun h => absurd rfl h) ?_
    refine WD_takeG (i := 26) (c := true) rfl rfl rfl rfl (by rfl) rfl rfl (by kernel_rfl) (by assumption) (fun _ w' hS => by exact Y_loadRow vv hS.2.1 rfl) (fun h => absurd rfl h) ?_
    refine WD_two (c := 27) (c' := 28) (by kernel_rfl) rfl rfl ?_ ?_
    · skip
      refine WL_wanted rfl (by rfl) ?_
      refine WL_fun rfl ((laws_head w7 h).mono ?_)
      rintro e wa ⟨rfl, ga⟩
      refine ⟨_, rfl, ?_⟩
      have ga : Grows w7 wa := ga
      have hSa := And.intro (ga.kept hS.1) (And.intro (ga.kept hS.2.1) (ReadsAt.grow hS.2.2 ga))
      refine WL_nil ⟨hSa, ?_⟩
      refine WD_one (c := 28) (by kernel_rfl) rfl ?_
      refine WL_wanted rfl (by rfl) ?_
      refine WL_slice (vs := [.int .i64 0, .int .i64 0, .int .i64 0, .int .i64 0]) (EvL.eq ⟨rfl, vv, rfl, vv, rfl, vv, rfl, vv, trivial⟩) (by simp) rfl (by simp [Value.cells]) rfl ?_
      intro b20 wb hb20 h20 gb
      have hSb := And.intro (gb.kept hSa.1) (And.intro (gb.kept hSa.2.1) (ReadsAt.grow hSa.2.2 gb))
      refine WL_nil ⟨hSb, ?_⟩
      have hSc := hSb
      have gc := ga.trans gb
      have h20c := h20
      refine WD_one (c := 29) (by kernel_rfl) rfl ?_
      refine WL_wanted rfl (by rfl) ?_
      refine WL_fun rfl ((spec_head0 wb h hid hop hcode h20c).mono ?_)
      rintro e wd ⟨vd, rfl, ad, gd⟩
      refine ⟨_, rfl, ?_⟩
      have hSd := And.intro (gd.kept hSc.1) (And.intro (gd.kept hSc.2.1) (ReadsAt.grow hSc.2.2 gd))
      refine WL_nil ⟨hSd, ?_⟩
      refine WD_one (c := 30) (by kernel_rfl) rfl ?_
      refine WL_wanted rfl (by rfl) ?_
      refine WL_fun rfl ((laws_same wd dv vd _ _ (hdt.grow (g7.trans (gc.trans gd))).reads ad.reads).mono ?_)
      rintro e wg ⟨rfl, rfl⟩
      refine ⟨_, rfl, WL_nil ⟨hSd, ?_⟩⟩
      rw [beq_self_eq_true (hdr h.id h.bits 0 0 0 0)]
      refine WT 31 ?_
      refine WD_one (c := 32) (by kernel_rfl) rfl ?_
      refine WL_assign vv (WL_nil ⟨hSd, ?_⟩)
      refine WD_done (by kernel_rfl) ?_
      refine GO ?_
      exact ret1 (v := .bool true) Tryd.results5 rfl ⟨rfl, (G6.trans g7).trans (gc.trans gd)⟩
    · skip
      refine WL_wanted rfl (by rfl) ?_
      refine WL_slice (vs := [.int .i64 0, .int .i64 0, .int .i64 0, .int .i64 0]) (EvL.eq ⟨rfl, vv, rfl, vv, rfl, vv, rfl, vv, trivial⟩) (by simp) rfl (by simp [Value.cells]) rfl ?_
      intro b20 wb hb20 h20 gb
      have hSb := And.intro (gb.kept hS.1) (And.intro (gb.kept hS.2.1) (ReadsAt.grow hS.2.2 gb))
      refine WL_nil ⟨hSb, ?_⟩
      refine WD_one (c := 27) (by kernel_rfl) rfl ?_
      refine WL_wanted rfl (by rfl) ?_
      refine WL_fun rfl ((laws_head wb h).mono ?_)
      rintro e wa ⟨rfl, ga⟩
      refine ⟨_, rfl, ?_⟩
      have ga : Grows wb wa := ga
      have hSa := And.intro (ga.kept hSb.1) (And.intro (ga.kept hSb.2.1) (ReadsAt.grow hSb.2.2 ga))
      refine WL_nil ⟨hSa, ?_⟩
      have hSc := hSa
      have gc := gb.trans ga
      have h20c := ga.kept h20
      refine WD_one (c := 29) (by kernel_rfl) rfl ?_
      refine WL_wanted rfl (by rfl) ?_
      refine WL_fun rfl ((spec_head0 wa h hid hop hcode h20c).mono ?_)
      rintro e wd ⟨vd, rfl, ad, gd⟩
      refine ⟨_, rfl, ?_⟩
      have hSd := And.intro (gd.kept hSc.1) (And.intro (gd.kept hSc.2.1) (ReadsAt.grow hSc.2.2 gd))
      refine WL_nil ⟨hSd, ?_⟩
      refine WD_one (c := 30) (by kernel_rfl) rfl ?_
      refine WL_wanted rfl (by rfl) ?_
      refine WL_fun rfl ((laws_same wd dv vd _ _ (hdt.grow (g7.trans (gc.trans gd))).reads ad.reads).mono ?_)
      rintro e wg ⟨rfl, rfl⟩
      refine ⟨_, rfl, WL_nil ⟨hSd, ?_⟩⟩
      rw [beq_self_eq_true (hdr h.id h.bits 0 0 0 0)]
      refine WT 31 ?_
      refine WD_one (c := 32) (by kernel_rfl) rfl ?_
      refine WL_assign vv (WL_nil ⟨hSd, ?_⟩)
      refine WD_done (by kernel_rfl) ?_
      refine GO ?_
      exact ret1 (v := .bool true) Tryd.results5 rfl ⟨rfl, (G6.trans g7).trans (gc.trans gd)⟩
end Go.Proofs.YtfoinoegabcigaaDoor
