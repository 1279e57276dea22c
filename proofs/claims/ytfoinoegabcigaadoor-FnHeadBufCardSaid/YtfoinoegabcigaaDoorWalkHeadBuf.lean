/- laws.FnHeadBuf: the law returns true for each input that its row speaks of: its walk. -/
import Derived.Test.YtfoinoegabcigaaDoorHd
set_option linter.unusedVariables false
set_option linter.unusedSimpArgs false
namespace Go.Proofs.YtfoinoegabcigaaDoor
open Go.RowKit
set_option maxHeartbeats 4000000
set_option maxRecDepth 100000

theorem laws_FnHeadBuf (w : World) (u0 : Value) (x0 : Bytes) (hx0 : BytesAt w u0 x0) (hl0 : x0.length ≤ lim) (h : HeadM) (hid : h.id < 65536) (hE : Errs w) (hKn : Known w) : Calls Tryd.prog 6 #[u0, .agg (hcells h)] w (RetV w (.bool true)) := by
  refine calls_of_WC Tryd.func6 rfl Tryd.ntmps6 rfl ?_
  refine GO ?_
  refine WL_box vv ?_
  intro b3 w1 hb3 h3 g1
  have h3 : w1.heap[b3]? = some (.cells (hcells h) 28 (0, 0)) := h3
  refine GO ?_
  refine WL_loadRow vv h3 rfl ?_
  refine WL_fun rfl ((laws_head w1 h).mono ?_)
  rintro e w2 ⟨rfl, g2⟩
  refine ⟨_, rfl, ?_⟩
  have g2 : Grows w1 w2 := g2
  refine WL_fun rfl ((spec_headOk w2 h).mono ?_)
  rintro e w3 ⟨rfl, g3⟩
  refine ⟨_, rfl, ?_⟩
  have g3 : Grows w2 w3 := g3
  have G3 := g1.trans (g2.trans g3)
  cases hok : headOk h with
  | false =>
    refine RUN ?_
    exact ret1 (v := .bool true) Tryd.results6 rfl ⟨rfl, G3⟩
  | true =>
    obtain ⟨hop, hcode⟩ := headOk_iff hok
    have h33 := (g2.trans g3).kept h3
    refine RUN ?_
    refine WL_loadRow vv h33 rfl ?_
    refine WL_build (vs := [(0, .int .i64 1)]) (l := stepCells (sS 1)) rfl ⟨⟨_, rfl⟩, trivial⟩ (by kernel_rfl) ?_
    refine WL_slice (vs := [.agg (stepCells (sS 1)).toArray]) (EvL.eq ⟨rfl, vv, trivial⟩) (by simp) rfl (by simp [Value.cells, stepCells_length]) rfl ?_
    intro b13 w4 hb13 h13 g4
    have G4 := G3.trans g4
    have hSt : StepsIn w4 (.slice (some ⟨b13, 0, none⟩) 1 1) [sS 1] := StepsIn.lit (l := [sS 1]) h13 rfl (by decide) (by intro x hx; rw [List.mem_singleton.1 hx]; exact ask0_ok) (by intro x hx; rw [List.mem_singleton.1 hx]; exact rec0_at w4)
    simp only [lim] at hl0
    refine GO ?_
    refine WL_fun rfl ((build_Asks w4 u0 x0 h _ _ (hx0.grow G4) (by simp only [lim]; omega) hid hop hcode hSt (fun _ x hx => by rw [List.mem_singleton.1 hx]; decide) (fun x hx => by show x0.length + 12 + 2000 + 0 ≤ _; omega) (hE.grow G4) (hKn.grow G4)).mono ?_)
    rintro e w5 ⟨v, fv, dv, cs, rfl, hb⟩
    refine ⟨_, rfl, ?_⟩
    obtain rfl := hb.val
    have g5 := hb.grows
    have hdt0 : AccB w4.heap.size w5 dv (x0 ++ hdr h.id h.bits 0 0 0 0) := hb.data
    refine WL_alloc ?_
    intro b5 wx hb5 h5 gx
    refine WL_storeRow (new := #[fv, dv, .int .i64 0]) vv vv h5 rfl rfl hb.one ?_
    intro w6 hw6 h5'
    have g6 : Grows w5 w6 := gx.wrote hw6 hb5
    have G6 := (G4.trans g5).trans g6
    have hdt := hdt0.grow g6
    have h36 := (g4.trans (g5.trans g6)).kept h33
    refine GO ?_
    refine WC_seq (WC_draws (fun w' => w'.heap[b5]? = some (.cells #[fv, dv, .int .i64 0] 45 (0, 0)) ∧ w'.heap[b3]? = some (.cells (hcells h) 28 (0, 0))) (by kernel_rfl) (fun w1 g => ⟨g.kept h5', g.kept h36⟩) ?_)
    intro w7 g7 hS
    refine WT 0 ?_
    refine WT 1 ?_
    refine WT 2 ?_
    refine WD_take (i := 3) rfl rfl rfl rfl (by kernel_rfl) (by assumption) (fun w' hS => by exact Y_loadRow vv hS.2 rfl) ?_
    refine WD_two (c := 4) (c' := 5) (by kernel_rfl) rfl rfl ?_ ?_
    · skip
      refine WL_fun rfl ((laws_head w7 h).mono ?_)
      rintro e wa ⟨rfl, ga⟩
      refine ⟨_, rfl, ?_⟩
      have ga : Grows w7 wa := ga
      have hSa := And.intro (ga.kept hS.1) (ga.kept hS.2)
      refine WL_nil ⟨hSa, ?_⟩
      refine WD_one (c := 5) (by kernel_rfl) rfl ?_
      refine WL_slice (vs := [.int .i64 0, .int .i64 0, .int .i64 0, .int .i64 0]) (EvL.eq ⟨rfl, vv, rfl, vv, rfl, vv, rfl, vv, trivial⟩) (by simp) rfl (by simp [Value.cells]) rfl ?_
      intro b20 wb hb20 h20 gb
      have hSb := And.intro (gb.kept hSa.1) (gb.kept hSa.2)
      refine WL_nil ⟨hSb, ?_⟩
      have hSc := hSb
      have gc := ga.trans gb
      have h20c := h20
      refine WD_one (c := 6) (by kernel_rfl) rfl ?_
      refine WL_fun rfl ((spec_head0 wb h hid hop hcode h20c).mono ?_)
      rintro e wd ⟨vd, rfl, ad, gd⟩
      refine ⟨_, rfl, ?_⟩
      have hSd := And.intro (gd.kept hSc.1) (gd.kept hSc.2)
      refine WL_nil ⟨hSd, ?_⟩
      refine WD_one (c := 7) (by kernel_rfl) rfl ?_
      refine WL_parts [(u0, x0), (vd, hdr h.id h.bits 0 0 0 0)] (EvL.eq ⟨rfl, vv, rfl, vv, trivial⟩) (by simp) rfl rfl (by
        intro p hp
        simp only [List.mem_cons, List.not_mem_nil, or_false] at hp
        rcases hp with rfl | rfl
        · exact hx0.grow (((G6.trans g7).trans gc).trans gd)
        · exact ad.reads) ?_
      intro b22 we hb22 pe ge
      have hSe := And.intro (ge.kept hSd.1) (ge.kept hSd.2)
      refine WL_nil ⟨hSe, ?_⟩
      have hflat : (([(u0, x0), (vd, hdr h.id h.bits 0 0 0 0)] : List (Value × Bytes)).map (·.2)).flatten = x0 ++ hdr h.id h.bits 0 0 0 0 := by simp
      have hj := spec_Joined we _ _ pe (by simp) (by rw [hflat, List.length_append, hdr_length]; omega) (by
        intro p hp
        simp only [List.mem_cons, List.not_mem_nil, or_false] at hp
        rcases hp with rfl | rfl <;> simp only [hdr_length] <;> omega)
      rw [hflat] at hj
      refine WD_one (c := 8) (by kernel_rfl) rfl ?_
      refine WL_fun rfl ((hj).mono ?_)
      rintro e wf ⟨vf, rfl, af, gf⟩
      refine ⟨_, rfl, ?_⟩
      have hSf := And.intro (gf.kept hSe.1) (gf.kept hSe.2)
      refine WL_nil ⟨hSf, ?_⟩
      have gcf := gc.trans (gd.trans (ge.trans gf))
      refine WD_one (c := 9) (by kernel_rfl) rfl ?_
      refine WL_fun rfl ((laws_same wf dv vf _ _ (hdt.grow (g7.trans gcf)).reads af.reads).mono ?_)
      rintro e wg ⟨rfl, rfl⟩
      refine ⟨_, rfl, WL_nil ⟨hSf, ?_⟩⟩
      rw [beq_self_eq_true (x0 ++ hdr h.id h.bits 0 0 0 0)]
      refine WT 10 ?_
      refine WD_takeG (i := 11) (c := true) rfl rfl rfl rfl vv rfl rfl (by kernel_rfl) (by assumption) (fun _ w' hS => by first | exact Y_move vv | exact Y_assign vv | exact Y_nilCheck vv | exact Y_field vv | exact Y_load vv (by first | assumption | exact hS | exact hS.1 | exact hS.2 | exact hS.2.1 | exact hS.2.2) (by rfl) | exact Y_extract vv (by rfl) | exact Y_len vv | exact Y_lss vv vv | exact Y_leq vv vv | exact Y_gtr vv vv | exact Y_geq vv vv | exact Y_eql vv vv | exact Y_neq vv vv | exact Y_pick vv vv vv | exact Y_not vv) (fun h => absurd rfl h) ?_
      refine WD_takeG (i := 12) (c := true) rfl rfl rfl rfl vv rfl rfl (by kernel_rfl) (by assumption) (fun _ w' hS => by first | exact Y_move vv | exact Y_assign vv | exact Y_nilCheck vv | exact Y_field vv | exact Y_load vv (by first | assumption | exact hS | exact hS.1 | exact hS.2 | exact hS.2.1 | exact hS.2.2) (by rfl) | exact Y_extract vv (by rfl) | exact Y_len vv | exact Y_lss vv vv | exact Y_leq vv vv | exact Y_gtr vv vv | exact Y_geq vv vv | exact Y_eql vv vv | exact Y_neq vv vv | exact Y_pick vv vv vv | exact Y_not vv) (fun h => absurd rfl h) ?_
      refine WD_takeG (i := 13) (c := true) rfl rfl rfl rfl vv rfl rfl (by kernel_rfl) (by assumption) (fun _ w' hS => by first | exact Y_move vv | exact Y_assign vv | exact Y_nilCheck vv | exact Y_field vv | exact Y_load vv (by first | assumption | exact hS | exact hS.1 | exact hS.2 | exact hS.2.1 | exact hS.2.2) (by rfl) | exact Y_extract vv (by rfl) | exact Y_len vv | exact Y_lss vv vv | exact Y_leq vv vv | exact Y_gtr vv vv | exact Y_geq vv vv | exact Y_eql vv vv | exact Y_neq vv vv | exact Y_pick vv vv vv | exact Y_not vv) (fun h => absurd rfl h) ?_
      refine WT 14 ?_
      refine WD_one (c := 15) (by kernel_rfl) rfl ?_
      refine WL_assign vv (WL_nil ⟨hSf, ?_⟩)
      refine WD_done (by kernel_rfl) ?_
      refine GO ?_
      exact ret1 (v := .bool true) Tryd.results6 rfl ⟨rfl, (G6.trans g7).trans gcf⟩
    · skip
      refine WL_slice (vs := [.int .i64 0, .int .i64 0, .int .i64 0, .int .i64 0]) (EvL.eq ⟨rfl, vv, rfl, vv, rfl, vv, rfl, vv, trivial⟩) (by simp) rfl (by simp [Value.cells]) rfl ?_
      intro b20 wb hb20 h20 gb
      have hSb := And.intro (gb.kept hS.1) (gb.kept hS.2)
      refine WL_nil ⟨hSb, ?_⟩
      refine WD_one (c := 4) (by kernel_rfl) rfl ?_
      refine WL_fun rfl ((laws_head wb h).mono ?_)
      rintro e wa ⟨rfl, ga⟩
      refine ⟨_, rfl, ?_⟩
      have ga : Grows wb wa := ga
      have hSa := And.intro (ga.kept hSb.1) (ga.kept hSb.2)
      refine WL_nil ⟨hSa, ?_⟩
      have hSc := hSa
      have gc := gb.trans ga
      have h20c := ga.kept h20
      refine WD_one (c := 6) (by kernel_rfl) rfl ?_
      refine WL_fun rfl ((spec_head0 wa h hid hop hcode h20c).mono ?_)
      rintro e wd ⟨vd, rfl, ad, gd⟩
      refine ⟨_, rfl, ?_⟩
      have hSd := And.intro (gd.kept hSc.1) (gd.kept hSc.2)
      refine WL_nil ⟨hSd, ?_⟩
      refine WD_one (c := 7) (by kernel_rfl) rfl ?_
      refine WL_parts [(u0, x0), (vd, hdr h.id h.bits 0 0 0 0)] (EvL.eq ⟨rfl, vv, rfl, vv, trivial⟩) (by simp) rfl rfl (by
        intro p hp
        simp only [List.mem_cons, List.not_mem_nil, or_false] at hp
        rcases hp with rfl | rfl
        · exact hx0.grow (((G6.trans g7).trans gc).trans gd)
        · exact ad.reads) ?_
      intro b22 we hb22 pe ge
      have hSe := And.intro (ge.kept hSd.1) (ge.kept hSd.2)
      refine WL_nil ⟨hSe, ?_⟩
      have hflat : (([(u0, x0), (vd, hdr h.id h.bits 0 0 0 0)] : List (Value × Bytes)).map (·.2)).flatten = x0 ++ hdr h.id h.bits 0 0 0 0 := by simp
      have hj := spec_Joined we _ _ pe (by simp) (by rw [hflat, List.length_append, hdr_length]; omega) (by
        intro p hp
        simp only [List.mem_cons, List.not_mem_nil, or_false] at hp
        rcases hp with rfl | rfl <;> simp only [hdr_length] <;> omega)
      rw [hflat] at hj
      refine WD_one (c := 8) (by kernel_rfl) rfl ?_
      refine WL_fun rfl ((hj).mono ?_)
      rintro e wf ⟨vf, rfl, af, gf⟩
      refine ⟨_, rfl, ?_⟩
      have hSf := And.intro (gf.kept hSe.1) (gf.kept hSe.2)
      refine WL_nil ⟨hSf, ?_⟩
      have gcf := gc.trans (gd.trans (ge.trans gf))
      refine WD_one (c := 9) (by kernel_rfl) rfl ?_
      refine WL_fun rfl ((laws_same wf dv vf _ _ (hdt.grow (g7.trans gcf)).reads af.reads).mono ?_)
      rintro e wg ⟨rfl, rfl⟩
      refine ⟨_, rfl, WL_nil ⟨hSf, ?_⟩⟩
      rw [beq_self_eq_true (x0 ++ hdr h.id h.bits 0 0 0 0)]
      refine WT 10 ?_
      refine WD_takeG (i := 11) (c := true) rfl rfl rfl rfl vv rfl rfl (by kernel_rfl) (by assumption) (fun _ w' hS => by first | exact Y_move vv | exact Y_assign vv | exact Y_nilCheck vv | exact Y_field vv | exact Y_load vv (by first | assumption | exact hS | exact hS.1 | exact hS.2 | exact hS.2.1 | exact hS.2.2) (by rfl) | exact Y_extract vv (by rfl) | exact Y_len vv | exact Y_lss vv vv | exact Y_leq vv vv | exact Y_gtr vv vv | exact Y_geq vv vv | exact Y_eql vv vv | exact Y_neq vv vv | exact Y_pick vv vv vv | exact Y_not vv) (fun h => absurd rfl h) ?_
      refine WD_takeG (i := 12) (c := true) rfl rfl rfl rfl vv rfl rfl (by kernel_rfl) (by assumption) (fun _ w' hS => by first | exact Y_move vv | exact Y_assign vv | exact Y_nilCheck vv | exact Y_field vv | exact Y_load vv (by first | assumption | exact hS | exact hS.1 | exact hS.2 | exact hS.2.1 | exact hS.2.2) (by rfl) | exact Y_extract vv (by rfl) | exact Y_len vv | exact Y_lss vv vv | exact Y_leq vv vv | exact Y_gtr vv vv | exact Y_geq vv vv | exact Y_eql vv vv | exact Y_neq vv vv | exact Y_pick vv vv vv | exact Y_not vv) (fun h => absurd rfl h) ?_
      refine WD_takeG (i := 13) (c := true) rfl rfl rfl rfl vv rfl rfl (by kernel_rfl) (by assumption) (fun _ w' hS => by first | exact Y_move vv | exact Y_assign vv | exact Y_nilCheck vv | exact Y_field vv | exact Y_load vv (by first | assumption | exact hS | exact hS.1 | exact hS.2 | exact hS.2.1 | exact hS.2.2) (by rfl) | exact Y_extract vv (by rfl) | exact Y_len vv | exact Y_lss vv vv | exact Y_leq vv vv | exact Y_gtr vv vv | exact Y_geq vv vv | exact Y_eql vv vv | exact Y_neq vv vv | exact Y_pick vv vv vv | exact Y_not vv) (fun h => absurd rfl h) ?_
      refine WT 14 ?_
      refine WD_one (c := 15) (by kernel_rfl) rfl ?_
      refine WL_assign vv (WL_nil ⟨hSf, ?_⟩)
      refine WD_done (by kernel_rfl) ?_
      refine GO ?_
      exact ret1 (v := .bool true) Tryd.results6 rfl ⟨rfl, (G6.trans g7).trans gcf⟩
end Go.Proofs.YtfoinoegabcigaaDoor
