/- The laws' own helpers: refused. -/
import Derived.Test.YtgkhfpkfjajdjaaDoorG11
set_option linter.unusedVariables false
set_option linter.unusedSimpArgs false
namespace Go.Proofs.YtgkhfpkfjajdjaaDoor
open Go.RowKit
set_option maxHeartbeats 4000000
set_option maxRecDepth 100000

theorem WL_neqB {n : Nat} {P : Program} {f : Env} {w : World} {ops : Array Oper} {K : Env → World → Prop} {rest : List Oper} {d : Nat} {ty : TypeId} {pos : String} {af : Array Edge} {t u : TypeId} {x y : Operand} {a b : Bool} (ht : P.underlying t = some .bool) (hx : ev f x = .bool a) (hy : ev f y = .bool b) (h : WL n P ops K rest (upd f d (.bool (!(a == b)))) w) (hn : Nat.blt d n = true := by rfl) :
    WL n P ops K (⟨some d, .binOp .neq t x y u, ty, pos, af, none⟩ :: rest) f w :=
  WL_bin hx hy (by
    have := run_equal_bool (P := P) w t a b ht
    simp [eqGuard, binOp, this]) h hn
theorem laws_refused {F : FuncId} {K : KindM} {LB : RecM → Nat} {k : Nat} (hK : KC F K LB k) (w : World) (h : HeadM) (r g : RecM × RecV) (hid : h.id < 65536) (hr : RecAt w r) (hg : RecAt w g) (hbad : RecBad K r.1) (hlr : LB r.1 ≤ 150000000000000) (hE : Errs w) (hKn : Known w) :
    Calls Tryd.prog 26 #[.func (.func F) #[] #[], .int .i64 (k : Int), .agg (hcells h), .agg (recCells r).toArray, .agg (recCells g).toArray] w (RetV w (.bool true)) := by
  refine calls_of_WC Tryd.func26 rfl Tryd.ntmps26 rfl ?_
  refine GO ?_
  refine WL_box vv ?_
  intro b7 w0 hb7 h7 g0
  refine WL_box vv ?_
  intro b8 w1 hb8 h8 g1
  refine WL_box vv ?_
  intro b9 w2 hb9 h9 g2
  have h7 := g2.kept (g1.kept h7)
  have h8 : w2.heap[b8]? = some (.cells (recCells r).toArray 30 (0, 0)) := g2.kept h8
  have h9 : w2.heap[b9]? = some (.cells (recCells g).toArray 30 (0, 0)) := h9
  have G2 := g0.trans (g1.trans g2)
  clear g0 g1 g2 hb7 hb8 hb9
  refine GO ?_
  refine WL_loadRow vv h7 rfl ?_
  refine WL_loadRow vv h9 rfl ?_
  refine WL_slice (vs := [.agg (recCells g).toArray]) (EvL.eq ⟨rfl, vv, trivial⟩) (by simp) rfl (by simp [Value.cells, recCells_length]) rfl ?_
  intro b19 wa hb19 h19 ga
  refine WL_loadRow vv (ga.kept h9) rfl ?_
  refine WL_slice (vs := [.agg (recCells g).toArray]) (EvL.eq ⟨rfl, vv, trivial⟩) (by simp) rfl (by simp [Value.cells, recCells_length]) rfl ?_
  intro b21 wb hb21 h21 gb
  refine WL_loadRow vv (gb.kept (ga.kept h9)) rfl ?_
  refine WL_slice (vs := [.agg (recCells g).toArray]) (EvL.eq ⟨rfl, vv, trivial⟩) (by simp) rfl (by simp [Value.cells, recCells_length]) rfl ?_
  intro b23 wc hb23 h23 gc
  have gac := ga.trans (gb.trans gc)
  have hone : ∀ b, wc.heap[b]? = some (.cells (([g].map fun x => Value.agg (recCells x).toArray).flatMap (·.cells.toList)).toArray 30 (0, 0)) → RecsAt wc (.slice (some ⟨b, 0, none⟩) 1 1) [g] := fun b hb => RecsAt.lit (l := [g]) hb rfl (by decide) (by
    intro x hx
    rw [List.mem_singleton.1 hx]
    exact hg.grow (G2.trans gac))
  refine WL_fun rfl ((laws_message wc k h (.slice none 0 0) (.slice (some ⟨b19, 0, none⟩) 1 1) (.slice (some ⟨b21, 0, none⟩) 1 1) (.slice (some ⟨b23, 0, none⟩) 1 1) [] [g] [g] [g] (AsksAt.nil _) (hone _ (gc.kept (gb.kept h19))) (hone _ (gc.kept h21)) (hone _ h23)).mono ?_)
  rintro e w3 ⟨vs, rfl, hM, g3'⟩
  refine ⟨_, rfl, ?_⟩
  have g3 : Grows w2 w3 := gac.trans g3'
  obtain ⟨av', v1', v2', v3', l1', l2', l3', rfl, ha', s1, s2, s3, e1, e2, e3⟩ := hM.at_
  clear hM ga gb gc g3' h19 h21 h23 hone gac
  obtain ⟨ao0, cap0, rfl⟩ := ha'.at_.value
  obtain ⟨ao1, cap1, rfl⟩ := s1.at_.at_.value
  obtain ⟨ao2, cap2, rfl⟩ := s2.at_.at_.value
  obtain ⟨ao3, cap3, rfl⟩ := s3.at_.at_.value
  refine WL_alloc ?_
  intro b11 w4 hb11 h11 g4
  refine WL_storeRow (new := (msgCells h (.slice ao0 ([] : List AskM).length cap0) (.slice ao1 l1'.length cap1) (.slice ao2 l2'.length cap2) (.slice ao3 l3'.length cap3)).toArray) vv vv h11 rfl rfl (by simp [msgCells, Value.oneCell']) ?_
  intro w5 hw5 h11'
  have g5 : Grows w3 w5 := g4.wrote hw5 hb11
  have G5 := (G2.trans g3).trans g5
  refine GO ?_
  refine WL_loadRow vv h11' rfl ?_
  refine WL_fun rfl ((spec_Ok hK.body hK.bodyOk w5 h _ _ _ _ [] l1' l2' l3' (ha'.grow g5) (s1.grow g5) (s2.grow g5) (s3.grow g5)).mono ?_)
  rintro e w6 ⟨b, rfl, g6, hOk⟩
  refine ⟨_, rfl, ?_⟩
  have G6 := G5.trans g6
  refine WL_not vv ?_
  refine GO ?_
  first | refine WC_sif vv (fun hc => ?_) (fun hc => ?_) | refine WC_if vv (fun hc => ?_) (fun hc => ?_)
  · refine GO ?_
    exact ret1 (v := .bool true) Tryd.results26 rfl ⟨rfl, G6⟩
  have hMk := hOk (by simpa using hc)
  rw [e1, e2, e3] at hMk
  have hMo : MsgOk k ⟨h, [], [g.1], [g.1], [g.1]⟩ := hMk.kind
  have hhd := head_of hMo
  have hro : recOk k g.1 = true := by have := hMo.one; simpa using this
  clear hOk
  have g26 := g3.trans (g5.trans g6)
  have h76 := g26.kept h7
  have h86 := g26.kept h8
  have h96 := g26.kept h9
  have h116 := g6.kept h11'
  clear h7 h8 h9 h11 h11'
  refine GO ?_
  refine WL_loadRow vv h86 rfl ?_
  refine WL_loadRow vv h96 rfl ?_
  refine WL_slice (vs := [.agg (recCells r).toArray, .agg (recCells g).toArray]) (EvL.eq ⟨rfl, vv, rfl, vv, trivial⟩) (by simp) rfl (by simp [Value.cells, recCells_length]) rfl ?_
  intro b30 wa hb30 h30 ga
  refine WL_loadRow vv (ga.kept h86) rfl ?_
  refine WL_loadRow vv (ga.kept h96) rfl ?_
  refine WL_slice (vs := [.agg (recCells r).toArray, .agg (recCells g).toArray]) (EvL.eq ⟨rfl, vv, rfl, vv, trivial⟩) (by simp) rfl (by simp [Value.cells, recCells_length]) rfl ?_
  intro b33 wb hb33 h33 gb
  refine WL_loadRow vv (gb.kept (ga.kept h86)) rfl ?_
  refine WL_loadRow vv (gb.kept (ga.kept h96)) rfl ?_
  refine WL_slice (vs := [.agg (recCells r).toArray, .agg (recCells g).toArray]) (EvL.eq ⟨rfl, vv, rfl, vv, trivial⟩) (by simp) rfl (by simp [Value.cells, recCells_length]) rfl ?_
  intro b36 wc hb36 h36 gc
  refine WL_slice (vs := [.slice (some ⟨b30, 0, none⟩) 2 2, .slice (some ⟨b33, 0, none⟩) 2 2, .slice (some ⟨b36, 0, none⟩) 2 2]) (EvL.eq ⟨rfl, vv, rfl, vv, rfl, vv, trivial⟩) (by simp) rfl (by simp [Value.cells]) rfl ?_
  intro b37 w7 hb37 h37 g7'
  have g7 : Grows w6 w7 := ga.trans (gb.trans (gc.trans g7'))
  have G7 := G6.trans g7
  have htwo : ∀ b, w7.heap[b]? = some (.cells (([r, g].map fun x => Value.agg (recCells x).toArray).flatMap (·.cells.toList)).toArray 30 (0, 0)) → RecsAt w7 (.slice (some ⟨b, 0, none⟩) 2 2) [r, g] := fun b hb => RecsAt.lit (l := [r, g]) hb rfl (by decide) (by
    intro x hx
    simp only [List.mem_cons, List.not_mem_nil, or_false] at hx
    rcases hx with rfl | rfl
    · exact hr.grow G7
    · exact hg.grow G7)
  have hsec : SecsAt w7 (.slice (some ⟨b37, 0, none⟩) 3 3) [[r, g], [r, g], [r, g]] := SecsAt.lit h37 rfl rfl (by
    intro j u l hu hl
    match j with
    | 0 => cases hu; cases hl; exact htwo _ (g7'.kept (gc.kept (gb.kept h30)))
    | 1 => cases hu; cases hl; exact htwo _ (g7'.kept (gc.kept h33))
    | 2 => cases hu; cases hl; exact htwo _ (g7'.kept h36)
    | j + 3 => simp at hu)
  refine WL_fun rfl ((laws_steps w7 false _ _ [] [[r, g], [r, g], [r, g]] (AsksAt.nil _) hsec (by simp) (by simp) (by simp)).mono ?_)
  rintro e w8 ⟨lv, rfl, hA, hSt, g8⟩
  refine ⟨_, rfl, ?_⟩
  have G8 := G7.trans g8
  clear h30 h33 h36 h37 htwo hsec ga gb gc g7'
  have hrl := refused_law hK.ok h r.1 g.1 hro hbad
  have hso : stepsOf (stepsV false [] [[r, g], [r, g], [r, g]]) = stepsM false [] [[r.1, g.1], [r.1, g.1], [r.1, g.1]] := stepsV_of _ _ _
  rw [← hso] at hrl
  have hwl := msgWire_le hMo
  have hlen : (MSt.steps K .first (stepsOf (stepsV false [] [[r, g], [r, g], [r, g]]))).2.out.length ≤ 100000000 := by rw [final_length K _ h, hrl.2]; exact hwl
  have hlb := lb_steps (LB := LB) (B := 150000000000000) (short := false) (qs := []) (ls := [[r, g], [r, g], [r, g]]) (by
    intro l hl x hx
    have hl' : l = [r, g] := by simpa using hl
    subst hl'
    simp only [List.mem_cons, List.not_mem_nil, or_false] at hx
    rcases hx with rfl | rfl
    · exact hlr
    · have := hK.lb _ hro; omega) (by have := hK.lb0; omega)
  have hsl : (stepsV false [] [[r, g], [r, g], [r, g]]).length = 10 := rfl
  generalize hss : stepsV false [] [[r, g], [r, g], [r, g]] = ss at *
  obtain ⟨aol, capl, rfl⟩ := hA.reads.value
  refine GO ?_
  refine WL_loadRow vv ((g7.trans g8).kept h76) rfl ?_
  refine GO ?_
  refine WL_funv hK.call vv rfl ((hK.build w8 (.slice none 0 0) [] h _ _ (ReadsAt.nil _ _) (by decide) hid hhd.1 hhd.2 hSt (fun e => by cases e) (fun x hx => by have := hlb x hx; simp only [List.length_nil]; omega) (hE.grow G8) (hKn.grow G8)).mono ?_)
  rintro e w9 ⟨v, fv, dv, cs, rfl, hb⟩
  refine ⟨_, rfl, ?_⟩
  obtain rfl := hb.val
  have g9 := hb.grows
  refine WL_alloc ?_
  intro b13 wd hb13 h13 gd
  refine WL_storeRow (new := #[fv, dv, .int .i64 0]) vv vv h13 rfl rfl hb.one ?_
  intro w10 hw10 h13'
  have g10 : Grows w9 w10 := gd.wrote hw10 hb13
  have G10 := (G8.trans g9).trans g10
  have hcd := hb.codes
  rw [hrl.1] at hcd
  have hcl : cs.length = 10 := hcd.1.symm
  have hkey : ∀ i (hi : i < cs.length), (cs[i] != 0) = (decide (i = 2) || decide (i = 5) || decide (i = 8)) := by
    intro i hi
    have hget : cs[i]? = some cs[i] := by simp [hi]
    rw [hcl] at hi
    match i, hi with
    | 0, _ => rw [show cs[0] = 0 from hcd.2 0 _ _ rfl hget]; rfl
    | 1, _ => rw [show cs[1] = 0 from hcd.2 1 _ _ rfl hget]; rfl
    | 2, _ => have h0 : cs[2] ≠ 0 := hcd.2 2 _ _ rfl hget; simp [h0]
    | 3, _ => rw [show cs[3] = 0 from hcd.2 3 _ _ rfl hget]; rfl
    | 4, _ => rw [show cs[4] = 0 from hcd.2 4 _ _ rfl hget]; rfl
    | 5, _ => have h0 : cs[5] ≠ 0 := hcd.2 5 _ _ rfl hget; simp [h0]
    | 6, _ => rw [show cs[6] = 0 from hcd.2 6 _ _ rfl hget]; rfl
    | 7, _ => rw [show cs[7] = 0 from hcd.2 7 _ _ rfl hget]; rfl
    | 8, _ => have h0 : cs[8] ≠ 0 := hcd.2 8 _ _ rfl hget; simp [h0]
    | 9, _ => rw [show cs[9] = 0 from hcd.2 9 _ _ rfl hget]; rfl
  have hfl := hb.faults.reads.grow g10
  have hdt := hb.data.reads.grow g10
  have hwire : (([] : Bytes) ++ (MSt.steps K .first (stepsOf ss)).2.final h) = msgWire k ⟨h, [], [g.1], [g.1], [g.1]⟩ := by rw [hrl.2]; rfl
  rw [hwire] at hdt
  obtain ⟨bf, of, capf, hfv, hcell⟩ := hfl.form (by rw [iv_length]; omega)
  obtain ⟨ad, capd, hdv⟩ := ReadsAt.value hdt
  subst hfv hdv
  have h11w := ((g7.trans g8).trans (g9.trans g10)).kept h116
  have e10 : (cs.length : Int) = 10 := by omega
  have e10' : (ss.length : Int) = 10 := by omega
  clear hb hcd hfl
  rw [hcl] at h13' ⊢
  rw [hsl]
  refine RUN ?_
  refine WC_loop (fun m f w' => ∃ (i : Nat), m = 10 - i ∧ i ≤ 10 ∧ EnvHas f [(11, .pointer (some ⟨b11, 0, none⟩)), (13, .pointer (some ⟨b13, 0, none⟩)), (55, .slice (some ⟨bf, of, none⟩) 10 capf), (56, .int .i64 ((10 : Nat) : Int)), (57, .int .i64 (i : Int))] ∧ w' = w10) 10 ?_ ?_
  · exact ⟨0, rfl, Nat.zero_le _, ⟨rfl, rfl, rfl, rfl, rfl, trivial⟩, rfl⟩
  rintro m f' w11 ⟨i, rfl, hi, he, rfl⟩
  obtain ⟨f, rfl⟩ := he.form
  refine GO ?_
  first | refine WC_sif vv (fun hc => ?_) (fun hc => ?_) | refine WC_if vv (fun hc => ?_) (fun hc => ?_)
  · have hlt : i < 10 := by have := of_decide_eq_true hc; omega
    have hlt' : i < cs.length := by rw [hcl]; exact hlt
    have hki := hkey i hlt'
    refine GO ?_
    refine WL_index vv vv hlt ?_
    refine WL_load_cell vv (by rw [Nat.mul_one]; exact hcell i _ (iv_get cs i hlt')) ?_
    refine GO ?_
    by_cases h2 : i = 2
    · subst h2
      rw [show (cs[2] != 0) = true from hki]
      refine RUN ?_
      refine WL_neqB Tryd.underlying4 vv vv ?_
      refine RUN ?_
      refine WL_inc vv (by omega) ?_
      refine GO ?_
      exact ⟨10 - (3), by omega, 3, rfl, by omega, ⟨rfl, rfl, rfl, rfl, rfl, trivial⟩, rfl⟩
    have e2 : ((i : Int) == 2) = false := beq_eq_false_iff_ne.2 (by omega)
    rw [e2]
    refine RUN ?_
    by_cases h5 : i = 5
    · subst h5
      rw [show (cs[5] != 0) = true from hki]
      refine RUN ?_
      refine WL_neqB Tryd.underlying4 vv vv ?_
      refine RUN ?_
      refine WL_inc vv (by omega) ?_
      refine GO ?_
      exact ⟨10 - (6), by omega, 6, rfl, by omega, ⟨rfl, rfl, rfl, rfl, rfl, trivial⟩, rfl⟩
    have e5 : ((i : Int) == 5) = false := beq_eq_false_iff_ne.2 (by omega)
    rw [e5]
    refine RUN ?_
    by_cases h8 : i = 8
    · subst h8
      rw [show (cs[8] != 0) = true from hki]
      refine RUN ?_
      refine WL_neqB Tryd.underlying4 vv vv ?_
      refine RUN ?_
      refine WL_inc vv (by omega) ?_
      refine GO ?_
      exact ⟨10 - (9), by omega, 9, rfl, by omega, ⟨rfl, rfl, rfl, rfl, rfl, trivial⟩, rfl⟩
    have e8 : ((i : Int) == 8) = false := beq_eq_false_iff_ne.2 (by omega)
    rw [e8]
    rw [show (cs[i] != 0) = false by rw [hki]; simp [h2, h5, h8]]
    refine RUN ?_
    refine WL_neqB Tryd.underlying4 vv vv ?_
    refine RUN ?_
    refine WL_inc vv (by omega) ?_
    refine GO ?_
    exact ⟨10 - (i + 1), by omega, i + 1, rfl, by omega, ⟨rfl, rfl, rfl, rfl, rfl, trivial⟩, rfl⟩
  have hge : i = 10 := by have := of_decide_eq_false hc; omega
  subst hge
  refine GO ?_
  refine WC_seq (WC_draws (fun w' => w'.heap[b13]? = some (.cells #[.slice (some ⟨bf, of, none⟩) 10 capf, .slice ad (msgWire k ⟨h, [], [g.1], [g.1], [g.1]⟩).length capd, .int .i64 0] 49 (0, 0)) ∧ w'.heap[b11]? = some (.cells (msgCells h (.slice ao0 ([] : List AskM).length cap0) (.slice ao1 l1'.length cap1) (.slice ao2 l2'.length cap2) (.slice ao3 l3'.length cap3)).toArray 42 (0, 0))) (by kernel_rfl) (fun w1 g => ⟨g.kept h13', g.kept h11w⟩) ?_)
  intro w12 g12 hS
  refine WT 0 ?_
  refine WT 1 ?_
  refine WD_take (i := 2) rfl rfl rfl rfl (by kernel_rfl) (by assumption) (fun w' hS => by exact Y_loadRow vv hS.2 rfl) ?_
  refine WD_one (c := 3) (by kernel_rfl) rfl ?_
  have G3x : Grows w3 w12 := ((g5.trans g6).trans (g7.trans g8)).trans ((g9.trans g10).trans g12)
  have hbl : ∀ l ∈ [l1', l2', l3'], ∀ x ∈ l, (body k x.1).length < 65536 := by
    intro l hl
    simp only [List.mem_cons, List.not_mem_nil, or_false] at hl
    rcases hl with rfl | rfl | rfl
    · exact body_of (by rw [e1]; exact hMk.one)
    · exact body_of (by rw [e2]; exact hMk.two)
    · exact body_of (by rw [e3]; exact hMk.three)
  have hmw : msgWire k ⟨h, [], recsOf l1', recsOf l2', recsOf l3'⟩ = msgWire k ⟨h, [], [g.1], [g.1], [g.1]⟩ := by rw [e1, e2, e3, msgWire_kind]; rfl
  have hcall := spec_MessageWire hK.body hK.lt w12 h _ _ _ _ [] l1' l2' l3' hid hhd.1 hhd.2 (ha'.grow G3x) (s1.grow G3x) (s2.grow G3x) (s3.grow G3x) hbl (by rw [hmw]; omega)
  rw [hmw] at hcall
  refine WL_fun rfl ((hcall).mono ?_)
  rintro e w13 ⟨v13, rfl, a13, g13⟩
  refine ⟨_, rfl, ?_⟩
  have hS13 := And.intro (g13.kept hS.1) (g13.kept hS.2)
  refine WL_nil ⟨hS13, ?_⟩
  refine WD_one (c := 4) (by kernel_rfl) rfl ?_
  refine WL_fun rfl ((laws_same w13 _ v13 _ _ (hdt.grow (g12.trans g13)) a13.reads).mono ?_)
  rintro e w14 ⟨rfl, rfl⟩
  refine ⟨_, rfl, WL_nil ⟨hS13, ?_⟩⟩
  rw [beq_self_eq_true (msgWire k ⟨h, [], [g.1], [g.1], [g.1]⟩)]
  refine WD_one (c := 5) (by kernel_rfl) rfl ?_
  refine WL_assign vv (WL_nil ⟨hS13, ?_⟩)
  refine WD_done (by kernel_rfl) ?_
  refine GO ?_
  exact ret1 (v := .bool true) Tryd.results26 rfl ⟨rfl, G10.trans (g12.trans g13)⟩
end Go.Proofs.YtgkhfpkfjajdjaaDoor
