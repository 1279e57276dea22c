/- laws.FnAsksTwice: the law returns true for each input that its row speaks of: its walk. -/
import Derived.Test.YtfoinoegabcigaaDoorTwi
set_option linter.unusedVariables false
set_option linter.unusedSimpArgs false
namespace Go.Proofs.YtfoinoegabcigaaDoor
open Go.RowKit
set_option maxHeartbeats 4000000
set_option maxRecDepth 100000

theorem laws_FnAsksTwice (w : World) (h : HeadM) (hid : h.id < 65536) (u1 : Value) (x1 : List AskM) (hx1 : AsksAt w u1 x1) (hn1 : x1.length ≤ 1048576) (hE : Errs w) (hKn : Known w) : Calls Tryd.prog 4 #[.agg (hcells h), u1] w (RetV w (.bool true)) := by
  obtain ⟨aoq, capq, hav⟩ := hx1.at_.value
  subst hav
  refine calls_of_WC Tryd.func4 rfl Tryd.ntmps4 rfl ?_
  refine GO ?_
  refine WL_box vv ?_
  intro b2 w1 hb2 h2 g1
  have h2 : w1.heap[b2]? = some (.cells (hcells h) 28 (0, 0)) := h2
  refine GO ?_
  refine WL_slice0 ?_
  intro b12 w2 hb12 h12 g2
  refine GO ?_
  refine WL_appendA (w0 := w1) (qs1 := []) vv (LAcc.nil (.inr trivial) h12 hb12) g2 vv (hx1.grow (g1.trans g2)).at_ (by simp; omega) ?_
  intro v3 w3 a3 g3
  refine GO ?_
  refine WL_appendA (w0 := w1) vv a3 g3 vv (hx1.grow (g1.trans g3)).at_ (by simp; omega) ?_
  intro v4 w4 a4 g4
  rw [List.nil_append] at a4
  have hT : AsksAt w4 v4 (x1 ++ x1) := ⟨a4.reads, fun a ha => hx1.ok a ((List.mem_append.1 ha).elim id id), by simp only [lim, List.length_append]; omega⟩
  clear h12 a3 a4
  have h24 := g4.kept h2
  obtain ⟨ao4, cap4, rfl⟩ := hT.at_.value
  refine GO ?_
  refine WL_loadRow vv h24 rfl ?_
  refine GO ?_
  refine WL_fun rfl ((laws_message w4 0 h _ (.slice none 0 0) (.slice none 0 0) (.slice none 0 0) (x1 ++ x1) [] [] [] hT (RecsAt.nil _) (RecsAt.nil _) (RecsAt.nil _)).mono ?_)
  rintro e w5 ⟨vs, rfl, hM, g5⟩
  refine ⟨_, rfl, ?_⟩
  obtain ⟨av', v1', v2', v3', l1', l2', l3', rfl, ha', s1, s2, s3, e1, e2, e3⟩ := hM.at_
  clear hM
  have z1 := recs_none e1
  have z2 := recs_none e2
  have z3 := recs_none e3
  subst z1 z2 z3
  obtain ⟨ao0, cap0, rfl⟩ := ha'.at_.value
  obtain ⟨ao1, cap1, rfl⟩ := s1.at_.at_.value
  obtain ⟨ao2, cap2, rfl⟩ := s2.at_.at_.value
  obtain ⟨ao3, cap3, rfl⟩ := s3.at_.at_.value
  refine WL_alloc ?_
  intro b6 w6 hb6 h6 g6
  refine WL_storeRow (new := (msgCells h (.slice ao0 (x1 ++ x1).length cap0) (.slice ao1 ([] : List (RecM × RecV)).length cap1) (.slice ao2 ([] : List (RecM × RecV)).length cap2) (.slice ao3 ([] : List (RecM × RecV)).length cap3)).toArray) vv vv h6 rfl rfl (by simp [msgCells, Value.oneCell']) ?_
  intro w7 hw7 h7
  have g7 : Grows w5 w7 := g6.wrote hw7 hb6
  have G7 := (g1.trans g4).trans (g5.trans g7)
  have h27 := (g5.trans g7).kept h24
  clear g6 hw7 h6 h2
  refine GO ?_
  refine WC_loop (fun m f w' => ∃ (i : Nat), m = x1.length - i ∧ i ≤ x1.length ∧ EnvHas f [(2, .pointer (some ⟨b2, 0, none⟩)), (5, .slice ao4 (x1 ++ x1).length cap4), (6, .pointer (some ⟨b6, 0, none⟩)), (7, .bool ((x1.take i).any fun a => decide (1 < a.name.length))), (20, .slice aoq x1.length capq), (21, .int .i64 (x1.length : Int)), (22, .int .i64 (i : Int))] ∧ Grows w7 w') x1.length ?_ ?_
  · exact ⟨0, rfl, Nat.zero_le _, ⟨rfl, rfl, rfl, rfl, rfl, rfl, rfl, trivial⟩, Below.refl _ _⟩
  rintro m f w8 ⟨i, rfl, hi, he, g8⟩
  obtain ⟨f, rfl⟩ := he.form
  refine GO ?_
  first | refine WC_sif vv (fun hc => ?_) (fun hc => ?_) | refine WC_if vv (fun hc => ?_) (fun hc => ?_)
  · have hlt : i < x1.length := by simpa using hc
    refine GO ?_
    obtain ⟨bq, oq, cq, hvq, hcell⟩ := ((hx1.grow G7).grow g8).at_.part (by decide) hlt
    cases hvq
    refine GO ?_
    refine WL_index vv vv hlt ?_
    refine WL_loadAgg (l := askCells x1[i]) vv rfl hcell ?_
    refine WL_alloc ?_
    intro b9 wa hb9 h9 ga
    refine WL_storeRow (new := (askCells x1[i]).toArray) vv vv h9 rfl rfl (by simp [askCells, Value.oneCell']) ?_
    intro wb hwb h9'
    have gb : Grows w8 wb := ga.wrote hwb (by omega)
    have hst : ((x1.take (i + 1)).any fun a => decide (1 < a.name.length)) = (((x1.take i).any fun a => decide (1 < a.name.length)) || decide (1 < x1[i].name.length)) := by
      rw [List.take_succ_eq_append_getElem hlt, List.any_append]
      simp
    cases hlg : ((x1.take i).any fun a => decide (1 < a.name.length)) with
    | true =>
      refine RUN ?_
      refine WL_inc vv (by omega) ?_
      refine GO ?_
      refine ⟨x1.length - (i + 1), by omega, i + 1, rfl, hlt, ⟨rfl, rfl, rfl, ?_, rfl, rfl, rfl, trivial⟩, g8.trans gb⟩
      rw [hst, hlg]
      rfl
    | false =>
      refine RUN ?_
      refine WL_inc vv (by omega) ?_
      refine GO ?_
      refine ⟨x1.length - (i + 1), by omega, i + 1, rfl, hlt, ⟨rfl, rfl, rfl, ?_, rfl, rfl, rfl, trivial⟩, g8.trans gb⟩
      rw [hst, hlg, Bool.false_or]
      show Value.bool (decide ((1 : Int) < (x1[i].name.length : Int))) = Value.bool (decide (1 < x1[i].name.length))
      congr 1
      exact decide_eq_decide.2 (by omega)
  have hge : i = x1.length := by have := of_decide_eq_false hc; omega
  subst hge
  rw [List.take_length]
  have G8 := G7.trans g8
  have h28 := g8.kept h27
  have h78 := g8.kept h7
  generalize hlg : (x1.any fun a => decide (1 < a.name.length)) = lg
  clear hc hi he
  refine GO ?_
  refine WL_loadRow vv h78 rfl ?_
  have g78 := g7.trans g8
  refine WL_fun rfl ((spec_Ok body_None bok_None w8 h _ _ _ _ (x1 ++ x1) [] [] [] (ha'.grow g78) (s1.grow g78) (s2.grow g78) (s3.grow g78)).mono ?_)
  rintro e w9 ⟨b, rfl, g9, hOk⟩
  refine ⟨_, rfl, ?_⟩
  have G9 := G8.trans g9
  cases b with
  | false =>
    refine RUN ?_
    exact ret1 (v := .bool true) Tryd.results4 rfl ⟨rfl, G9⟩
  | true =>
    have hMo : MsgOk 0 ⟨h, x1 ++ x1, [], [], []⟩ := hOk rfl
    have hhd := head_of hMo
    have hna : (x1 ++ x1).length < 60000 := hMo.na
    clear hOk
    refine RUN ?_
    refine WL_loadRow vv (g9.kept h78) rfl ?_
    have g79 := g78.trans g9
    refine RUN ?_
    refine WL_fun rfl ((spec_Small w9 h _ _ _ _ (x1 ++ x1) [] [] [] (ha'.grow g79) (s1.grow g79) (s2.grow g79) (s3.grow g79)).mono ?_)
    rintro e wc ⟨bs, rfl, gc⟩
    refine ⟨_, rfl, ?_⟩
    have Gc := G9.trans gc
    cases bs with
    | false =>
      refine RUN ?_
      exact ret1 (v := .bool true) Tryd.results4 rfl ⟨rfl, Gc⟩
    | true =>
      cases lg with
      | false =>
        refine RUN ?_
        exact ret1 (v := .bool true) Tryd.results4 rfl ⟨rfl, Gc⟩
      | true =>
        have h6c := (g9.trans gc).kept h78
        have h2c := (g9.trans gc).kept h28
        refine RUN ?_
        refine WL_loadRow vv h6c rfl ?_
        have g7c := g79.trans gc
        refine RUN ?_
        have hwl := msgWire_le hMo
        refine WL_fun rfl ((spec_MessageWire body_None (by decide) wc h _ _ _ _ (x1 ++ x1) [] [] [] hid hhd.1 hhd.2 (ha'.grow g7c) (s1.grow g7c) (s2.grow g7c) (s3.grow g7c) (by simp) (Nat.le_trans hwl (by decide))).mono ?_)
        rintro e wd ⟨vd, rfl, ad, gd⟩
        refine ⟨_, rfl, ?_⟩
        obtain ⟨aod, capd, rfl⟩ := ReadsAt.value ad.reads
        have hmn : msgWire 0 ⟨h, x1 ++ x1, recsOf [], recsOf [], recsOf []⟩ = msgWire 0 ⟨h, x1 ++ x1, [], [], []⟩ := rfl
        rw [hmn]
        have Gd := Gc.trans gd
        refine RUN ?_
        by_cases h16 : 16000 < (msgWire 0 ⟨h, x1 ++ x1, [], [], []⟩).length
        · rw [show decide ((16000 : Int) < ((msgWire 0 ⟨h, x1 ++ x1, [], [], []⟩).length : Int)) = true from decide_eq_true (by omega)]
          refine RUN ?_
          exact ret1 (v := .bool true) Tryd.results4 rfl ⟨rfl, Gd⟩
        rw [show decide ((16000 : Int) < ((msgWire 0 ⟨h, x1 ++ x1, [], [], []⟩).length : Int)) = false from decide_eq_false (by omega)]
        obtain ⟨m', hst, hless⟩ := twice_law kNone 0 h x1 hMo (long_any x1 hlg) (by omega)
        refine RUN ?_
        have g4d : Grows w4 wd := (g5.trans g7c).trans gd
        have hsec : SecsAt wd (.slice none 0 0) [] := ⟨[], ReadsAt.nil _ _, by simp⟩
        refine WL_fun rfl ((laws_steps wd true _ _ (x1 ++ x1) [] (hT.grow g4d) hsec hna (by simp) (by simp)).mono ?_)
        rintro e we ⟨lv, rfl, hA, hSt, ge⟩
        refine ⟨_, rfl, ?_⟩
        have Ge := Gd.trans ge
        have hso : stepsOf (stepsV true (x1 ++ x1) []) = stepsM true (x1 ++ x1) [] := stepsV_of _ _ _
        have hno : ∀ x ∈ stepsV true (x1 ++ x1) [], x.1.act ≠ 7 := by
          intro x hx
          refine (asks_norec true (x1 ++ x1)).1 x.1 ?_
          rw [← hso]
          exact List.mem_map.2 ⟨x, hx, rfl⟩
        rw [← hso] at hst
        have hSn := hSt.len
        have hfl : (MSt.steps kNone .first (stepsOf (stepsV true (x1 ++ x1) []))).2 = m' := by rw [hst]
        have hlen : (MSt.steps kNone .first (stepsOf (stepsV true (x1 ++ x1) []))).2.out.length ≤ 100000000 := by rw [final_length kNone _ h, hfl]; omega
        generalize hss : stepsV true (x1 ++ x1) [] = ss at *
        obtain ⟨aol, capl, rfl⟩ := hA.reads.value
        have h2e := (gd.trans ge).kept h2c
        have h6e := (gd.trans ge).kept h6c
        refine GO ?_
        refine WL_loadRow vv h2e rfl ?_
        refine GO ?_
        refine WL_fun rfl ((build_Asks we (.slice none 0 0) [] h _ _ (ReadsAt.nil _ _) (by decide) hid hhd.1 hhd.2 hSt (fun _ => hno) (fun x hx => by simp only [List.length_nil]; omega) (hE.grow Ge) (hKn.grow Ge)).mono ?_)
        rintro e wf ⟨v, fv, dv, cs, rfl, hb⟩
        refine ⟨_, rfl, ?_⟩
        obtain rfl := hb.val
        have gf := hb.grows
        have hcs : cs.length = ss.length := by rw [← hb.codes.1, steps_length]; simp [stepsOf]
        have hz := codes_none hb.codes (by rw [hst]; exact noFlt_replicate _)
        have hdt := hb.data
        have hflt := hb.faults.reads
        have hone := hb.one
        have hwire : (([] : Bytes) ++ (MSt.steps kNone .first (stepsOf ss)).2.final h) = m'.final h := by rw [hfl]; rfl
        rw [hwire] at hdt
        clear hb
        obtain ⟨ad1, capd1, rfl⟩ := ReadsAt.value hdt.reads
        refine WL_alloc ?_
        intro b11 wg hb11 h11 gg
        refine WL_storeRow (new := #[fv, .slice ad1 (m'.final h).length capd1, .int .i64 0]) vv vv h11 rfl rfl hone ?_
        intro wh hwh h11'
        have gh : Grows wf wh := gg.wrote hwh hb11
        have Gh := (Ge.trans gf).trans gh
        have h6h := (gf.trans gh).kept h6e
        refine GO ?_
        refine WC_seq (WC_draws (fun w' => w'.heap[b11]? = some (.cells #[fv, .slice ad1 (m'.final h).length capd1, .int .i64 0] 45 (0, 0)) ∧ w'.heap[b6]? = some (.cells (msgCells h (.slice ao0 (x1 ++ x1).length cap0) (.slice ao1 ([] : List (RecM × RecV)).length cap1) (.slice ao2 ([] : List (RecM × RecV)).length cap2) (.slice ao3 ([] : List (RecM × RecV)).length cap3)).toArray 34 (0, 0))) (by kernel_rfl) (fun w1 g => ⟨g.kept h11', g.kept h6h⟩) ?_)
        intro wi gi hS
        refine WD_take (i := 0) rfl rfl rfl rfl (by kernel_rfl) (by assumption) (fun w' hS => by exact Y_loadRow vv hS.1 rfl) ?_
        refine WT 1 ?_
        refine WD_one (c := 2) (by kernel_rfl) rfl ?_
        refine WL_fun rfl ((laws_fine wi fv _ _ cs ss.length ((hflt.grow gh).grow gi) ⟨_, _, _, rfl⟩ aol capl rfl (by omega)).mono ?_)
        rintro e wj ⟨rfl, gj⟩
        have gj : Grows wi wj := gj
        have hSj := And.intro (gj.kept hS.1) (gj.kept hS.2)
        refine ⟨_, rfl, WL_nil ⟨hSj, ?_⟩⟩
        rw [fine_true hz hcs]
        refine WT 3 ?_
        refine WD_takeG (i := 4) (c := true) rfl rfl rfl rfl vv rfl rfl (by kernel_rfl) (by assumption) (fun _ w' hS => by first | exact Y_move vv | exact Y_assign vv | exact Y_nilCheck vv | exact Y_field vv | exact Y_load vv (by first | assumption | exact hS | exact hS.1 | exact hS.2 | exact hS.2.1 | exact hS.2.2) (by rfl) | exact Y_extract vv (by rfl) | exact Y_len vv | exact Y_lss vv vv | exact Y_leq vv vv | exact Y_gtr vv vv | exact Y_geq vv vv | exact Y_eql vv vv | exact Y_neq vv vv | exact Y_pick vv vv vv | exact Y_not vv) (fun h => absurd rfl h) ?_
        refine WD_takeG (i := 5) (c := true) rfl rfl rfl rfl vv rfl rfl (by kernel_rfl) (by assumption) (fun _ w' hS => by first | exact Y_move vv | exact Y_assign vv | exact Y_nilCheck vv | exact Y_field vv | exact Y_load vv (by first | assumption | exact hS | exact hS.1 | exact hS.2 | exact hS.2.1 | exact hS.2.2) (by rfl) | exact Y_extract vv (by rfl) | exact Y_len vv | exact Y_lss vv vv | exact Y_leq vv vv | exact Y_gtr vv vv | exact Y_geq vv vv | exact Y_eql vv vv | exact Y_neq vv vv | exact Y_pick vv vv vv | exact Y_not vv) (fun h => absurd rfl h) ?_
        refine WD_takeG (i := 6) (c := true) rfl rfl rfl rfl vv rfl rfl (by kernel_rfl) (by assumption) (fun _ w' hS => by first | exact Y_move vv | exact Y_assign vv | exact Y_nilCheck vv | exact Y_field vv | exact Y_load vv (by first | assumption | exact hS | exact hS.1 | exact hS.2 | exact hS.2.1 | exact hS.2.2) (by rfl) | exact Y_extract vv (by rfl) | exact Y_len vv | exact Y_lss vv vv | exact Y_leq vv vv | exact Y_gtr vv vv | exact Y_geq vv vv | exact Y_eql vv vv | exact Y_neq vv vv | exact Y_pick vv vv vv | exact Y_not vv) (fun h => absurd rfl h) ?_
        refine WD_takeG (i := 7) (c := true) rfl rfl rfl rfl vv rfl rfl (by kernel_rfl) (by assumption) (fun _ w' hS => by exact Y_loadRow vv hS.2 rfl) (fun h => absurd rfl h) ?_
        refine WD_one (c := 8) (by kernel_rfl) rfl ?_
        refine WL_wanted rfl vv ?_
        have g7j : Grows w5 wj := (((g7c.trans gd).trans ge).trans (gf.trans gh)).trans (gi.trans gj)
        refine WL_fun rfl ((spec_MessageWire body_None (by decide) wj h _ _ _ _ (x1 ++ x1) [] [] [] hid hhd.1 hhd.2 (ha'.grow g7j) (s1.grow g7j) (s2.grow g7j) (s3.grow g7j) (by simp) (Nat.le_trans hwl (by decide))).mono ?_)
        rintro e wk ⟨vk, rfl, ak, gk⟩
        refine ⟨_, rfl, ?_⟩
        obtain ⟨aok, capk, rfl⟩ := ReadsAt.value ak.reads
        have hSk := And.intro (gk.kept hSj.1) (gk.kept hSj.2)
        refine WL_nil ⟨hSk, ?_⟩
        rw [hmn]
        refine WD_takeG (i := 9) (c := true) rfl rfl rfl rfl vv rfl rfl (by kernel_rfl) (by assumption) (fun _ w' hS => by first | exact Y_move vv | exact Y_assign vv | exact Y_nilCheck vv | exact Y_field vv | exact Y_load vv (by first | assumption | exact hS | exact hS.1 | exact hS.2 | exact hS.2.1 | exact hS.2.2) (by rfl) | exact Y_extract vv (by rfl) | exact Y_len vv | exact Y_lss vv vv | exact Y_leq vv vv | exact Y_gtr vv vv | exact Y_geq vv vv | exact Y_eql vv vv | exact Y_neq vv vv | exact Y_pick vv vv vv | exact Y_not vv) (fun h => absurd rfl h) ?_
        refine WD_takeG (i := 10) (c := true) rfl rfl rfl rfl vv rfl rfl (by kernel_rfl) (by assumption) (fun _ w' hS => by first | exact Y_move vv | exact Y_assign vv | exact Y_nilCheck vv | exact Y_field vv | exact Y_load vv (by first | assumption | exact hS | exact hS.1 | exact hS.2 | exact hS.2.1 | exact hS.2.2) (by rfl) | exact Y_extract vv (by rfl) | exact Y_len vv | exact Y_lss vv vv | exact Y_leq vv vv | exact Y_gtr vv vv | exact Y_geq vv vv | exact Y_eql vv vv | exact Y_neq vv vv | exact Y_pick vv vv vv | exact Y_not vv) (fun h => absurd rfl h) ?_
        rw [show decide (((m'.final h).length : Int) < ((msgWire 0 ⟨h, x1 ++ x1, [], [], []⟩).length : Int)) = true from decide_eq_true (by omega)]
        refine WT 11 ?_
        refine WD_one (c := 12) (by kernel_rfl) rfl ?_
        refine WL_assign vv (WL_nil ⟨hSk, ?_⟩)
        refine WD_done (by kernel_rfl) ?_
        refine GO ?_
        exact ret1 (v := .bool true) Tryd.results4 rfl ⟨rfl, Gh.trans (gi.trans (gj.trans gk))⟩
end Go.Proofs.YtfoinoegabcigaaDoor
