/- The laws' own helpers: shortened, of questions alone. -/
import Derived.Test.YtfoinoegabcigaaDoorHd
import Derived.Test.YtfoinoegabcigaaDoorKNone
import Derived.Test.YtfoinoegabcigaaDoorBodyUnknown
import Derived.Test.YtfoinoegabcigaaDoorPlainly
import Derived.Test.YtfoinoegabcigaaDoorRead9
set_option linter.unusedVariables false
set_option linter.unusedSimpArgs false
namespace Go.Proofs.YtfoinoegabcigaaDoor
open Go.RowKit
set_option maxHeartbeats 4000000
set_option maxRecDepth 100000

theorem laws_shortAsks {F : FuncId} (hB : BuildC F kNone (fun _ => 0) false) (hC : Callable Tryd.prog F) (w : World) (h : HeadM) (av : Value) (qs : List AskM) (hid : h.id < 65536) (ha : AsksAt w av qs) (hE : Errs w) (hKn : Known w) :
    Calls Tryd.prog 24 #[.func (.func F) #[] #[], .int .i64 ((0 : Nat) : Int), .agg (hcells h), av, .slice none 0 0, .slice none 0 0, .slice none 0 0] w (RetV w (.bool true)) := by
  obtain ⟨aoq, capq, hav⟩ := ha.at_.value
  subst hav
  refine calls_of_WC Tryd.func24 rfl Tryd.ntmps24 rfl ?_
  refine GO ?_
  refine WL_box vv ?_
  intro b9 w6 hb9 h46 G6
  have h46 : w6.heap[b9]? = some (.cells (hcells h) 28 (0, 0)) := h46
  refine GO ?_
  refine WL_loadRow vv h46 rfl ?_
  refine GO ?_
  refine WL_fun rfl ((laws_message w6 0 h _ (.slice none 0 0) (.slice none 0 0) (.slice none 0 0) qs [] [] [] (ha.grow G6) (RecsAt.nil _) (RecsAt.nil _) (RecsAt.nil _)).mono ?_)
  rintro e w7 ⟨vs, rfl, hM, g7⟩
  refine ⟨_, rfl, ?_⟩
  obtain ⟨av', v1', v2', v3', l1', l2', l3', rfl, ha', s1, s2, s3, e1, e2, e3⟩ := hM.at_
  clear hM
  have z1 := recs_none e1
  have z2 := recs_none e2
  have z3 := recs_none e3
  subst z1 z2 z3
  obtain ⟨ao0, cap0, rfl⟩ := ha'.at_.value
  obtain ⟨ao1, cap1, rfl⟩ := s1.at_.at_.value
  obtain ⟨ao2, cap2, rfl⟩ := s2.at_.at_.value
  obtain ⟨ao3, cap3, rfl⟩ := s3.at_.at_.value
  refine WL_alloc ?_
  intro b11 w8 hb11 h11 g8
  refine WL_storeRow (new := (msgCells h (.slice ao0 qs.length cap0) (.slice ao1 ([] : List (RecM × RecV)).length cap1) (.slice ao2 ([] : List (RecM × RecV)).length cap2) (.slice ao3 ([] : List (RecM × RecV)).length cap3)).toArray) vv vv h11 rfl rfl (by simp [msgCells, Value.oneCell']) ?_
  intro w9 hw9 h11'
  have g9 : Grows w7 w9 := g8.wrote hw9 hb11
  have G9 := (G6.trans g7).trans g9
  clear g8 hw9 h11
  refine GO ?_
  refine WL_loadRow vv h11' rfl ?_
  refine WL_fun rfl ((spec_Ok body_None bok_None w9 h _ _ _ _ qs [] [] [] (ha'.grow g9) (s1.grow g9) (s2.grow g9) (s3.grow g9)).mono ?_)
  rintro e wa ⟨b, rfl, ga, hOk⟩
  refine ⟨_, rfl, ?_⟩
  have Ga := G9.trans ga
  cases b with
  | false =>
    refine RUN ?_
    exact ret1 (v := .bool true) Tryd.results24 rfl ⟨rfl, Ga⟩
  | true =>
    have hM0 : MsgOk 0 ⟨h, qs, [], [], []⟩ := hOk rfl
    have hMo : MsgOk 13 ⟨h, qs, [], [], []⟩ := hM0.none 13
    have hhd := head_of hMo
    clear hOk
    refine RUN ?_
    refine WL_loadRow vv (ga.kept h11') rfl ?_
    refine RUN ?_
    refine WL_fun rfl ((spec_Small wa h _ _ _ _ qs [] [] [] ((ha'.grow g9).grow ga) ((s1.grow g9).grow ga) ((s2.grow g9).grow ga) ((s3.grow g9).grow ga)).mono ?_)
    rintro e wb ⟨bs, rfl, gb⟩
    refine ⟨_, rfl, ?_⟩
    have Gb := Ga.trans gb
    cases bs with
    | false =>
      refine RUN ?_
      exact ret1 (v := .bool true) Tryd.results24 rfl ⟨rfl, Gb⟩
    | true =>
      refine RUN ?_
      have gab := ga.trans gb
      refine WL_loadRow vv (gab.kept h11') rfl ?_
      refine RUN ?_
      refine WL_fun rfl ((spec_Plainly wb h _ _ _ _ qs [] [] [] ((ha'.grow g9).grow gab) ((s1.grow g9).grow gab) ((s2.grow g9).grow gab) ((s3.grow g9).grow gab)).mono ?_)
      rintro e wc ⟨bp, rfl, gc, hPl⟩
      refine ⟨_, rfl, ?_⟩
      have Gc := Gb.trans gc
      cases bp with
      | false =>
        refine RUN ?_
        exact ret1 (v := .bool true) Tryd.results24 rfl ⟨rfl, Gc⟩
      | true =>
        refine RUN ?_
        have g6c := ((g7.trans g9).trans gab).trans gc
        have h4c := g6c.kept h46
        have h11c := (gab.trans gc).kept h11'
        have hna : qs.length < 60000 := hM0.na
        have hin : ∀ a ∈ qs, a.name.length ≤ 1000 ∧ a.type < 65536 ∧ a.cls < 65536 := by
          intro a hq
          have h1 := nameOk_len (List.all_eq_true.1 hM0.asks a hq)
          have h2 := ha.ok a hq
          exact ⟨by omega, h2.type, h2.cls⟩
        obtain ⟨m', hst, hRM⟩ := read3 okUnknown rdUnknown ⟨h, qs, [], [], []⟩ hMo
        have hRMs := hRM.short
        simp only at hst hRM hRMs
        rw [← steps_norec kNone kUnknown _ _ (asks_norec true qs).2] at hst
        refine WL_slice (vs := [.slice none 0 0, .slice none 0 0, .slice none 0 0]) (EvL.eq ⟨rfl, vv, rfl, vv, rfl, vv, trivial⟩) (by simp) rfl (by simp [Value.cells]) rfl ?_
        intro b45 wd hb45 h45 gd
        have Gd := Gc.trans gd
        have hsec : SecsAt wd (.slice (some ⟨b45, 0, none⟩) 3 3) [[], [], []] := SecsAt.lit h45 rfl rfl (by
          intro j u l hu hl
          match j with
          | 0 => cases hu; cases hl; exact RecsAt.nil _
          | 1 => cases hu; cases hl; exact RecsAt.nil _
          | 2 => cases hu; cases hl; exact RecsAt.nil _
          | j + 3 => simp at hu)
        refine WL_fun rfl ((laws_steps wd true _ _ qs [[], [], []] (ha.grow Gd) hsec hna (by simp) (by simp)).mono ?_)
        rintro e we ⟨lv, rfl, hA, hSt, ge⟩
        refine ⟨_, rfl, ?_⟩
        have Ge := Gd.trans ge
        have hSn := hSt.len
        have hso : stepsOf (stepsV true qs [[], [], []]) = stepsM true qs [[], [], []] := stepsV_of _ _ _
        have hno : ∀ x ∈ stepsV true qs [[], [], []], x.1.act ≠ 7 := by
          intro x hx
          refine (asks_norec true qs).2 x.1 ?_
          rw [← hso]
          exact List.mem_map.2 ⟨x, hx, rfl⟩
        rw [← hso] at hst
        have hwl := msgWire_le hMo
        have hfl : (MSt.steps kNone .first (stepsOf (stepsV true qs [[], [], []]))).2 = m' := by rw [hst]
        have hlen : (MSt.steps kNone .first (stepsOf (stepsV true qs [[], [], []]))).2.out.length ≤ 100000000 := by rw [final_length kNone _ h, hfl]; omega
        generalize hss : stepsV true qs [[], [], []] = ss at *
        obtain ⟨aol, capl, rfl⟩ := hA.reads.value
        refine GO ?_
        refine WL_loadRow vv ((gd.trans ge).kept h4c) rfl ?_
        refine GO ?_
        refine WL_funv hC vv rfl ((hB we (.slice none 0 0) [] h _ _ (ReadsAt.nil _ _) (by decide) hid hhd.1 hhd.2 hSt (fun _ => hno) (fun x hx => by simp only [List.length_nil]; omega) (hE.grow Ge) (hKn.grow Ge)).mono ?_)
        rintro e wf ⟨v, fv, dv, cs, rfl, hb⟩
        refine ⟨_, rfl, ?_⟩
        obtain rfl := hb.val
        have gf := hb.grows
        have hcs : cs.length = ss.length := by rw [← hb.codes.1, steps_length]; simp [stepsOf]
        have hz := codes_none hb.codes (by rw [hst]; exact noFlt_replicate _)
        have hdt := hb.data
        have hwire : (([] : Bytes) ++ (MSt.steps kNone .first (stepsOf ss)).2.final h) = m'.final h := by rw [hfl]; rfl
        rw [hwire] at hdt
        refine WL_alloc ?_
        intro b13 wg hb13 h13 gg
        refine WL_storeRow (new := #[fv, dv, .int .i64 0]) vv vv h13 rfl rfl hb.one ?_
        intro wh hwh h13'
        have gh : Grows wf wh := gg.wrote hwh hb13
        have Gh := (Ge.trans gf).trans gh
        obtain ⟨ad, capd, hdv⟩ := ReadsAt.value hdt.reads
        refine GO ?_
        refine WL_fun rfl ((spec_Read wh dv (m'.final h) 13 ⟨h, qs, [], [], []⟩ (by decide) bodyRd13 (src_of (hdt.grow gh) (by omega)) hRM hid hhd.1 hhd.2 hna (by simp) (by simp) (by simp) hin (by simp) (by simp) (by simp)).mono ?_)
        rintro e wi ⟨vr, rfl, hRd, gi⟩
        refine ⟨_, rfl, ?_⟩
        have hRd0 := hRd
        obtain ⟨va, r1, r2, r3, q1, q2, q3, rfl, hAr, hL1, hL2, hL3⟩ := hRd.at_
        obtain ⟨aoa, capa, hva⟩ := hAr.reads.value
        obtain ⟨aob, capb, hvb⟩ := hL1.acc.reads.value
        obtain ⟨aoc, capc, hvc⟩ := hL2.acc.reads.value
        obtain ⟨aod, capd', hvd⟩ := hL3.acc.reads.value
        refine RUN ?_
        refine WL_alloc ?_
        intro b14 wj hb14 h14 gj
        refine WL_storeRow (new := (msgCells h va r1 r2 r3).toArray) vv vv h14 rfl rfl (by rw [hva, hvb, hvc, hvd]; simp [msgCells, Value.oneCell']) ?_
        intro wk hwk h14'
        have gk : Grows wi wk := gj.wrote hwk hb14
        have hRd := hRd0.grow gk
        have ghk := gi.trans gk
        have gck := ((gd.trans ge).trans (gf.trans gh)).trans ghk
        have h13k := ghk.kept h13'
        have h11k := gck.kept h11c
        refine GO ?_
        refine WL_loadRow vv h11k rfl ?_
        have g7k := (g9.trans (gab.trans gc)).trans gck
        refine WL_fun rfl ((spec_MessageWire body_None (by decide) wk h _ _ _ _ qs [] [] [] hid hhd.1 hhd.2 (ha'.grow g7k) (s1.grow g7k) (s2.grow g7k) (s3.grow g7k) (by simp) (Nat.le_trans (msgWire_le hM0) (by decide))).mono ?_)
        rintro e wo ⟨vo, rfl, ao, go⟩
        refine ⟨_, rfl, ?_⟩
        have ao : AccB wk.heap.size wo vo (msgWire 0 ⟨h, qs, [], [], []⟩) := ao
        obtain ⟨aow, capw, hvw⟩ := ReadsAt.value ao.reads
        refine GO ?_
        refine WL_loadRow vv (go.kept h13k) rfl ?_
        refine GO ?_
        refine WL_fun rfl ((laws_fine wo fv dv _ cs ss.length ((hb.faults.reads.grow gh).grow (ghk.trans go)) ⟨_, _, _, hdv⟩ aol capl rfl (by omega)).mono ?_)
        rintro e wm ⟨rfl, gm⟩
        have gm : Grows wo wm := gm
        refine ⟨_, rfl, ?_⟩
        rw [fine_true hz hcs]
        refine RUN ?_
        refine WL_loadRow vv ((go.trans gm).kept h14') rfl ?_
        refine RUN ?_
        have hask : ∀ a ∈ qs, AskOk a := ha.ok
        refine WL_fun rfl ((read_wire (hRd.grow (go.trans gm)) (by decide) body_Unknown hid hMo hask (by simp) (by simp) (by simp)).mono ?_)
        rintro e wn ⟨vn, rfl, an, gn⟩
        refine ⟨_, rfl, ?_⟩
        refine RUN ?_
        refine WL_fun rfl ((laws_same wn vn vo _ _ an.reads (ao.reads.grow (gm.trans gn))).mono ?_)
        rintro e wp ⟨rfl, rfl⟩
        refine ⟨_, rfl, ?_⟩
        rw [msgWire_none 13 0 h qs, beq_self_eq_true (msgWire 0 ⟨h, qs, [], [], []⟩)]
        refine RUN ?_
        exact ret1 (v := .bool true) Tryd.results24 rfl ⟨rfl, (Gh.trans ghk).trans (go.trans (gm.trans gn))⟩
end Go.Proofs.YtfoinoegabcigaaDoor
