/- The laws' own helpers: behind. Written by gen_behind.py. -/
import Derived.Test.YtgkhfpkfjajdjaaDoorG9
set_option linter.unusedVariables false
set_option linter.unusedSimpArgs false
namespace Go.Proofs.YtgkhfpkfjajdjaaDoor
open Go.RowKit
set_option maxHeartbeats 4000000
set_option maxRecDepth 100000

theorem WD_three {n : Nat} {P : Program} {l : List Oper} {K : Env → World → Prop} {S : World → Prop} {fuel : Nat} {D : List Bool} {f : Env} {w : World} {c1 c2 c3 : Nat} {o1 o2 o3 : Oper} (hr : Region.ready .any l.toArray D.toArray = [c1, c2, c3]) (ho1 : l[c1]? = some o1) (ho2 : l[c2]? = some o2) (ho3 : l[c3]? = some o3)
    (h1 : WL n P l.toArray (fun f' w' => S w' ∧ WD n P l K S fuel (D.set c1 true) f' w') [o1] f w) (h2 : WL n P l.toArray (fun f' w' => S w' ∧ WD n P l K S fuel (D.set c2 true) f' w') [o2] f w) (h3 : WL n P l.toArray (fun f' w' => S w' ∧ WD n P l K S fuel (D.set c3 true) f' w') [o3] f w) : WD n P l K S (fuel + 1) D f w := .mk fun a ha => by
  have key : ∀ i o, l[i]? = some o → WL n P l.toArray (fun f' w' => S w' ∧ WD n P l K S fuel (D.set i true) f' w') [o] f w → wpOp P l.toArray (WLQ n K) i (fun a'' w'' => S w'' ∧ wpAnyH P .any l.toArray (WLQ n K) S fuel (D.toArray.setIfInBounds i true) a'' w'') a w := by
    intro i o ho h
    have hWL := h.out a ha
    have hoa : l.toArray[i]? = some o := by simpa using ho
    have hput : ∀ a'' w'', wpList P l.toArray (WLQ n fun f' w' => S w' ∧ WD n P l K S fuel (D.set i true) f' w') [] a'' w'' → S w'' ∧ wpAnyH P .any l.toArray (WLQ n K) S fuel (D.toArray.setIfInBounds i true) a'' w'' := by
      intro a'' w'' h
      obtain ⟨f', hf', hs, hd⟩ := h
      exact ⟨hs, by rw [← set_arr]; exact hd.out _ hf'⟩
    unfold wpOp
    rw [hoa]
    unfold wpList at hWL
    simp only
    split
    · rename_i hw
      rw [if_pos hw] at hWL
      rcases hWL with h | ⟨_, a1, w1, h⟩
      · exact .inl (upon_mono hput (fun e _ _ he h => by cases e <;> first | exact absurd rfl he | exact h.elim) _ h)
      · exact h.elim
    · rename_i hw
      rw [if_neg hw] at hWL
      exact hput _ _ hWL
  refine wpAnyH_all hr (by simp) fun i hi => ?_
  rcases List.mem_cons.1 hi with rfl | hi
  · exact key _ _ ho1 h1
  · rcases List.mem_cons.1 hi with rfl | hi
    · exact key _ _ ho2 h2
    · obtain rfl : i = c3 := by simpa using hi
      exact key _ _ ho3 h3
theorem laws_behind {F : FuncId} {K : KindM} {LB : RecM → Nat} {k : Nat} (hK : KC F K LB k) (w : World) (bufv : Value) (buf : Bytes) (short : Bool) (h : HeadM) (av v1 v2 : Value) (qs : List AskM) (l1 l2 : List (RecM × RecV)) (hbuf : BytesAt w bufv buf) (hbl : buf.length ≤ lim) (hid : h.id < 65536) (ha : AsksAt w av qs) (h1 : RecsAt w v1 l1) (h2 : RecsAt w v2 l2) (hE : Errs w) (hKn : Known w) :
    Calls Tryd.prog 22 #[.func (.func F) #[] #[], .int .i64 (k : Int), bufv, .bool short, .agg (hcells h), av, v1, v2] w (RetV w (.bool true)) := by
  refine calls_of_WC Tryd.func22 rfl Tryd.ntmps22 rfl ?_
  refine GO ?_
  refine WL_box vv ?_
  intro b12 w1 hb12 h12 g1
  refine GO ?_
  refine WL_loadRow vv h12 rfl ?_
  refine GO ?_
  refine WL_fun rfl ((laws_message w1 k h av v1 v2 (.slice none 0 0) qs l1 l2 [] (ha.grow g1) (h1.grow g1) (h2.grow g1) (RecsAt.nil w1)).mono ?_)
  rintro e w2 ⟨vs, rfl, hM, g2⟩
  refine ⟨_, rfl, ?_⟩
  obtain ⟨av', v1', v2', v3', l1', l2', l3', rfl, ha', s1, s2, s3, e1, e2, e3⟩ := hM.at_
  clear hM
  obtain ⟨ao0, cap0, rfl⟩ := ha'.at_.value
  obtain ⟨ao1, cap1, rfl⟩ := s1.at_.at_.value
  obtain ⟨ao2, cap2, rfl⟩ := s2.at_.at_.value
  obtain ⟨ao3, cap3, rfl⟩ := s3.at_.at_.value
  refine WL_alloc ?_
  intro b15 w3 hb15 h15 g3
  refine WL_storeRow (new := (msgCells h (.slice ao0 qs.length cap0) (.slice ao1 l1'.length cap1) (.slice ao2 l2'.length cap2) (.slice ao3 l3'.length cap3)).toArray) vv vv h15 rfl rfl (by simp [msgCells, Value.oneCell']) ?_
  intro w4 hw4 h15'
  have g4 : Grows w2 w4 := g3.wrote hw4 hb15
  have G4 := (g1.trans g2).trans g4
  refine GO ?_
  refine WL_loadRow vv h15' rfl ?_
  refine WL_fun rfl ((spec_Ok hK.body hK.bodyOk w4 h _ _ _ _ qs l1' l2' l3' (ha'.grow g4) (s1.grow g4) (s2.grow g4) (s3.grow g4)).mono ?_)
  rintro e w5 ⟨b, rfl, g5, hOk⟩
  refine ⟨_, rfl, ?_⟩
  have G5 := G4.trans g5
  refine WL_not vv ?_
  refine GO ?_
  first | refine WC_sif vv (fun hc => ?_) (fun hc => ?_) | refine WC_if vv (fun hc => ?_) (fun hc => ?_)
  · refine GO ?_
    exact ret1 (v := .bool true) Tryd.results22 rfl ⟨rfl, G5⟩
  have hMk := hOk (by simpa using hc)
  rw [e1, e2, e3] at hMk
  have hMo : MsgOk k ⟨h, qs, recsOf l1, recsOf l2, []⟩ := hMk.kind
  have hhd := head_of hMo
  clear hOk
  refine GO ?_
  obtain ⟨aoa, capa, rfl⟩ := ha.at_.value
  obtain ⟨aox, capx, rfl⟩ := h1.at_.value
  obtain ⟨aoy, capy, rfl⟩ := h2.at_.value
  refine WL_slice (vs := [.slice aox l1.length capx, .slice aoy l2.length capy]) (EvL.eq ⟨rfl, vv, rfl, vv, trivial⟩) (by simp) rfl (by simp [Value.cells]) rfl ?_
  intro b32 w6 hb32 h32 g6
  have G6 := G5.trans g6
  have hsec : SecsAt w6 (.slice (some ⟨b32, 0, none⟩) 2 2) [l1, l2] := SecsAt.lit h32 rfl rfl (by
    intro j u l hu hl
    match j with
    | 0 => cases hu; cases hl; exact h1.grow G6
    | 1 => cases hu; cases hl; exact h2.grow G6
    | j + 2 => simp at hu)
  have hn1 : l1.length < 60000 := by have := hMo.n1; simpa [recsOf] using this
  have hn2 : l2.length < 60000 := by have := hMo.n2; simpa [recsOf] using this
  refine WL_fun rfl ((laws_steps w6 short _ _ qs [l1, l2] (ha.grow G6) hsec hMo.na (by simp) (by simp [hn1, hn2])).mono ?_)
  rintro e wR ⟨lv, rfl, hA, hSt, g7⟩
  refine ⟨_, rfl, ?_⟩
  have hG0 := G6.trans g7
  obtain ⟨m', hbe, hb12', hbw⟩ := behind_law hK.ok ⟨h, qs, recsOf l1, recsOf l2, []⟩ hMo short rfl
  have hso : stepsOf (stepsV short qs [l1, l2]) = stepsM short qs [recsOf l1, recsOf l2] := stepsV_of _ _ _
  simp only at hbe
  rw [← hso] at hbe
  have hwl := msgWire_le hMo
  have hno : noFlt (MSt.steps K .first (stepsOf (stepsV short qs [l1, l2]))).1 := by rw [hbe]; exact noFlt_replicate _
  have hlen : (MSt.steps K .first (stepsOf (stepsV short qs [l1, l2]))).2.out.length ≤ 100000000 := by rw [hbe]; simp only; omega
  have hfin : 12 ≤ ((MSt.steps K .first (stepsOf (stepsV short qs [l1, l2]))).2.final h).length := by rw [← final_length, hbe]; exact hb12'
  have hfin2 : ((MSt.steps K .first (stepsOf (stepsV short qs [l1, l2]))).2.final h).length ≤ 100000000 := by rw [← final_length]; exact hlen
  have hlb := lb_steps (LB := LB) (short := short) (qs := qs) (ls := [l1, l2]) (by
    intro l hl
    simp only [List.mem_cons, List.not_mem_nil, or_false] at hl
    rcases hl with rfl | rfl
    · exact recs_lb hK.lb hMo.one
    · exact recs_lb hK.lb hMo.two) hK.lb0
  have hbl' : buf.length ≤ 140737488351232 := Nat.le_trans hbl (by decide)
  clear hbe hb12' hbw hso hwl hMk hMo
  obtain ⟨aol, capl, rfl⟩ := hA.reads.value
  have hSn := hSt.len
  have h12' := (((g2.trans g4).trans (g5.trans (g6.trans g7))).kept h12)
  have hlt12 : b12 < wR.heap.size := (Array.getElem?_eq_some_iff.1 h12').1
  clear g1 g2 g3 g4 G4 g5 G5 g6 G6 g7 h12 h15 h15' hw4 s1 s2 s3 ha' e1 e2 e3 hsec h32 hn1 hn2
  generalize hss : stepsV short qs [l1, l2] = ss at *
  have hlen1 : ∀ x ∈ ss, buf.length + (MSt.steps K .first (stepsOf ss)).2.out.length + 2000 + LB x.1.rec_ ≤ 200000000000000 := fun x hx => by have := hlb x hx; omega
  have hlen2 : ∀ x ∈ ss, ([] : Bytes).length + (MSt.steps K .first (stepsOf ss)).2.out.length + 2000 + LB x.1.rec_ ≤ 200000000000000 := fun x hx => by have := hlb x hx; simp only [List.length_nil]; omega
  refine GO ?_
  refine WC_cut (fun f w' => ∃ b19 b20 fv1 dv1 cs1 fv2 dv2 cs2, EnvHas f [(2, bufv), (18, .slice aol ss.length capl), (19, .pointer (some ⟨b19, 0, none⟩)), (20, .pointer (some ⟨b20, 0, none⟩))] ∧ w'.heap[b19]? = some (.cells #[fv1, dv1, .int .i64 0] 49 (0, 0)) ∧ w'.heap[b20]? = some (.cells #[fv2, dv2, .int .i64 0] 49 (0, 0)) ∧
    BuiltIs wR w' buf K h (stepsOf ss) (.agg #[fv1, dv1, .int .i64 0]) fv1 dv1 cs1 ∧ BuiltIs wR w' [] K h (stepsOf ss) (.agg #[fv2, dv2, .int .i64 0]) fv2 dv2 cs2) ?_ ?_
  · refine WC_draws (fun w' => w'.heap[b12]? = some (.cells (hcells h) 24 (0, 0))) (by kernel_rfl) (fun w1 g => g.kept h12') ?_
    intro wc hG hS
    refine WT 0 ?_
    refine WT 1 ?_
    refine WT 3 ?_
    refine WT 5 ?_
    refine WT 7 ?_
    refine WD_take (i := 2) rfl rfl rfl rfl (by kernel_rfl) (by assumption) (fun w' hS => by exact Y_loadRow vv hS rfl) ?_
    refine WD_take (i := 6) rfl rfl rfl rfl (by kernel_rfl) (by assumption) (fun w' hS => by exact Y_loadRow vv hS rfl) ?_
    refine WD_three (c1 := 4) (c2 := 9) (c3 := 10) (by kernel_rfl) rfl rfl rfl ?_ ?_ ?_
    · refine WL_funv hK.call vv rfl ((hK.build _ bufv buf h _ ss (hbuf.grow (hG0.trans hG)) hbl hid hhd.1 hhd.2 (hSt.grow hG) (fun e => by cases e) hlen1 (hE.grow (hG0.trans hG)) (hKn.grow (hG0.trans hG))).mono ?_)
      rintro e wd ⟨v1, fv1, dv1, cs1, rfl, hbn⟩
      obtain rfl := hbn.val
      have g := hbn.grows
      have hb1 := hbn.mono hG
      have hG := hG.trans g
      have hS := g.kept hS
      clear hbn g
      refine ⟨_, rfl, WL_nil ⟨hS, ?_⟩⟩
      refine WD_three (c1 := 8) (c2 := 9) (c3 := 10) (by kernel_rfl) rfl rfl rfl ?_ ?_ ?_
      · refine WL_funv hK.call vv rfl ((hK.build _ (.slice none 0 0) [] h _ ss (ReadsAt.nil _ _) (by decide) hid hhd.1 hhd.2 (hSt.grow hG) (fun e => by cases e) hlen2 (hE.grow (hG0.trans hG)) (hKn.grow (hG0.trans hG))).mono ?_)
        rintro e wd ⟨v2, fv2, dv2, cs2, rfl, hbn⟩
        obtain rfl := hbn.val
        have g := hbn.grows
        have hb2 := hbn.mono hG
        have hG := hG.trans g
        have hS := g.kept hS
        have hb1 := hb1.grow g
        clear hbn g
        refine ⟨_, rfl, WL_nil ⟨hS, ?_⟩⟩
        refine WD_two (c := 9) (c' := 10) (by kernel_rfl) rfl rfl ?_ ?_
        · refine WL_alloc ?_
          intro b19 wd hb19n h19 g
          have hb19 : wR.heap.size ≤ b19 := Nat.le_trans hG.size hb19n
          have hG := hG.trans g
          have hS := g.kept hS
          have hb1 := hb1.grow g
          have hb2 := hb2.grow g
          clear g hb19n
          refine WL_nil ⟨hS, ?_⟩
          refine WD_one (c := 10) (by kernel_rfl) rfl ?_
          refine WL_alloc ?_
          intro b20 wd hb20n h20 g
          have hne : b19 ≠ b20 := ne_new h19 hb20n
          have hb20 : wR.heap.size ≤ b20 := Nat.le_trans hG.size hb20n
          have hG := hG.trans g
          have hS := g.kept hS
          have hb1 := hb1.grow g
          have hb2 := hb2.grow g
          have h19 := g.kept h19
          clear g hb20n
          refine WL_nil ⟨hS, ?_⟩
          refine WD_one (c := 11) (by kernel_rfl) rfl ?_
          refine WL_storeRow (new := #[fv1, dv1, .int .i64 0]) vv vv h19 rfl rfl hb1.one ?_
          intro wd hw hn
          have hS := hw.kept hS (by omega)
          have hb1 := hb1.wrote hw h19 (by decide) (by decide) hb19
          have hb2 := hb2.wrote hw h19 (by decide) (by decide) hb19
          have h20 := hw.kept h20 hne.symm
          have hG := hG.wrote hw hb19
          have h19 := hn
          clear hw hn
          refine WL_nil ⟨hS, ?_⟩
          refine WD_one (c := 12) (by kernel_rfl) rfl ?_
          refine WL_storeRow (new := #[fv2, dv2, .int .i64 0]) vv vv h20 rfl rfl hb2.one ?_
          intro wd hw hn
          have hS := hw.kept hS (by omega)
          have hb1 := hb1.wrote hw h20 (by decide) (by decide) hb20
          have hb2 := hb2.wrote hw h20 (by decide) (by decide) hb20
          have h19 := hw.kept h19 hne
          have hG := hG.wrote hw hb20
          have h20 := hn
          clear hw hn
          refine WL_nil ⟨hS, ?_⟩
          refine WD_done (by kernel_rfl) ?_
          exact then_norm ⟨b19, b20, fv1, dv1, cs1, fv2, dv2, cs2, ⟨rfl, rfl, rfl, rfl, trivial⟩, h19, h20, hb1, hb2⟩
        · refine WL_alloc ?_
          intro b20 wd hb20n h20 g
          have hb20 : wR.heap.size ≤ b20 := Nat.le_trans hG.size hb20n
          have hG := hG.trans g
          have hS := g.kept hS
          have hb1 := hb1.grow g
          have hb2 := hb2.grow g
          clear g hb20n
          refine WL_nil ⟨hS, ?_⟩
          refine WD_one (c := 9) (by kernel_rfl) rfl ?_
          refine WL_alloc ?_
          intro b19 wd hb19n h19 g
          have hne : b19 ≠ b20 := (ne_new h20 hb19n).symm
          have hb19 : wR.heap.size ≤ b19 := Nat.le_trans hG.size hb19n
          have hG := hG.trans g
          have hS := g.kept hS
          have hb1 := hb1.grow g
          have hb2 := hb2.grow g
          have h20 := g.kept h20
          clear g hb19n
          refine WL_nil ⟨hS, ?_⟩
          refine WD_one (c := 11) (by kernel_rfl) rfl ?_
          refine WL_storeRow (new := #[fv1, dv1, .int .i64 0]) vv vv h19 rfl rfl hb1.one ?_
          intro wd hw hn
          have hS := hw.kept hS (by omega)
          have hb1 := hb1.wrote hw h19 (by decide) (by decide) hb19
          have hb2 := hb2.wrote hw h19 (by decide) (by decide) hb19
          have h20 := hw.kept h20 hne.symm
          have hG := hG.wrote hw hb19
          have h19 := hn
          clear hw hn
          refine WL_nil ⟨hS, ?_⟩
          refine WD_one (c := 12) (by kernel_rfl) rfl ?_
          refine WL_storeRow (new := #[fv2, dv2, .int .i64 0]) vv vv h20 rfl rfl hb2.one ?_
          intro wd hw hn
          have hS := hw.kept hS (by omega)
          have hb1 := hb1.wrote hw h20 (by decide) (by decide) hb20
          have hb2 := hb2.wrote hw h20 (by decide) (by decide) hb20
          have h19 := hw.kept h19 hne
          have hG := hG.wrote hw hb20
          have h20 := hn
          clear hw hn
          refine WL_nil ⟨hS, ?_⟩
          refine WD_done (by kernel_rfl) ?_
          exact then_norm ⟨b19, b20, fv1, dv1, cs1, fv2, dv2, cs2, ⟨rfl, rfl, rfl, rfl, trivial⟩, h19, h20, hb1, hb2⟩
      · refine WL_alloc ?_
        intro b19 wd hb19n h19 g
        have hb19 : wR.heap.size ≤ b19 := Nat.le_trans hG.size hb19n
        have hG := hG.trans g
        have hS := g.kept hS
        have hb1 := hb1.grow g
        clear g hb19n
        refine WL_nil ⟨hS, ?_⟩
        refine WD_two (c := 8) (c' := 10) (by kernel_rfl) rfl rfl ?_ ?_
        · refine WL_funv hK.call vv rfl ((hK.build _ (.slice none 0 0) [] h _ ss (ReadsAt.nil _ _) (by decide) hid hhd.1 hhd.2 (hSt.grow hG) (fun e => by cases e) hlen2 (hE.grow (hG0.trans hG)) (hKn.grow (hG0.trans hG))).mono ?_)
          rintro e wd ⟨v2, fv2, dv2, cs2, rfl, hbn⟩
          obtain rfl := hbn.val
          have g := hbn.grows
          have hb2 := hbn.mono hG
          have hG := hG.trans g
          have hS := g.kept hS
          have hb1 := hb1.grow g
          have h19 := g.kept h19
          clear hbn g
          refine ⟨_, rfl, WL_nil ⟨hS, ?_⟩⟩
          refine WD_one (c := 10) (by kernel_rfl) rfl ?_
          refine WL_alloc ?_
          intro b20 wd hb20n h20 g
          have hne : b19 ≠ b20 := ne_new h19 hb20n
          have hb20 : wR.heap.size ≤ b20 := Nat.le_trans hG.size hb20n
          have hG := hG.trans g
          have hS := g.kept hS
          have hb1 := hb1.grow g
          have hb2 := hb2.grow g
          have h19 := g.kept h19
          clear g hb20n
          refine WL_nil ⟨hS, ?_⟩
          refine WD_one (c := 11) (by kernel_rfl) rfl ?_
          refine WL_storeRow (new := #[fv1, dv1, .int .i64 0]) vv vv h19 rfl rfl hb1.one ?_
          intro wd hw hn
          have hS := hw.kept hS (by omega)
          have hb1 := hb1.wrote hw h19 (by decide) (by decide) hb19
          have hb2 := hb2.wrote hw h19 (by decide) (by decide) hb19
          have h20 := hw.kept h20 hne.symm
          have hG := hG.wrote hw hb19
          have h19 := hn
          clear hw hn
          refine WL_nil ⟨hS, ?_⟩
          refine WD_one (c := 12) (by kernel_rfl) rfl ?_
          refine WL_storeRow (new := #[fv2, dv2, .int .i64 0]) vv vv h20 rfl rfl hb2.one ?_
          intro wd hw hn
          have hS := hw.kept hS (by omega)
          have hb1 := hb1.wrote hw h20 (by decide) (by decide) hb20
          have hb2 := hb2.wrote hw h20 (by decide) (by decide) hb20
          have h19 := hw.kept h19 hne
          have hG := hG.wrote hw hb20
          have h20 := hn
          clear hw hn
          refine WL_nil ⟨hS, ?_⟩
          refine WD_done (by kernel_rfl) ?_
          exact then_norm ⟨b19, b20, fv1, dv1, cs1, fv2, dv2, cs2, ⟨rfl, rfl, rfl, rfl, trivial⟩, h19, h20, hb1, hb2⟩
        · refine WL_alloc ?_
          intro b20 wd hb20n h20 g
          have hne : b19 ≠ b20 := ne_new h19 hb20n
          have hb20 : wR.heap.size ≤ b20 := Nat.le_trans hG.size hb20n
          have hG := hG.trans g
          have hS := g.kept hS
          have hb1 := hb1.grow g
          have h19 := g.kept h19
          clear g hb20n
          refine WL_nil ⟨hS, ?_⟩
          refine WD_one (c := 8) (by kernel_rfl) rfl ?_
          refine WL_funv hK.call vv rfl ((hK.build _ (.slice none 0 0) [] h _ ss (ReadsAt.nil _ _) (by decide) hid hhd.1 hhd.2 (hSt.grow hG) (fun e => by cases e) hlen2 (hE.grow (hG0.trans hG)) (hKn.grow (hG0.trans hG))).mono ?_)
          rintro e wd ⟨v2, fv2, dv2, cs2, rfl, hbn⟩
          obtain rfl := hbn.val
          have g := hbn.grows
          have hb2 := hbn.mono hG
          have hG := hG.trans g
          have hS := g.kept hS
          have hb1 := hb1.grow g
          have h19 := g.kept h19
          have h20 := g.kept h20
          clear hbn g
          refine ⟨_, rfl, WL_nil ⟨hS, ?_⟩⟩
          refine WD_one (c := 11) (by kernel_rfl) rfl ?_
          refine WL_storeRow (new := #[fv1, dv1, .int .i64 0]) vv vv h19 rfl rfl hb1.one ?_
          intro wd hw hn
          have hS := hw.kept hS (by omega)
          have hb1 := hb1.wrote hw h19 (by decide) (by decide) hb19
          have hb2 := hb2.wrote hw h19 (by decide) (by decide) hb19
          have h20 := hw.kept h20 hne.symm
          have hG := hG.wrote hw hb19
          have h19 := hn
          clear hw hn
          refine WL_nil ⟨hS, ?_⟩
          refine WD_one (c := 12) (by kernel_rfl) rfl ?_
          refine WL_storeRow (new := #[fv2, dv2, .int .i64 0]) vv vv h20 rfl rfl hb2.one ?_
          intro wd hw hn
          have hS := hw.kept hS (by omega)
          have hb1 := hb1.wrote hw h20 (by decide) (by decide) hb20
          have hb2 := hb2.wrote hw h20 (by decide) (by decide) hb20
          have h19 := hw.kept h19 hne
          have hG := hG.wrote hw hb20
          have h20 := hn
          clear hw hn
          refine WL_nil ⟨hS, ?_⟩
          refine WD_done (by kernel_rfl) ?_
          exact then_norm ⟨b19, b20, fv1, dv1, cs1, fv2, dv2, cs2, ⟨rfl, rfl, rfl, rfl, trivial⟩, h19, h20, hb1, hb2⟩
      · refine WL_alloc ?_
        intro b20 wd hb20n h20 g
        have hb20 : wR.heap.size ≤ b20 := Nat.le_trans hG.size hb20n
        have hG := hG.trans g
        have hS := g.kept hS
        have hb1 := hb1.grow g
        clear g hb20n
        refine WL_nil ⟨hS, ?_⟩
        refine WD_two (c := 8) (c' := 9) (by kernel_rfl) rfl rfl ?_ ?_
        · refine WL_funv hK.call vv rfl ((hK.build _ (.slice none 0 0) [] h _ ss (ReadsAt.nil _ _) (by decide) hid hhd.1 hhd.2 (hSt.grow hG) (fun e => by cases e) hlen2 (hE.grow (hG0.trans hG)) (hKn.grow (hG0.trans hG))).mono ?_)
          rintro e wd ⟨v2, fv2, dv2, cs2, rfl, hbn⟩
          obtain rfl := hbn.val
          have g := hbn.grows
          have hb2 := hbn.mono hG
          have hG := hG.trans g
          have hS := g.kept hS
          have hb1 := hb1.grow g
          have h20 := g.kept h20
          clear hbn g
          refine ⟨_, rfl, WL_nil ⟨hS, ?_⟩⟩
          refine WD_one (c := 9) (by kernel_rfl) rfl ?_
          refine WL_alloc ?_
          intro b19 wd hb19n h19 g
          have hne : b19 ≠ b20 := (ne_new h20 hb19n).symm
          have hb19 : wR.heap.size ≤ b19 := Nat.le_trans hG.size hb19n
          have hG := hG.trans g
          have hS := g.kept hS
          have hb1 := hb1.grow g
          have hb2 := hb2.grow g
          have h20 := g.kept h20
          clear g hb19n
          refine WL_nil ⟨hS, ?_⟩
          refine WD_one (c := 11) (by kernel_rfl) rfl ?_
          refine WL_storeRow (new := #[fv1, dv1, .int .i64 0]) vv vv h19 rfl rfl hb1.one ?_
          intro wd hw hn
          have hS := hw.kept hS (by omega)
          have hb1 := hb1.wrote hw h19 (by decide) (by decide) hb19
          have hb2 := hb2.wrote hw h19 (by decide) (by decide) hb19
          have h20 := hw.kept h20 hne.symm
          have hG := hG.wrote hw hb19
          have h19 := hn
          clear hw hn
          refine WL_nil ⟨hS, ?_⟩
          refine WD_one (c := 12) (by kernel_rfl) rfl ?_
          refine WL_storeRow (new := #[fv2, dv2, .int .i64 0]) vv vv h20 rfl rfl hb2.one ?_
          intro wd hw hn
          have hS := hw.kept hS (by omega)
          have hb1 := hb1.wrote hw h20 (by decide) (by decide) hb20
          have hb2 := hb2.wrote hw h20 (by decide) (by decide) hb20
          have h19 := hw.kept h19 hne
          have hG := hG.wrote hw hb20
          have h20 := hn
          clear hw hn
          refine WL_nil ⟨hS, ?_⟩
          refine WD_done (by kernel_rfl) ?_
          exact then_norm ⟨b19, b20, fv1, dv1, cs1, fv2, dv2, cs2, ⟨rfl, rfl, rfl, rfl, trivial⟩, h19, h20, hb1, hb2⟩
        · refine WL_alloc ?_
          intro b19 wd hb19n h19 g
          have hne : b19 ≠ b20 := (ne_new h20 hb19n).symm
          have hb19 : wR.heap.size ≤ b19 := Nat.le_trans hG.size hb19n
          have hG := hG.trans g
          have hS := g.kept hS
          have hb1 := hb1.grow g
          have h20 := g.kept h20
          clear g hb19n
          refine WL_nil ⟨hS, ?_⟩
          refine WD_one (c := 8) (by kernel_rfl) rfl ?_
          refine WL_funv hK.call vv rfl ((hK.build _ (.slice none 0 0) [] h _ ss (ReadsAt.nil _ _) (by decide) hid hhd.1 hhd.2 (hSt.grow hG) (fun e => by cases e) hlen2 (hE.grow (hG0.trans hG)) (hKn.grow (hG0.trans hG))).mono ?_)
          rintro e wd ⟨v2, fv2, dv2, cs2, rfl, hbn⟩
          obtain rfl := hbn.val
          have g := hbn.grows
          have hb2 := hbn.mono hG
          have hG := hG.trans g
          have hS := g.kept hS
          have hb1 := hb1.grow g
          have h19 := g.kept h19
          have h20 := g.kept h20
          clear hbn g
          refine ⟨_, rfl, WL_nil ⟨hS, ?_⟩⟩
          refine WD_one (c := 11) (by kernel_rfl) rfl ?_
          refine WL_storeRow (new := #[fv1, dv1, .int .i64 0]) vv vv h19 rfl rfl hb1.one ?_
          intro wd hw hn
          have hS := hw.kept hS (by omega)
          have hb1 := hb1.wrote hw h19 (by decide) (by decide) hb19
          have hb2 := hb2.wrote hw h19 (by decide) (by decide) hb19
          have h20 := hw.kept h20 hne.symm
          have hG := hG.wrote hw hb19
          have h19 := hn
          clear hw hn
          refine WL_nil ⟨hS, ?_⟩
          refine WD_one (c := 12) (by kernel_rfl) rfl ?_
          refine WL_storeRow (new := #[fv2, dv2, .int .i64 0]) vv vv h20 rfl rfl hb2.one ?_
          intro wd hw hn
          have hS := hw.kept hS (by omega)
          have hb1 := hb1.wrote hw h20 (by decide) (by decide) hb20
          have hb2 := hb2.wrote hw h20 (by decide) (by decide) hb20
          have h19 := hw.kept h19 hne
          have hG := hG.wrote hw hb20
          have h20 := hn
          clear hw hn
          refine WL_nil ⟨hS, ?_⟩
          refine WD_done (by kernel_rfl) ?_
          exact then_norm ⟨b19, b20, fv1, dv1, cs1, fv2, dv2, cs2, ⟨rfl, rfl, rfl, rfl, trivial⟩, h19, h20, hb1, hb2⟩
    · refine WL_alloc ?_
      intro b19 wd hb19n h19 g
      have hb19 : wR.heap.size ≤ b19 := Nat.le_trans hG.size hb19n
      have hG := hG.trans g
      have hS := g.kept hS
      clear g hb19n
      refine WL_nil ⟨hS, ?_⟩
      refine WD_two (c := 4) (c' := 10) (by kernel_rfl) rfl rfl ?_ ?_
      · refine WL_funv hK.call vv rfl ((hK.build _ bufv buf h _ ss (hbuf.grow (hG0.trans hG)) hbl hid hhd.1 hhd.2 (hSt.grow hG) (fun e => by cases e) hlen1 (hE.grow (hG0.trans hG)) (hKn.grow (hG0.trans hG))).mono ?_)
        rintro e wd ⟨v1, fv1, dv1, cs1, rfl, hbn⟩
        obtain rfl := hbn.val
        have g := hbn.grows
        have hb1 := hbn.mono hG
        have hG := hG.trans g
        have hS := g.kept hS
        have h19 := g.kept h19
        clear hbn g
        refine ⟨_, rfl, WL_nil ⟨hS, ?_⟩⟩
        refine WD_two (c := 8) (c' := 10) (by kernel_rfl) rfl rfl ?_ ?_
        · refine WL_funv hK.call vv rfl ((hK.build _ (.slice none 0 0) [] h _ ss (ReadsAt.nil _ _) (by decide) hid hhd.1 hhd.2 (hSt.grow hG) (fun e => by cases e) hlen2 (hE.grow (hG0.trans hG)) (hKn.grow (hG0.trans hG))).mono ?_)
          rintro e wd ⟨v2, fv2, dv2, cs2, rfl, hbn⟩
          obtain rfl := hbn.val
          have g := hbn.grows
          have hb2 := hbn.mono hG
          have hG := hG.trans g
          have hS := g.kept hS
          have hb1 := hb1.grow g
          have h19 := g.kept h19
          clear hbn g
          refine ⟨_, rfl, WL_nil ⟨hS, ?_⟩⟩
          refine WD_one (c := 10) (by kernel_rfl) rfl ?_
          refine WL_alloc ?_
          intro b20 wd hb20n h20 g
          have hne : b19 ≠ b20 := ne_new h19 hb20n
          have hb20 : wR.heap.size ≤ b20 := Nat.le_trans hG.size hb20n
          have hG := hG.trans g
          have hS := g.kept hS
          have hb1 := hb1.grow g
          have hb2 := hb2.grow g
          have h19 := g.kept h19
          clear g hb20n
          refine WL_nil ⟨hS, ?_⟩
          refine WD_one (c := 11) (by kernel_rfl) rfl ?_
          refine WL_storeRow (new := #[fv1, dv1, .int .i64 0]) vv vv h19 rfl rfl hb1.one ?_
          intro wd hw hn
          have hS := hw.kept hS (by omega)
          have hb1 := hb1.wrote hw h19 (by decide) (by decide) hb19
          have hb2 := hb2.wrote hw h19 (by decide) (by decide) hb19
          have h20 := hw.kept h20 hne.symm
          have hG := hG.wrote hw hb19
          have h19 := hn
          clear hw hn
          refine WL_nil ⟨hS, ?_⟩
          refine WD_one (c := 12) (by kernel_rfl) rfl ?_
          refine WL_storeRow (new := #[fv2, dv2, .int .i64 0]) vv vv h20 rfl rfl hb2.one ?_
          intro wd hw hn
          have hS := hw.kept hS (by omega)
          have hb1 := hb1.wrote hw h20 (by decide) (by decide) hb20
          have hb2 := hb2.wrote hw h20 (by decide) (by decide) hb20
          have h19 := hw.kept h19 hne
          have hG := hG.wrote hw hb20
          have h20 := hn
          clear hw hn
          refine WL_nil ⟨hS, ?_⟩
          refine WD_done (by kernel_rfl) ?_
          exact then_norm ⟨b19, b20, fv1, dv1, cs1, fv2, dv2, cs2, ⟨rfl, rfl, rfl, rfl, trivial⟩, h19, h20, hb1, hb2⟩
        · refine WL_alloc ?_
          intro b20 wd hb20n h20 g
          have hne : b19 ≠ b20 := ne_new h19 hb20n
          have hb20 : wR.heap.size ≤ b20 := Nat.le_trans hG.size hb20n
          have hG := hG.trans g
          have hS := g.kept hS
          have hb1 := hb1.grow g
          have h19 := g.kept h19
          clear g hb20n
          refine WL_nil ⟨hS, ?_⟩
          refine WD_one (c := 8) (by kernel_rfl) rfl ?_
          refine WL_funv hK.call vv rfl ((hK.build _ (.slice none 0 0) [] h _ ss (ReadsAt.nil _ _) (by decide) hid hhd.1 hhd.2 (hSt.grow hG) (fun e => by cases e) hlen2 (hE.grow (hG0.trans hG)) (hKn.grow (hG0.trans hG))).mono ?_)
          rintro e wd ⟨v2, fv2, dv2, cs2, rfl, hbn⟩
          obtain rfl := hbn.val
          have g := hbn.grows
          have hb2 := hbn.mono hG
          have hG := hG.trans g
          have hS := g.kept hS
          have hb1 := hb1.grow g
          have h19 := g.kept h19
          have h20 := g.kept h20
          clear hbn g
          refine ⟨_, rfl, WL_nil ⟨hS, ?_⟩⟩
          refine WD_one (c := 11) (by kernel_rfl) rfl ?_
          refine WL_storeRow (new := #[fv1, dv1, .int .i64 0]) vv vv h19 rfl rfl hb1.one ?_
          intro wd hw hn
          have hS := hw.kept hS (by omega)
          have hb1 := hb1.wrote hw h19 (by decide) (by decide) hb19
          have hb2 := hb2.wrote hw h19 (by decide) (by decide) hb19
          have h20 := hw.kept h20 hne.symm
          have hG := hG.wrote hw hb19
          have h19 := hn
          clear hw hn
          refine WL_nil ⟨hS, ?_⟩
          refine WD_one (c := 12) (by kernel_rfl) rfl ?_
          refine WL_storeRow (new := #[fv2, dv2, .int .i64 0]) vv vv h20 rfl rfl hb2.one ?_
          intro wd hw hn
          have hS := hw.kept hS (by omega)
          have hb1 := hb1.wrote hw h20 (by decide) (by decide) hb20
          have hb2 := hb2.wrote hw h20 (by decide) (by decide) hb20
          have h19 := hw.kept h19 hne
          have hG := hG.wrote hw hb20
          have h20 := hn
          clear hw hn
          refine WL_nil ⟨hS, ?_⟩
          refine WD_done (by kernel_rfl) ?_
          exact then_norm ⟨b19, b20, fv1, dv1, cs1, fv2, dv2, cs2, ⟨rfl, rfl, rfl, rfl, trivial⟩, h19, h20, hb1, hb2⟩
      · refine WL_alloc ?_
        intro b20 wd hb20n h20 g
        have hne : b19 ≠ b20 := ne_new h19 hb20n
        have hb20 : wR.heap.size ≤ b20 := Nat.le_trans hG.size hb20n
        have hG := hG.trans g
        have hS := g.kept hS
        have h19 := g.kept h19
        clear g hb20n
        refine WL_nil ⟨hS, ?_⟩
        refine WD_one (c := 4) (by kernel_rfl) rfl ?_
        refine WL_funv hK.call vv rfl ((hK.build _ bufv buf h _ ss (hbuf.grow (hG0.trans hG)) hbl hid hhd.1 hhd.2 (hSt.grow hG) (fun e => by cases e) hlen1 (hE.grow (hG0.trans hG)) (hKn.grow (hG0.trans hG))).mono ?_)
        rintro e wd ⟨v1, fv1, dv1, cs1, rfl, hbn⟩
        obtain rfl := hbn.val
        have g := hbn.grows
        have hb1 := hbn.mono hG
        have hG := hG.trans g
        have hS := g.kept hS
        have h19 := g.kept h19
        have h20 := g.kept h20
        clear hbn g
        refine ⟨_, rfl, WL_nil ⟨hS, ?_⟩⟩
        refine WD_one (c := 8) (by kernel_rfl) rfl ?_
        refine WL_funv hK.call vv rfl ((hK.build _ (.slice none 0 0) [] h _ ss (ReadsAt.nil _ _) (by decide) hid hhd.1 hhd.2 (hSt.grow hG) (fun e => by cases e) hlen2 (hE.grow (hG0.trans hG)) (hKn.grow (hG0.trans hG))).mono ?_)
        rintro e wd ⟨v2, fv2, dv2, cs2, rfl, hbn⟩
        obtain rfl := hbn.val
        have g := hbn.grows
        have hb2 := hbn.mono hG
        have hG := hG.trans g
        have hS := g.kept hS
        have hb1 := hb1.grow g
        have h19 := g.kept h19
        have h20 := g.kept h20
        clear hbn g
        refine ⟨_, rfl, WL_nil ⟨hS, ?_⟩⟩
        refine WD_one (c := 11) (by kernel_rfl) rfl ?_
        refine WL_storeRow (new := #[fv1, dv1, .int .i64 0]) vv vv h19 rfl rfl hb1.one ?_
        intro wd hw hn
        have hS := hw.kept hS (by omega)
        have hb1 := hb1.wrote hw h19 (by decide) (by decide) hb19
        have hb2 := hb2.wrote hw h19 (by decide) (by decide) hb19
        have h20 := hw.kept h20 hne.symm
        have hG := hG.wrote hw hb19
        have h19 := hn
        clear hw hn
        refine WL_nil ⟨hS, ?_⟩
        refine WD_one (c := 12) (by kernel_rfl) rfl ?_
        refine WL_storeRow (new := #[fv2, dv2, .int .i64 0]) vv vv h20 rfl rfl hb2.one ?_
        intro wd hw hn
        have hS := hw.kept hS (by omega)
        have hb1 := hb1.wrote hw h20 (by decide) (by decide) hb20
        have hb2 := hb2.wrote hw h20 (by decide) (by decide) hb20
        have h19 := hw.kept h19 hne
        have hG := hG.wrote hw hb20
        have h20 := hn
        clear hw hn
        refine WL_nil ⟨hS, ?_⟩
        refine WD_done (by kernel_rfl) ?_
        exact then_norm ⟨b19, b20, fv1, dv1, cs1, fv2, dv2, cs2, ⟨rfl, rfl, rfl, rfl, trivial⟩, h19, h20, hb1, hb2⟩
    · refine WL_alloc ?_
      intro b20 wd hb20n h20 g
      have hb20 : wR.heap.size ≤ b20 := Nat.le_trans hG.size hb20n
      have hG := hG.trans g
      have hS := g.kept hS
      clear g hb20n
      refine WL_nil ⟨hS, ?_⟩
      refine WD_two (c := 4) (c' := 9) (by kernel_rfl) rfl rfl ?_ ?_
      · refine WL_funv hK.call vv rfl ((hK.build _ bufv buf h _ ss (hbuf.grow (hG0.trans hG)) hbl hid hhd.1 hhd.2 (hSt.grow hG) (fun e => by cases e) hlen1 (hE.grow (hG0.trans hG)) (hKn.grow (hG0.trans hG))).mono ?_)
        rintro e wd ⟨v1, fv1, dv1, cs1, rfl, hbn⟩
        obtain rfl := hbn.val
        have g := hbn.grows
        have hb1 := hbn.mono hG
        have hG := hG.trans g
        have hS := g.kept hS
        have h20 := g.kept h20
        clear hbn g
        refine ⟨_, rfl, WL_nil ⟨hS, ?_⟩⟩
        refine WD_two (c := 8) (c' := 9) (by kernel_rfl) rfl rfl ?_ ?_
        · refine WL_funv hK.call vv rfl ((hK.build _ (.slice none 0 0) [] h _ ss (ReadsAt.nil _ _) (by decide) hid hhd.1 hhd.2 (hSt.grow hG) (fun e => by cases e) hlen2 (hE.grow (hG0.trans hG)) (hKn.grow (hG0.trans hG))).mono ?_)
          rintro e wd ⟨v2, fv2, dv2, cs2, rfl, hbn⟩
          obtain rfl := hbn.val
          have g := hbn.grows
          have hb2 := hbn.mono hG
          have hG := hG.trans g
          have hS := g.kept hS
          have hb1 := hb1.grow g
          have h20 := g.kept h20
          clear hbn g
          refine ⟨_, rfl, WL_nil ⟨hS, ?_⟩⟩
          refine WD_one (c := 9) (by kernel_rfl) rfl ?_
          refine WL_alloc ?_
          intro b19 wd hb19n h19 g
          have hne : b19 ≠ b20 := (ne_new h20 hb19n).symm
          have hb19 : wR.heap.size ≤ b19 := Nat.le_trans hG.size hb19n
          have hG := hG.trans g
          have hS := g.kept hS
          have hb1 := hb1.grow g
          have hb2 := hb2.grow g
          have h20 := g.kept h20
          clear g hb19n
          refine WL_nil ⟨hS, ?_⟩
          refine WD_one (c := 11) (by kernel_rfl) rfl ?_
          refine WL_storeRow (new := #[fv1, dv1, .int .i64 0]) vv vv h19 rfl rfl hb1.one ?_
          intro wd hw hn
          have hS := hw.kept hS (by omega)
          have hb1 := hb1.wrote hw h19 (by decide) (by decide) hb19
          have hb2 := hb2.wrote hw h19 (by decide) (by decide) hb19
          have h20 := hw.kept h20 hne.symm
          have hG := hG.wrote hw hb19
          have h19 := hn
          clear hw hn
          refine WL_nil ⟨hS, ?_⟩
          refine WD_one (c := 12) (by kernel_rfl) rfl ?_
          refine WL_storeRow (new := #[fv2, dv2, .int .i64 0]) vv vv h20 rfl rfl hb2.one ?_
          intro wd hw hn
          have hS := hw.kept hS (by omega)
          have hb1 := hb1.wrote hw h20 (by decide) (by decide) hb20
          have hb2 := hb2.wrote hw h20 (by decide) (by decide) hb20
          have h19 := hw.kept h19 hne
          have hG := hG.wrote hw hb20
          have h20 := hn
          clear hw hn
          refine WL_nil ⟨hS, ?_⟩
          refine WD_done (by kernel_rfl) ?_
          exact then_norm ⟨b19, b20, fv1, dv1, cs1, fv2, dv2, cs2, ⟨rfl, rfl, rfl, rfl, trivial⟩, h19, h20, hb1, hb2⟩
        · refine WL_alloc ?_
          intro b19 wd hb19n h19 g
          have hne : b19 ≠ b20 := (ne_new h20 hb19n).symm
          have hb19 : wR.heap.size ≤ b19 := Nat.le_trans hG.size hb19n
          have hG := hG.trans g
          have hS := g.kept hS
          have hb1 := hb1.grow g
          have h20 := g.kept h20
          clear g hb19n
          refine WL_nil ⟨hS, ?_⟩
          refine WD_one (c := 8) (by kernel_rfl) rfl ?_
          refine WL_funv hK.call vv rfl ((hK.build _ (.slice none 0 0) [] h _ ss (ReadsAt.nil _ _) (by decide) hid hhd.1 hhd.2 (hSt.grow hG) (fun e => by cases e) hlen2 (hE.grow (hG0.trans hG)) (hKn.grow (hG0.trans hG))).mono ?_)
          rintro e wd ⟨v2, fv2, dv2, cs2, rfl, hbn⟩
          obtain rfl := hbn.val
          have g := hbn.grows
          have hb2 := hbn.mono hG
          have hG := hG.trans g
          have hS := g.kept hS
          have hb1 := hb1.grow g
          have h19 := g.kept h19
          have h20 := g.kept h20
          clear hbn g
          refine ⟨_, rfl, WL_nil ⟨hS, ?_⟩⟩
          refine WD_one (c := 11) (by kernel_rfl) rfl ?_
          refine WL_storeRow (new := #[fv1, dv1, .int .i64 0]) vv vv h19 rfl rfl hb1.one ?_
          intro wd hw hn
          have hS := hw.kept hS (by omega)
          have hb1 := hb1.wrote hw h19 (by decide) (by decide) hb19
          have hb2 := hb2.wrote hw h19 (by decide) (by decide) hb19
          have h20 := hw.kept h20 hne.symm
          have hG := hG.wrote hw hb19
          have h19 := hn
          clear hw hn
          refine WL_nil ⟨hS, ?_⟩
          refine WD_one (c := 12) (by kernel_rfl) rfl ?_
          refine WL_storeRow (new := #[fv2, dv2, .int .i64 0]) vv vv h20 rfl rfl hb2.one ?_
          intro wd hw hn
          have hS := hw.kept hS (by omega)
          have hb1 := hb1.wrote hw h20 (by decide) (by decide) hb20
          have hb2 := hb2.wrote hw h20 (by decide) (by decide) hb20
          have h19 := hw.kept h19 hne
          have hG := hG.wrote hw hb20
          have h20 := hn
          clear hw hn
          refine WL_nil ⟨hS, ?_⟩
          refine WD_done (by kernel_rfl) ?_
          exact then_norm ⟨b19, b20, fv1, dv1, cs1, fv2, dv2, cs2, ⟨rfl, rfl, rfl, rfl, trivial⟩, h19, h20, hb1, hb2⟩
      · refine WL_alloc ?_
        intro b19 wd hb19n h19 g
        have hne : b19 ≠ b20 := (ne_new h20 hb19n).symm
        have hb19 : wR.heap.size ≤ b19 := Nat.le_trans hG.size hb19n
        have hG := hG.trans g
        have hS := g.kept hS
        have h20 := g.kept h20
        clear g hb19n
        refine WL_nil ⟨hS, ?_⟩
        refine WD_one (c := 4) (by kernel_rfl) rfl ?_
        refine WL_funv hK.call vv rfl ((hK.build _ bufv buf h _ ss (hbuf.grow (hG0.trans hG)) hbl hid hhd.1 hhd.2 (hSt.grow hG) (fun e => by cases e) hlen1 (hE.grow (hG0.trans hG)) (hKn.grow (hG0.trans hG))).mono ?_)
        rintro e wd ⟨v1, fv1, dv1, cs1, rfl, hbn⟩
        obtain rfl := hbn.val
        have g := hbn.grows
        have hb1 := hbn.mono hG
        have hG := hG.trans g
        have hS := g.kept hS
        have h19 := g.kept h19
        have h20 := g.kept h20
        clear hbn g
        refine ⟨_, rfl, WL_nil ⟨hS, ?_⟩⟩
        refine WD_one (c := 8) (by kernel_rfl) rfl ?_
        refine WL_funv hK.call vv rfl ((hK.build _ (.slice none 0 0) [] h _ ss (ReadsAt.nil _ _) (by decide) hid hhd.1 hhd.2 (hSt.grow hG) (fun e => by cases e) hlen2 (hE.grow (hG0.trans hG)) (hKn.grow (hG0.trans hG))).mono ?_)
        rintro e wd ⟨v2, fv2, dv2, cs2, rfl, hbn⟩
        obtain rfl := hbn.val
        have g := hbn.grows
        have hb2 := hbn.mono hG
        have hG := hG.trans g
        have hS := g.kept hS
        have hb1 := hb1.grow g
        have h19 := g.kept h19
        have h20 := g.kept h20
        clear hbn g
        refine ⟨_, rfl, WL_nil ⟨hS, ?_⟩⟩
        refine WD_one (c := 11) (by kernel_rfl) rfl ?_
        refine WL_storeRow (new := #[fv1, dv1, .int .i64 0]) vv vv h19 rfl rfl hb1.one ?_
        intro wd hw hn
        have hS := hw.kept hS (by omega)
        have hb1 := hb1.wrote hw h19 (by decide) (by decide) hb19
        have hb2 := hb2.wrote hw h19 (by decide) (by decide) hb19
        have h20 := hw.kept h20 hne.symm
        have hG := hG.wrote hw hb19
        have h19 := hn
        clear hw hn
        refine WL_nil ⟨hS, ?_⟩
        refine WD_one (c := 12) (by kernel_rfl) rfl ?_
        refine WL_storeRow (new := #[fv2, dv2, .int .i64 0]) vv vv h20 rfl rfl hb2.one ?_
        intro wd hw hn
        have hS := hw.kept hS (by omega)
        have hb1 := hb1.wrote hw h20 (by decide) (by decide) hb20
        have hb2 := hb2.wrote hw h20 (by decide) (by decide) hb20
        have h19 := hw.kept h19 hne
        have hG := hG.wrote hw hb20
        have h20 := hn
        clear hw hn
        refine WL_nil ⟨hS, ?_⟩
        refine WD_done (by kernel_rfl) ?_
        exact then_norm ⟨b19, b20, fv1, dv1, cs1, fv2, dv2, cs2, ⟨rfl, rfl, rfl, rfl, trivial⟩, h19, h20, hb1, hb2⟩
  rintro f8 w8 ⟨b19, b20, fv1, dv1, cs1, fv2, dv2, cs2, he, h19, h20, hb1, hb2⟩
  obtain ⟨f, rfl⟩ := he.form
  have hcs1 : cs1.length = ss.length := by rw [← hb1.codes.1, steps_length]; simp [stepsOf]
  have hcs2 : cs2.length = ss.length := by rw [← hb2.codes.1, steps_length]; simp [stepsOf]
  have hz1 := codes_none hb1.codes hno
  have hz2 := codes_none hb2.codes hno
  have hG8 := hG0.trans hb1.grows
  obtain ⟨ad1, cd1, hdv1⟩ := ReadsAt.value hb1.data.reads
  obtain ⟨ad2, cd2, hdv2⟩ := ReadsAt.value hb2.data.reads
  subst hdv1 hdv2
  refine WC_seq (WC_draws (fun w' => w'.heap[b19]? = some (.cells #[fv1, .slice ad1 (buf ++ (MSt.steps K .first (stepsOf ss)).2.final h).length cd1, .int .i64 0] 49 (0, 0)) ∧ w'.heap[b20]? = some (.cells #[fv2, .slice ad2 ([] ++ (MSt.steps K .first (stepsOf ss)).2.final h).length cd2, .int .i64 0] 49 (0, 0))) (by kernel_rfl) (fun w1 g => ⟨g.kept h19, g.kept h20⟩) ?_)
  intro w9 g9 hS
  refine WD_take (i := 0) rfl rfl rfl rfl (by kernel_rfl) (by assumption) (fun w' hS => by exact Y_loadRow vv hS.1 rfl) ?_
  refine WT 1 ?_
  refine WD_one (c := 2) (by kernel_rfl) rfl ?_
  refine WL_fun rfl ((laws_fine w9 _ _ _ cs1 ss.length (hb1.faults.reads.grow g9) ⟨_, _, _, rfl⟩ aol capl rfl (by omega)).mono ?_)
  rintro e w10 ⟨rfl, g10⟩
  have g10 : Grows w9 w10 := g10
  have hS10 := And.intro (g10.kept hS.1) (g10.kept hS.2)
  refine ⟨_, rfl, WL_nil ⟨hS10, ?_⟩⟩
  rw [fine_true hz1 hcs1]
  refine WT 3 ?_
  refine WD_takeG (i := 4) (c := true) rfl rfl rfl rfl vv rfl rfl (by kernel_rfl) (by assumption) (fun _ w' hS => by exact Y_loadRow vv hS.2 rfl) (fun h => absurd rfl h) ?_
  refine WD_takeG (i := 5) (c := true) rfl rfl rfl rfl vv rfl rfl (by kernel_rfl) (by assumption) (fun _ w' hS => by first | exact Y_move vv | exact Y_assign vv | exact Y_nilCheck vv | exact Y_field vv | exact Y_load vv (by first | assumption | exact hS | exact hS.1 | exact hS.2 | exact hS.2.1 | exact hS.2.2) (by rfl) | exact Y_extract vv (by rfl) | exact Y_len vv | exact Y_lss vv vv | exact Y_leq vv vv | exact Y_gtr vv vv | exact Y_geq vv vv | exact Y_eql vv vv | exact Y_neq vv vv | exact Y_pick vv vv vv | exact Y_not vv) (fun h => absurd rfl h) ?_
  refine WD_one (c := 6) (by kernel_rfl) rfl ?_
  refine WL_wanted rfl vv ?_
  refine WL_fun rfl ((laws_fine w10 _ _ _ cs2 ss.length (hb2.faults.reads.grow (g9.trans g10)) ⟨_, _, _, rfl⟩ aol capl rfl (by omega)).mono ?_)
  rintro e w11 ⟨rfl, g11⟩
  have g11 : Grows w10 w11 := g11
  have hS11 := And.intro (g11.kept hS10.1) (g11.kept hS10.2)
  refine ⟨_, rfl, WL_nil ⟨hS11, ?_⟩⟩
  rw [fine_true hz2 hcs2]
  refine WT 7 ?_
  refine WT 8 ?_
  refine WD_takeG (i := 9) (c := true) rfl rfl rfl rfl vv rfl rfl (by kernel_rfl) (by assumption) (fun _ w' hS => by first | exact Y_move vv | exact Y_assign vv | exact Y_nilCheck vv | exact Y_field vv | exact Y_load vv (by first | assumption | exact hS | exact hS.1 | exact hS.2 | exact hS.2.1 | exact hS.2.2) (by rfl) | exact Y_extract vv (by rfl) | exact Y_len vv | exact Y_lss vv vv | exact Y_leq vv vv | exact Y_gtr vv vv | exact Y_geq vv vv | exact Y_eql vv vv | exact Y_neq vv vv | exact Y_pick vv vv vv | exact Y_not vv) (fun h => absurd rfl h) ?_
  refine WD_takeG (i := 10) (c := true) rfl rfl rfl rfl vv rfl rfl (by kernel_rfl) (by assumption) (fun _ w' hS => by first | exact Y_move vv | exact Y_assign vv | exact Y_nilCheck vv | exact Y_field vv | exact Y_load vv (by first | assumption | exact hS | exact hS.1 | exact hS.2 | exact hS.2.1 | exact hS.2.2) (by rfl) | exact Y_extract vv (by rfl) | exact Y_len vv | exact Y_lss vv vv | exact Y_leq vv vv | exact Y_gtr vv vv | exact Y_geq vv vv | exact Y_eql vv vv | exact Y_neq vv vv | exact Y_pick vv vv vv | exact Y_not vv) (fun h => absurd rfl h) ?_
  refine WD_takeG (i := 11) (c := true) rfl rfl rfl rfl vv rfl rfl (by kernel_rfl) (by assumption) (fun _ w' hS => by first | exact Y_move vv | exact Y_assign vv | exact Y_nilCheck vv | exact Y_field vv | exact Y_load vv (by first | assumption | exact hS | exact hS.1 | exact hS.2 | exact hS.2.1 | exact hS.2.2) (by rfl) | exact Y_extract vv (by rfl) | exact Y_len vv | exact Y_lss vv vv | exact Y_leq vv vv | exact Y_gtr vv vv | exact Y_geq vv vv | exact Y_eql vv vv | exact Y_neq vv vv | exact Y_pick vv vv vv | exact Y_not vv) (fun h => absurd rfl h) ?_
  refine WD_takeG (i := 12) (c := true) rfl rfl rfl rfl vv rfl rfl (by kernel_rfl) (by assumption) (fun _ w' hS => by first | exact Y_move vv | exact Y_assign vv | exact Y_nilCheck vv | exact Y_field vv | exact Y_load vv (by first | assumption | exact hS | exact hS.1 | exact hS.2 | exact hS.2.1 | exact hS.2.2) (by rfl) | exact Y_extract vv (by rfl) | exact Y_len vv | exact Y_lss vv vv | exact Y_leq vv vv | exact Y_gtr vv vv | exact Y_geq vv vv | exact Y_eql vv vv | exact Y_neq vv vv | exact Y_pick vv vv vv | exact Y_not vv) (fun h => absurd rfl h) ?_
  have h12d : decide ((12 : Int) ≤ ((([] : Bytes) ++ (MSt.steps K .first (stepsOf ss)).2.final h).length : Int)) = true := by
    simp only [List.nil_append, decide_eq_true_eq]
    omega
  rw [h12d]
  refine WT 13 ?_
  refine WT 14 ?_
  refine WD_takeG (i := 15) (c := true) rfl rfl rfl rfl vv rfl rfl (by kernel_rfl) (by assumption) (fun _ w' hS => by first | exact Y_move vv | exact Y_assign vv | exact Y_nilCheck vv | exact Y_field vv | exact Y_load vv (by first | assumption | exact hS | exact hS.1 | exact hS.2 | exact hS.2.1 | exact hS.2.2) (by rfl) | exact Y_extract vv (by rfl) | exact Y_len vv | exact Y_lss vv vv | exact Y_leq vv vv | exact Y_gtr vv vv | exact Y_geq vv vv | exact Y_eql vv vv | exact Y_neq vv vv | exact Y_pick vv vv vv | exact Y_not vv) (fun h => absurd rfl h) ?_
  refine WD_takeG (i := 16) (c := true) rfl rfl rfl rfl vv rfl rfl (by kernel_rfl) (by assumption) (fun _ w' hS => by first | exact Y_move vv | exact Y_assign vv | exact Y_nilCheck vv | exact Y_field vv | exact Y_load vv (by first | assumption | exact hS | exact hS.1 | exact hS.2 | exact hS.2.1 | exact hS.2.2) (by rfl) | exact Y_extract vv (by rfl) | exact Y_len vv | exact Y_lss vv vv | exact Y_leq vv vv | exact Y_gtr vv vv | exact Y_geq vv vv | exact Y_eql vv vv | exact Y_neq vv vv | exact Y_pick vv vv vv | exact Y_not vv) (fun h => absurd rfl h) ?_
  refine WD_takeG (i := 17) (c := true) rfl rfl rfl rfl vv rfl rfl (by kernel_rfl) (by assumption) (fun _ w' hS => by first | exact Y_move vv | exact Y_assign vv | exact Y_nilCheck vv | exact Y_field vv | exact Y_load vv (by first | assumption | exact hS | exact hS.1 | exact hS.2 | exact hS.2.1 | exact hS.2.2) (by rfl) | exact Y_extract vv (by rfl) | exact Y_len vv | exact Y_lss vv vv | exact Y_leq vv vv | exact Y_gtr vv vv | exact Y_geq vv vv | exact Y_eql vv vv | exact Y_neq vv vv | exact Y_pick vv vv vv | exact Y_not vv) (fun h => absurd rfl h) ?_
  refine WD_takeG (i := 18) (c := true) rfl rfl rfl rfl vv rfl rfl (by kernel_rfl) (by assumption) (fun _ w' hS => by first | exact Y_move vv | exact Y_assign vv | exact Y_nilCheck vv | exact Y_field vv | exact Y_load vv (by first | assumption | exact hS | exact hS.1 | exact hS.2 | exact hS.2.1 | exact hS.2.2) (by rfl) | exact Y_extract vv (by rfl) | exact Y_len vv | exact Y_lss vv vv | exact Y_leq vv vv | exact Y_gtr vv vv | exact Y_geq vv vv | exact Y_eql vv vv | exact Y_neq vv vv | exact Y_pick vv vv vv | exact Y_not vv) (fun h => absurd rfl h) ?_
  refine WD_takeG (i := 19) (c := true) rfl rfl rfl rfl vv rfl rfl (by kernel_rfl) (by assumption) (fun _ w' hS => by first | exact Y_move vv | exact Y_assign vv | exact Y_nilCheck vv | exact Y_field vv | exact Y_load vv (by first | assumption | exact hS | exact hS.1 | exact hS.2 | exact hS.2.1 | exact hS.2.2) (by rfl) | exact Y_extract vv (by rfl) | exact Y_len vv | exact Y_lss vv vv | exact Y_leq vv vv | exact Y_gtr vv vv | exact Y_geq vv vv | exact Y_eql vv vv | exact Y_neq vv vv | exact Y_pick vv vv vv | exact Y_not vv) (fun h => absurd rfl h) ?_
  refine WD_one (c := 20) (by kernel_rfl) rfl ?_
  refine WL_wanted rfl vv ?_
  have G11 := g9.trans (g10.trans g11)
  refine WL_parts [(bufv, buf), (.slice ad2 ([] ++ (MSt.steps K .first (stepsOf ss)).2.final h).length cd2, [] ++ (MSt.steps K .first (stepsOf ss)).2.final h)] (EvL.eq ⟨rfl, vv, rfl, vv, trivial⟩) (by simp) rfl rfl (by
    intro p hp
    simp only [List.mem_cons, List.not_mem_nil, or_false] at hp
    rcases hp with rfl | rfl
    · exact hbuf.grow (hG8.trans G11)
    · exact hb2.data.reads.grow G11) ?_
  intro b65 w12 hb65 hps g12
  have hS12 := And.intro (g12.kept hS11.1) (g12.kept hS11.2)
  refine WL_nil ⟨hS12, ?_⟩
  have hflat : (([(bufv, buf), (Value.slice ad2 ([] ++ (MSt.steps K .first (stepsOf ss)).2.final h).length cd2, [] ++ (MSt.steps K .first (stepsOf ss)).2.final h)] : List (Value × Bytes)).map (·.2)).flatten = buf ++ (MSt.steps K .first (stepsOf ss)).2.final h := by simp
  have hj := spec_Joined w12 _ _ hps (by simp) (by rw [hflat, List.length_append]; omega) (by
    intro p hp
    simp only [List.mem_cons, List.not_mem_nil, or_false] at hp
    rcases hp with rfl | rfl
    · simp only; omega
    · simp only [List.nil_append]; omega)
  rw [hflat] at hj
  refine WD_one (c := 21) (by kernel_rfl) rfl ?_
  refine WL_wanted rfl vv ?_
  refine WL_fun rfl ((hj).mono ?_)
  rintro e w13 ⟨v13, rfl, a13, g13⟩
  refine ⟨_, rfl, ?_⟩
  have hS13 := And.intro (g13.kept hS12.1) (g13.kept hS12.2)
  refine WL_nil ⟨hS13, ?_⟩
  refine WD_one (c := 22) (by kernel_rfl) rfl ?_
  refine WL_wanted rfl vv ?_
  have G13 := G11.trans (g12.trans g13)
  refine WL_fun rfl ((laws_same w13 _ v13 _ _ (hb1.data.reads.grow G13) a13.reads).mono ?_)
  rintro e w14 ⟨rfl, rfl⟩
  refine ⟨_, rfl, WL_nil ⟨hS13, ?_⟩⟩
  rw [beq_self_eq_true]
  refine WT 23 ?_
  refine WD_one (c := 24) (by kernel_rfl) rfl ?_
  refine WL_assign vv (WL_nil ⟨hS13, ?_⟩)
  refine WD_done (by kernel_rfl) ?_
  refine GO ?_
  exact ret1 (v := .bool true) Tryd.results22 rfl ⟨rfl, hG8.trans G13⟩
end Go.Proofs.YtgkhfpkfjajdjaaDoor
