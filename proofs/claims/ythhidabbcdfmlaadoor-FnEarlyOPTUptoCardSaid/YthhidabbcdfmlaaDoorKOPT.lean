/- OPT records: the body and its conversion. -/
import Derived.Test.YthhidabbcdfmlaaDoorROPT
import Derived.Test.YthhidabbcdfmlaaDoorPrs
import Derived.Test.YthhidabbcdfmlaaDoorG8
import Derived.Test.YthhidabbcdfmlaaDoorBodyOPT
set_option linter.unusedVariables false
set_option linter.unusedSimpArgs false
namespace Go.Proofs.YthhidabbcdfmlaaDoor
open Go.RowKit
set_option maxHeartbeats 4000000
set_option maxRecDepth 100000

theorem real_OPT (dv : Value) (w : World) (g : Nat) : Calls Tryd.prog 48 #[.pointer (some ⟨g, 0, none⟩)] w fun e w' => e = .returned (.int .u16 ((41 : Nat) : Int)) ∧ w = w' := by
  refine calls_of_WC Tryd.func48 rfl Tryd.ntmps48 rfl ?_
  refine GO ?_
  exact ret1 (v := .int .u16 41) Tryd.results48 rfl ⟨rfl, rfl⟩
theorem pack_OPT (pv : Value) (l : List (PairM × Value)) (hd : ∀ x ∈ l, x.1.key < 65536 ∧ x.1.data.length ≤ 140737488355328) (hn : l.length ≤ 16777216) : BodyP2 50 70 [pv] (fun _ c => .ok (pairsB (l.map (·.1))) c) (pairsB (l.map (·.1))).length (PairsIn 150 pv l) := by
  intro w g mv cv msg st c hg hst hown hcomp hck hlen hE hI
  obtain ⟨ao, cap, rfl⟩ := ReadsAt.value (ReadsAt.of_own hI.1)
  have hll : (l.map (·.1)).length = l.length := by simp
  refine calls_of_WC Tryd.func50 rfl Tryd.ntmps50 rfl ?_
  refine GO ?_
  refine WC_loop (fun m f w' => ∃ i mvi, m = l.length - i ∧ i ≤ l.length ∧ EnvHas f [(1, mvi), (16, .slice ao l.length cap), (17, .int .i64 (l.length : Int)), (18, .int .i64 (i : Int))] ∧ Pk w mv cv msg w' mvi (msg ++ pairsB ((l.map (·.1)).take i)) c) l.length ?_ ?_
  · refine ⟨0, mv, rfl, Nat.zero_le _, ⟨rfl, rfl, rfl, rfl, trivial⟩, ?_⟩
    rw [List.take_zero, show pairsB [] = [] from rfl, List.append_nil]
    exact Pk.refl hown hcomp
  rintro m f w3 ⟨i, mvi, rfl, hi, he, P⟩
  obtain ⟨f, rfl⟩ := he.form
  refine GO ?_
  first | refine WC_sif vv (fun hc => ?_) (fun hc => ?_) | refine WC_if vv (fun hc => ?_) (fun hc => ?_)
  · have hlt : i < l.length := by simpa using hc
    have hlt' : i < (l.map (·.1)).length := by rw [hll]; exact hlt
    have htk := pairsB_take hlt'
    rw [show (l.map (·.1))[i] = l[i].1 by simp] at htk
    have hmono : (pairsB ((l.map (·.1)).take (i + 1))).length ≤ (pairsB (l.map (·.1))).length := fm_le pairB _ _
    rw [htk, List.length_append, pairB_len] at hmono
    obtain ⟨hkey, hdl⟩ := hd l[i] (by simp)
    obtain ⟨hR, hD⟩ := hI.pk (by decide) P hcomp
    have hL : ListAt w3 pairCells 2 (.slice ao l.length cap) l := ⟨fun _ _ => rfl, ReadsAt.of_own hR⟩
    obtain ⟨b2, o2, cap2, hv2, hcell⟩ := hL.part (by decide) hlt
    cases hv2
    have hdat := hD l[i] (by simp)
    obtain ⟨aod, capd, hdv⟩ := ReadsAt.value hdat
    refine GO ?_
    refine WL_index vv vv hlt ?_
    refine WL_loadAgg (l := pairCells l[i]) vv rfl hcell ?_
    refine WL_alloc ?_
    intro b5 w5 hb5 h5 g5
    refine WL_storeRow (new := (pairCells l[i]).toArray) vv vv h5 rfl rfl (by simp [pairCells, hdv, Value.oneCell']) ?_
    intro w6 hw6 h6
    have G6 : Grows w3 w6 := g5.wrote hw6 (by omega)
    have h6 : w6.heap[b5]? = some (.cells #[.int .u16 (l[i].1.key : Int), .slice aod l[i].1.data.length capd] 150 (0, 0)) := by rw [h6, pairCells, hdv]
    have P6 := P.grow G6
    have hdat6 := BytesAt.grow hdat G6
    rw [hdv] at hdat6
    clear h5 g5 hw6
    have hne : mvi.ownBlock ≠ some b5 := Own.ne P6.own h6 (by decide)
    refine GO ?_
    refine WL_fun rfl ((dns_packUint16 w6 mvi _ (l[i].1.key : Int) (by omega) (by omega) P6.own (by rw [List.length_append]; omega)).mono ?_)
    rintro e w7 ⟨mv7, rfl, g7⟩
    refine ⟨_, rfl, ?_⟩
    have P7 := P6.grew g7 (List.prefix_append _ _)
    have h7 := Grew.kept g7 h6 hne
    refine GO ?_
    refine WL_conv (c := low l[i].1.data.length) vv (by rw [wrap16]; simp only [low]; omega) ?_
    refine GO ?_
    refine WL_fun rfl ((dns_packUint16 w7 mv7 _ (low l[i].1.data.length) (low_rng _).1 (low_rng _).2 P7.own (by simp only [List.length_append, two_length]; omega)).mono ?_)
    rintro e w8 ⟨mv8, rfl, g8⟩
    refine ⟨_, rfl, ?_⟩
    have P8 := P7.grew g8 (by rw [List.append_assoc]; exact List.prefix_append _ _)
    have h8 := Grew.kept g8 h7 (Own.ne P7.own h7 (by decide))
    have hdat8 : BytesAt w8 (.slice aod l[i].1.data.length capd) l[i].1.data := by
      have := (hI.pk (by decide) P8 hcomp).2 l[i] (by simp)
      rw [hdv] at this
      exact this
    refine GO ?_
    refine WL_fun rfl ((dns_packBytes w8 mv8 _ _ l[i].1.data P8.own hdat8 (by simp only [List.length_append, two_length]; omega) hdl).mono ?_)
    rintro e w9 ⟨mv9, rfl, g9⟩
    refine ⟨_, rfl, ?_⟩
    have P9 := P8.grew g9 (by rw [List.append_assoc, List.append_assoc]; exact List.prefix_append _ _)
    refine GO ?_
    refine WL_inc vv (by omega) ?_
    refine GO ?_
    refine ⟨l.length - (i + 1), by omega, i + 1, mv9, rfl, hlt, ⟨rfl, rfl, rfl, rfl, trivial⟩, ?_⟩
    rw [htk]
    simpa [pairB, low, List.append_assoc] using P9
  have hge : i = l.length := by have := of_decide_eq_false hc; omega
  subst hge
  rw [List.take_of_length_le (by rw [hll]; exact Nat.le_refl _)] at P
  refine GO ?_
  refine ret2 (v1 := mvi) (v2 := .nilIface) Tryd.results50 rfl rfl ?_
  exact ⟨_, rfl, P⟩
theorem impl_optionsOf (w : World) (v : Value) (l : List (PairM × Value)) (hL : ListAt w pairCells 2 v l) (hD : ∀ x ∈ l, BytesAt w x.2 x.1.data) (hn : l.length ≤ 16777216) (hd : ∀ x ∈ l, x.1.data.length ≤ 140737488355328) :
    Calls Tryd.prog 53 #[v] w fun e w' => ∃ v' l', e = .returned v' ∧ OwnPairs w.heap.size w' 150 v' l' ∧ l'.map (·.1) = l.map (·.1) ∧ Grows w w' := by
  obtain ⟨ao, cap, rfl⟩ := hL.value
  refine calls_of_WC Tryd.func53 rfl Tryd.ntmps53 rfl ?_
  refine GO ?_
  refine WL_slice0 ?_
  intro b1 w1 hb1 h1 g1
  refine GO ?_
  refine WC_loop (fun m f w' => ∃ (i : Nat) (v3 : Value) (l' : List (PairM × Value)), m = l.length - i ∧ i ≤ l.length ∧ EnvHas f [(3, v3), (7, .slice ao l.length cap), (8, .int .i64 (l.length : Int)), (9, .int .i64 (i : Int))] ∧ OwnPairs w.heap.size w' 150 v3 l' ∧ l'.map (·.1) = (l.map (·.1)).take i ∧ Grows w w') l.length ?_ ?_
  · exact ⟨0, _, [], rfl, Nat.zero_le _, ⟨rfl, rfl, rfl, rfl, trivial⟩, ⟨LAcc.nil (.inr trivial) h1 hb1, by simp⟩, by simp, g1⟩
  rintro m f w2 ⟨i, v3, l', rfl, hi, he, hA, hl', hg⟩
  obtain ⟨f, rfl⟩ := he.form
  have hll : l'.length = min i l.length := by
    have := congrArg List.length hl'
    simpa using this
  refine GO ?_
  first | refine WC_sif vv (fun hc => ?_) (fun hc => ?_) | refine WC_if vv (fun hc => ?_) (fun hc => ?_)
  · have hlt : i < l.length := by simpa using hc
    have hdat := BytesAt.grow (hD l[i] (by simp)) hg
    obtain ⟨aod, capd, hdv⟩ := ReadsAt.value hdat
    rw [hdv] at hdat
    have hdl := hd l[i] (by simp)
    obtain ⟨b2, o2, cap2, hv2, hcell⟩ := (hL.grow hg).part (by decide) hlt
    cases hv2
    refine GO ?_
    refine WL_index vv vv hlt ?_
    refine WL_loadAgg (l := pairCells l[i]) vv rfl hcell ?_
    refine WL_alloc ?_
    intro b5 w5 hb5 h5 g5
    refine WL_storeRow (new := (pairCells l[i]).toArray) vv vv h5 rfl rfl (by simp [pairCells, hdv, Value.oneCell']) ?_
    intro w6 hw6 h6
    have G6 : Grows w2 w6 := g5.wrote hw6 (by omega)
    have h6 : w6.heap[b5]? = some (.cells #[.int .u16 (l[i].1.key : Int), .slice aod l[i].1.data.length capd] 154 (0, 0)) := by rw [h6, pairCells, hdv]
    refine GO ?_
    refine WC_draws (fun w' => w'.heap[b5]? = some (.cells #[.int .u16 (l[i].1.key : Int), .slice aod l[i].1.data.length capd] 154 (0, 0))) (by kernel_rfl) (fun w1 g => g.kept h6) ?_
    intro w7 g7 hS
    refine WT 0 ?_
    refine WT 1 ?_
    refine WT 2 ?_
    refine WT 4 ?_
    refine WT 5 ?_
    refine WD_one (c := 3) (by kernel_rfl) rfl ?_
    refine WL_slice0 ?_
    intro b16 w8 hb16 h16 g8
    have hS8 := g8.kept hS
    refine WL_nil ⟨hS8, ?_⟩
    refine WD_one (c := 6) (by kernel_rfl) rfl ?_
    have hA8 : AccB w7.heap.size w8 (.slice (some ⟨b16, 0, none⟩) 0 0) [] := Acc.block h16 hb16 (by decide) (by simp)
    refine WL_appendB (bs := []) vv hA8.own vv (BytesAt.grow hdat ((G6.trans g7).trans g8)) (by simp; omega) (by omega) ?_
    intro dv w9 hgr
    have hA9 : AccB w7.heap.size w9 dv l[i].1.data := by have := AccB.grew hA8 hgr g8.size; simpa using this
    have g9 : Grows w7 w9 := Acc.below hA8 hgr g8.size g8
    have hS9 := g9.kept hS
    obtain ⟨aoe, cape, rfl⟩ := ReadsAt.value hA9.reads
    refine WL_nil ⟨hS9, ?_⟩
    refine WD_one (c := 7) (by kernel_rfl) rfl ?_
    refine WL_build (vs := [(0, .int .u16 (l[i].1.key : Int)), (1, .slice aoe l[i].1.data.length cape)]) (l := [.int .u16 (l[i].1.key : Int), .slice aoe l[i].1.data.length cape]) (EvL.eq ⟨rfl, vv, rfl, vv, trivial⟩) ⟨⟨_, rfl⟩, ⟨_, rfl⟩, trivial⟩ (by kernel_rfl) ?_
    refine WL_nil ⟨hS9, ?_⟩
    refine WD_one (c := 8) (by kernel_rfl) rfl ?_
    refine WL_slice (vs := [.agg #[.int .u16 (l[i].1.key : Int), .slice aoe l[i].1.data.length cape]]) (EvL.eq ⟨rfl, vv, trivial⟩) (by simp) rfl (by simp [Value.cells]) rfl ?_
    intro b21 wa hb21 h21 ga
    have hSa := ga.kept hS9
    refine WL_nil ⟨hSa, ?_⟩
    have Ga : Grows w2 wa := (G6.trans g7).trans (g9.trans ga)
    have hwa : Grows w wa := hg.trans Ga
    have hrd := reads_new (k := 2) (cs := #[.int .u16 (l[i].1.key : Int), .slice aoe l[i].1.data.length cape]) h21 rfl
    have hAa := hA.grow Ga
    have hz : w.heap.size ≤ w7.heap.size := (hg.trans (G6.trans g7)).size
    have hAd : AccB w.heap.size wa (.slice aoe l[i].1.data.length cape) l[i].1.data := Acc.mono (hA9.grow ga) hz
    refine WD_one (c := 9) (by kernel_rfl) rfl ?_
    refine WL_append (t := 68) vv hAa.acc.acc.own vv hrd (by intro u hu; simp only [List.mem_cons, List.not_mem_nil, or_false] at hu; rcases hu with rfl | rfl <;> rfl) ⟨by omega, by omega, by omega⟩ ?_
    intro v9 wb hgr9
    have hk9 : ∀ j o, wa.heap[j]? = some o → v3.ownBlock ≠ some j → wb.heap[j]? = some o := fun j o hj hne => Grew.kept hgr9 hj hne
    have gb : Grows w wb := Acc.below hAa.acc.acc hgr9 hwa.size hwa
    have hSb := hk9 _ _ hSa (own_ne hAa.acc.acc.own hSa (by decide))
    have hAb : OwnPairs w.heap.size wb 150 v9 (l' ++ [(l[i].1, .slice aoe l[i].1.data.length cape)]) := by
      refine ⟨⟨?_, fun _ _ => rfl⟩, ?_⟩
      · have := hAa.acc.acc.grew hgr9 hwa.size
        simpa [pairCells] using this
      · intro y hy
        rcases List.mem_append.1 hy with hy | hy
        · exact Acc.kept_t (hAa.data y hy) hAa.acc.acc.own (by decide) hk9
        · rw [List.mem_singleton.1 hy]
          exact Acc.kept_t hAd hAa.acc.acc.own (by decide) hk9
    refine WL_nil ⟨hSb, ?_⟩
    refine WD_one (c := 10) (by kernel_rfl) rfl ?_
    refine WL_assign vv (WL_nil ⟨hSb, ?_⟩)
    refine WD_done (by kernel_rfl) ?_
    refine GO ?_
    refine WL_inc vv (by omega) ?_
    refine GO ?_
    refine ⟨l.length - (i + 1), by omega, i + 1, v9, _, rfl, hlt, ⟨rfl, rfl, rfl, rfl, trivial⟩, hAb, ?_, gb⟩
    rw [List.map_append, hl', List.take_succ_eq_append_getElem (by rw [List.length_map]; exact hlt)]
    simp
  have hge : i = l.length := by have := of_decide_eq_false hc; omega
  subst hge
  refine GO ?_
  refine ret1 (v := v3) Tryd.results53 rfl ⟨v3, l', rfl, hA, ?_, hg⟩
  rw [hl', List.take_of_length_le (by simp)]
theorem impl_optOf (w : World) (x : RecM × RecV) (hx : RecAt w x) : Calls Tryd.prog 23 #[.agg (recCells x).toArray] w fun e w' => ∃ pv l, e = .returned (.agg [pv].toArray) ∧ OwnPairs w.heap.size w' 150 pv l ∧ l.map (·.1) = x.1.pairs ∧ Grows w w' := by
  have hpn := hx.ok.pairs
  simp only [lim] at hpn
  obtain ⟨l0, hl0, hL, hD⟩ := hx.pairs.at_
  have hln : l0.length = x.1.pairs.length := by
    have := congrArg List.length hl0
    simpa using this
  have hd0 : ∀ y ∈ l0, y.1.data.length ≤ 140737488355328 := fun y hy => by
    have := (hpn.2 y.1 (by rw [← hl0]; exact List.mem_map.2 ⟨y, hy, rfl⟩)).2
    omega
  refine calls_of_WC Tryd.func23 rfl Tryd.ntmps23 rfl ?_
  refine GO ?_
  refine WL_box vv ?_
  intro b1 w1 hb1 h1 g1
  have h1 : w1.heap[b1]? = some (.cells (recCells x).toArray 35 (0, 0)) := h1
  refine WL_alloc ?_
  intro b2 w2 hb2 h2 g2
  have G2 := g1.trans g2
  have h12 := g2.kept h1
  refine GO ?_
  refine WL_fun rfl ((impl_optionsOf w2 x.2.pv l0 (hL.grow G2) (fun y hy => (hD y hy).grow G2) (by omega) hd0).mono ?_)
  rintro e w3 ⟨pv, l, rfl, hA, hl, g3⟩
  refine ⟨_, rfl, ?_⟩
  obtain ⟨aod, capd, rfl⟩ := hA.acc.reads.value
  refine GO ?_
  refine WL_build (vs := [(0, .slice aod l.length capd)]) (l := [.slice aod l.length capd]) (EvL.eq ⟨rfl, vv, trivial⟩) ⟨⟨_, rfl⟩, trivial⟩ (by kernel_rfl) ?_
  have h23 := g3.kept h2
  refine WL_storeRow (new := [.slice aod l.length capd].toArray) vv vv h23 rfl rfl (by simp [Value.oneCell']) ?_
  intro w4 hw4 h4
  refine GO ?_
  exact retc Tryd.results23 rfl h4 Tryd.underlying70 rfl (by kernel_rfl) ⟨_, l, rfl, (hA.mono G2.size).wrote h23 (by decide) (by decide) hw4, by rw [hl, hl0], (G2.trans g3).wrote hw4 (by have := g1.size; omega)⟩
end Go.Proofs.YthhidabbcdfmlaaDoor

/- OPT records: the function that adds one, and the one that builds. -/
namespace Go.Proofs.YthhidabbcdfmlaaDoor
open Go.RowKit
set_option maxHeartbeats 2000000
set_option maxRecDepth 100000

theorem add_OPT : AddC 21 kOPT (fun r => (pairsB r.pairs).length) := by
  intro w b mv cv pre id bits m x hB hR hlen hE
  have hnm : (x.1.name.take 255).length ≤ 255 := by simp; omega
  have hok := hR.ok
  have hlen' : (pre ++ m.out).length + 2000 + (pairsB x.1.pairs).length ≤ 200000000000000 := hlen
  refine calls_of_WC Tryd.func21 rfl Tryd.ntmps21 rfl ?_
  refine GO ?_
  refine WL_box vv ?_
  intro b4 w1 hb4 h4 g1
  refine WL_box vv ?_
  intro b5 w2 hb5 h5 g2
  have h42 := g2.kept h4
  have G2 := g1.trans g2
  refine GO ?_
  refine WC_seq (WC_draws (fun w' => w'.heap[b4]? = some (.cells (rhCells (x.1.name.take 255) x.1.type x.1.cls x.1.ttl x.1.len).toArray 64 (0, 0)) ∧ w'.heap[b5]? = some (.cells (recCells x).toArray 35 (0, 0))) (by kernel_rfl) (fun w1 g => ⟨g.kept h42, g.kept h5⟩) ?_)
  intro w3 g3 hS3
  have G3 := G2.trans g3
  refine WT 0 ?_
  refine WD_take (i := 1) rfl rfl rfl rfl (by kernel_rfl) (by assumption) (fun w' hS => by exact Y_loadRow vv hS.1 (by simp [rhCells, nameList_length _ hnm])) ?_
  refine WD_take (i := 2) rfl rfl rfl rfl (by kernel_rfl) (by assumption) (fun w' hS => by exact Y_loadRow vv hS.2 rfl) ?_
  refine WD_one (c := 3) (by kernel_rfl) rfl ?_
  refine WL_fun rfl ((impl_optOf w3 x (hR.grow G3)).mono ?_)
  rintro e w4 ⟨pv, l, rfl, hpv, hlp, g4⟩
  obtain ⟨aod, capd, hdvv⟩ := hpv.acc.reads.value
  have hS4 := And.intro (g4.kept hS3.1) (g4.kept hS3.2)
  have G4 := G3.trans g4
  have B3 := hB.grow G3
  have B4 := hB.grow G4
  have htx := hok.pairs
  simp only [lim] at htx
  have hll : l.length = x.1.pairs.length := by
    have := congrArg List.length hlp
    simpa using this
  have hdl : ∀ y ∈ l, y.1.key < 65536 ∧ y.1.data.length ≤ 140737488355328 := fun y hy => by
    have := htx.2 y.1 (by rw [← hlp]; exact List.mem_map.2 ⟨y, hy, rfl⟩)
    exact ⟨this.1, by omega⟩
  have hpk := pack_OPT pv l hdl (by omega)
  rw [hlp] at hpk
  have hlt3 := foot2_lt B3.own B3.comp
  refine ⟨_, rfl, WL_nil ⟨hS4, ?_⟩⟩
  refine WD_one (c := 4) (by kernel_rfl) rfl ?_
  refine WL_fun rfl ((dns_OPTResource kOPT w4 b mv cv pre id bits m B4 x.1 x.1.type (by show 41 < 65536; decide) hok.cls hok.ttl hok.len [pv] (by intro u hu; rw [List.mem_singleton.1 hu, hdvv]; rfl) (pairsB x.1.pairs).length (PairsIn 150 pv l) (fun w g _ => real_OPT pv w g) hpk (fun pos c o c' e => by cases e; exact Nat.le_refl _) (fun _ _ h => h) (fun w' mv' hc ha => hpv.pairsIn hc hlt3 (fun k hk => hlt3 k (.inl hk)) ha) hlen' (hE.grow G4)).mono ?_)
  rintro e w5 ⟨v, rfl, hv, hto⟩
  obtain ⟨mv5, cv5, hB5, hC5, hF5⟩ := hto
  have hS5 := And.intro (hC5.kept hS4.1 (B4.at_.far hS4.1 (by decide) (by decide))) (hC5.kept hS4.2 (B4.at_.far hS4.2 (by decide) (by decide)))
  refine ⟨_, rfl, WL_nil ⟨hS5, ?_⟩⟩
  refine WD_one (c := 5) (by kernel_rfl) rfl ?_
  refine WL_assign vv (WL_nil ⟨hS5, ?_⟩)
  refine WD_done (by kernel_rfl) ?_
  refine GO ?_
  exact ret1 (v := v) Tryd.results21 rfl ⟨_, rfl, hv, BTo.of_grow G4 ⟨mv5, cv5, hB5, hC5, hF5⟩⟩
theorem build_OPT : BuildC 10 kOPT (fun r => (pairsB r.pairs).length) true := by
  intro w bufv buf h sv ss hbuf hbl hid hop hcode hss hrec hlen hE hK
  refine calls_of_WC Tryd.func10 rfl Tryd.ntmps10 rfl ?_
  refine GO ?_
  refine WL_box vv ?_
  intro b4 w1 hb4 h4 g1
  refine WL_alloc ?_
  intro b6 w2 hb6 h6 g2
  have G2 := g1.trans g2
  refine GO ?_
  refine WL_loadRow vv (g2.kept h4) rfl ?_
  refine GO ?_
  refine WL_fun rfl ((impl_run kOPT (fun r => (pairsB r.pairs).length) 21 (CanCall.c (P := Tryd.prog)) w2 bufv buf h sv ss (hbuf.grow G2) hbl hid hop hcode (hss.grow G2) (.inr add_OPT) hlen (hE.grow G2) (hK.grow G2)).mono ?_)
  rintro e w3 ⟨v, fv, dv, cs, rfl, hb⟩
  refine ⟨_, rfl, ?_⟩
  have hv := hb.val
  subst hv
  have h63 := hb.grows.kept h6
  have hz : w.heap.size ≤ b6 := by have := g1.size; omega
  refine WL_storeRow (new := #[fv, dv, .int .i64 0]) vv vv h63 rfl rfl hb.one ?_
  intro w4 hw4 h4'
  refine GO ?_
  exact retc Tryd.results10 rfl h4' Tryd.underlying52 rfl (by kernel_rfl) ⟨_, fv, dv, cs, rfl, (hb.mono G2).wrote hw4 h63 (by decide) (by decide) hz⟩
end Go.Proofs.YthhidabbcdfmlaaDoor

/- OPT records: what the reference says of them, and what the laws ask of the function that builds them. Written by gen_kind.py. -/
namespace Go.Proofs.YthhidabbcdfmlaaDoor
open Go.RowKit
set_option maxHeartbeats 2000000
set_option maxRecDepth 100000

theorem kc_OPT : KC 10 kOPT (fun r => (pairsB r.pairs).length) 10 := ⟨build_OPT, CanCall.c (P := Tryd.prog), okOPT, body_OPT, bok_OPT, by decide, fun r h => by have h1 : (pairsB r.pairs).length < 65536 := (recOk_parts h).2.2.1; omega, by decide⟩
end Go.Proofs.YthhidabbcdfmlaaDoor
