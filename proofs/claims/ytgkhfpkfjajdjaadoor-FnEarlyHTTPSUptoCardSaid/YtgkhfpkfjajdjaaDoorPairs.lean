/- The reference's pairs and Ascending. -/
import Derived.Test.YtgkhfpkfjajdjaaDoorG3
set_option linter.unusedVariables false
set_option linter.unusedSimpArgs false
namespace Go.Proofs.YtgkhfpkfjajdjaaDoor
open Go.RowKit
set_option maxHeartbeats 2000000
set_option maxRecDepth 100000

theorem list_cell {α : Type} {w : World} {g : α → List Value} {k b o n cap : Nat} {l : List α} (h : ListAt w g k (.slice (some ⟨b, o, none⟩) n cap) l) (hk : 0 < k) {i : Nat} (hi : i < l.length) {j : Nat} {x : Value} (hx : (g l[i])[j]? = some x) : w.cell? ⟨b, o + i * k + j, none⟩ = some x := by
  obtain ⟨b', o', cap', hv, hc⟩ := h.part hk hi
  cases hv
  have := hc j x hx
  rw [add_addr] at this
  exact this
theorem low_rng (n : Nat) : 0 ≤ low n ∧ low n < 65536 := by unfold low; omega
theorem pairsB_take {ps : List PairM} {i : Nat} (hi : i < ps.length) : pairsB (ps.take (i + 1)) = pairsB (ps.take i) ++ pairB ps[i] := fm_take pairB ps i hi
theorem pairB_len (p : PairM) : (pairB p).length = p.data.length + 4 := by simp [pairB, two_length]; omega
theorem pairsB_le : ∀ (ps : List PairM) (B : Nat), (∀ p ∈ ps, p.data.length ≤ B) → (pairsB ps).length ≤ ps.length * (B + 4)
  | [], _, _ => by simp [pairsB]
  | p :: ps, B, h => by
    have ih := pairsB_le ps B (fun q hq => h q (by simp [hq]))
    have hp := h p (by simp)
    have e : (pairsB (p :: ps)).length = (p.data.length + 4) + (pairsB ps).length := by
      rw [← pairB_len, ← List.length_append]; rfl
    rw [e, List.length_cons, Nat.succ_mul]
    omega
theorem spec_pairs (w : World) (v : Value) (ps : List PairM) (h : PairsAt w v ps) (hl : (pairsB ps).length ≤ 140737488355328) (hn : ps.length ≤ 10000000000000) (hk : ∀ p ∈ ps, p.key < 65536) : Calls Tryd.prog 66 #[v] w (RetB w (pairsB ps)) := by
  obtain ⟨l, rfl, hL, hD⟩ := h.at_
  obtain ⟨ao, cap, rfl⟩ := hL.value
  have hll : (l.map (·.1)).length = l.length := by simp
  rw [hll] at hn
  refine calls_of_WC Tryd.func66 rfl Tryd.ntmps66 rfl ?_
  refine GO ?_
  refine WL_slice0 ?_
  intro b1 w1 hb1 h1 g1
  refine GO ?_
  refine WC_loop (fun m f w' => ∃ i v3, m = l.length - i ∧ i ≤ l.length ∧ EnvHas f [(3, v3), (7, .slice ao l.length cap), (8, .int .i64 (l.length : Int)), (9, .int .i64 (i : Int))] ∧ AccB w.heap.size w' v3 (pairsB ((l.map (·.1)).take i)) ∧ Grows w w') l.length ?_ ?_
  · exact ⟨0, _, rfl, Nat.zero_le _, ⟨rfl, rfl, rfl, rfl, trivial⟩, accB_cells h1 rfl rfl (by decide) hb1, g1⟩
  rintro m f w2 ⟨i, v3, rfl, hi, he, hA, hg⟩
  obtain ⟨f, rfl⟩ := he.form
  refine GO ?_
  first | refine WC_sif vv (fun hc => ?_) (fun hc => ?_) | refine WC_if vv (fun hc => ?_) (fun hc => ?_)
  · have hlt : i < l.length := by simpa using hc
    have hlt' : i < (l.map (·.1)).length := by rw [hll]; exact hlt
    have hpi : (l.map (·.1))[i] = l[i].1 := by simp
    have htk := pairsB_take hlt'
    rw [hpi] at htk
    have hmono : (pairsB ((l.map (·.1)).take (i + 1))).length ≤ 140737488355328 := Nat.le_trans (fm_le pairB _ _) hl
    rw [htk, List.length_append, pairB_len] at hmono
    have hkey := hk l[i].1 (List.mem_map.2 ⟨l[i], by simp, rfl⟩)
    have hdat := (hD l[i] (by simp)).grow hg
    obtain ⟨aod, capd, hdv⟩ := ReadsAt.value hdat
    rw [hdv] at hdat
    obtain ⟨b2, o2, cap2, hv2, hcell⟩ := (hL.grow hg).part (by decide) hlt
    cases hv2
    refine GO ?_
    refine WL_index vv vv hlt ?_
    refine WL_loadAgg (l := pairCells l[i]) vv rfl hcell ?_
    refine WL_alloc ?_
    intro b5 w5 hb5 h5 g5
    refine WL_storeRow (new := (pairCells l[i]).toArray) vv vv h5 rfl rfl (by simp [pairCells, hdv, Value.oneCell']) ?_
    intro w6 hw6 h6
    have G6 : Grows w2 w6 := g5.wrote hw6 (by omega)
    have h6 : w6.heap[b5]? = some (.cells #[.int .u16 (l[i].1.key : Int), .slice aod l[i].1.data.length capd] 102 (0, 0)) := by rw [h6, pairCells, hdv]
    refine GO ?_
    refine WC_draws (fun w' => w'.heap[b5]? = some (.cells #[.int .u16 (l[i].1.key : Int), .slice aod l[i].1.data.length capd] 102 (0, 0))) (by kernel_rfl) (fun w1 g => g.kept h6) ?_
    intro w7 g7 hS
    refine WT 0 ?_
    refine WT 1 ?_
    refine WT 2 ?_
    refine WT 4 ?_
    refine WT 5 ?_
    refine WT 6 ?_
    refine WD_take (i := 7) (v := .int .u16 (low l[i].1.data.length)) rfl rfl rfl rfl (by kernel_rfl) (by assumption) (fun w' hS => Y_conv (a := (l[i].1.data.length : Int)) (c := low l[i].1.data.length) vv (by rw [wrap16]; simp only [low]; omega)) ?_
    refine WT 9 ?_
    refine WT 10 ?_
    refine WD_one (c := 3) (by kernel_rfl) rfl ?_
    refine WL_fun rfl ((spec_Two w7 (l[i].1.key : Int) (by omega) (by omega)).mono ?_)
    rintro e w8 ⟨v8, rfl, a8, g8⟩
    refine ⟨_, rfl, ?_⟩
    have hS8 := g8.kept hS
    refine WL_nil ⟨hS8, ?_⟩
    refine WD_one (c := 8) (by kernel_rfl) rfl ?_
    refine WL_fun rfl ((spec_Two w8 (low l[i].1.data.length) (low_rng _).1 (low_rng _).2).mono ?_)
    rintro e w9 ⟨v9, rfl, a9, g9⟩
    refine ⟨_, rfl, ?_⟩
    have hS9 := g9.kept hS8
    refine WL_nil ⟨hS9, ?_⟩
    have G9 := G6.trans (g7.trans (g8.trans g9))
    refine WD_one (c := 11) (by kernel_rfl) rfl ?_
    refine WL_parts [(v3, pairsB ((l.map (·.1)).take i)), (v8, two (l[i].1.key : Int)), (v9, two (low l[i].1.data.length)), (.slice aod l[i].1.data.length capd, l[i].1.data)] rfl (by simp) rfl rfl (by
      intro p hp
      simp only [List.mem_cons, List.not_mem_nil, or_false] at hp
      rcases hp with rfl | rfl | rfl | rfl
      · exact (hA.grow G9).reads
      · exact (a8.grow g9).reads
      · exact a9.reads
      · exact hdat.grow G9) ?_
    intro b10 wa hb10 pa ga
    have hSa := ga.kept hS9
    refine WL_nil ⟨hSa, ?_⟩
    have hflat : (([(v3, pairsB ((l.map (·.1)).take i)), (v8, two (l[i].1.key : Int)), (v9, two (low l[i].1.data.length)), (.slice aod l[i].1.data.length capd, l[i].1.data)] : List (Value × Bytes)).map (·.2)).flatten = pairsB ((l.map (·.1)).take (i + 1)) := by
      rw [htk]
      simp [pairB, low]
    have hj := spec_Joined wa _ _ pa (by simp) (by rw [hflat, htk, List.length_append, pairB_len]; omega) (by
      intro p hp
      simp only [List.mem_cons, List.not_mem_nil, or_false] at hp
      rcases hp with rfl | rfl | rfl | rfl <;> simp only [two_length] <;> omega)
    rw [hflat] at hj
    refine WD_one (c := 12) (by kernel_rfl) rfl ?_
    refine WL_fun rfl ((hj).mono ?_)
    rintro e wb ⟨vb, rfl, ab, gb⟩
    refine ⟨_, rfl, ?_⟩
    have hSb := gb.kept hSa
    refine WL_nil ⟨hSb, ?_⟩
    refine WT 13 ?_
    refine WD_done (by kernel_rfl) ?_
    refine GO ?_
    refine WL_inc vv (by omega) ?_
    refine GO ?_
    have Ga := hg.trans (G9.trans ga)
    exact ⟨l.length - (i + 1), by omega, i + 1, vb, rfl, hlt, ⟨rfl, rfl, rfl, rfl, trivial⟩, Acc.mono ab Ga.size, Ga.trans gb⟩
  have hge : i = l.length := by have := of_decide_eq_false hc; omega
  subst hge
  rw [← hll, List.take_length] at hA
  refine GO ?_
  exact ret1 (v := v3) Tryd.results66 rfl ⟨v3, rfl, hA, hg⟩
theorem ascends_iff : ∀ (ps : List PairM), ascends ps = true ↔ ∀ (j : Nat) (h : j + 1 < ps.length), (ps[j]'(by omega)).key < ps[j + 1].key
  | [] => by simp [ascends]
  | [p] => by simp [ascends]
  | p :: q :: ps => by
    rw [ascends, Bool.and_eq_true, decide_eq_true_eq, ascends_iff (q :: ps)]
    constructor
    · rintro ⟨h0, h⟩ j hj
      cases j with
      | zero => exact h0
      | succ j => exact h j (by simpa using hj)
    · intro h
      exact ⟨h 0 (by simp), fun j hj => h (j + 1) (by simpa using hj)⟩
theorem spec_Ascending (w : World) (v : Value) (ps : List PairM) (h : PairsAt w v ps) (hn : ps.length ≤ 10000000000000) : Calls Tryd.prog 27 #[v] w (RetV w (.bool (ascends ps))) := by
  obtain ⟨l, rfl, hL, hD⟩ := h.at_
  obtain ⟨ao, cap, rfl⟩ := hL.value
  have hll : (l.map (·.1)).length = l.length := by simp
  have hkey : ∀ (j : Nat) (hj : j < (l.map fun x : PairM × Value => x.1).length), ((l.map fun x : PairM × Value => x.1)[j]'hj).key = (l[j]'(by simpa using hj)).1.key := fun j hj => by simp
  rw [hll] at hn
  refine calls_of_WC Tryd.func27 rfl Tryd.ntmps27 rfl ?_
  refine GO ?_
  refine WC_loop (fun m f w' => ∃ i, m = l.length - i ∧ i ≤ l.length ∧ EnvHas f [(0, .slice ao l.length cap), (3, .int .i64 ((i + 1 : Nat) : Int))] ∧ Grows w w' ∧ ∀ (j : Nat) (hj : j + 1 < l.length), j < i → (l[j]'(by omega)).1.key < l[j + 1].1.key) l.length ?_ ?_
  · exact ⟨0, rfl, Nat.zero_le _, ⟨rfl, rfl, trivial⟩, Grows.refl _, fun j _ hj => absurd hj (by omega)⟩
  rintro m f w2 ⟨i, rfl, hi, he, hg, hasc⟩
  obtain ⟨f, rfl⟩ := he.form
  refine GO ?_
  first | refine WC_sif vv (fun hc => ?_) (fun hc => ?_) | refine WC_if vv (fun hc => ?_) (fun hc => ?_)
  · have hlt : i + 1 < l.length := by have := of_decide_eq_true hc; omega
    have hLg := hL.grow hg
    obtain ⟨b2, o2, cap2, hv2, _⟩ := hLg.part (by decide) hlt
    cases hv2
    refine GO ?_
    refine WC_seq (WC_draws (fun w' => ListAt w' pairCells 2 (.slice (some ⟨b2, o2, none⟩) l.length cap) l) (by kernel_rfl) (fun w1 g => hLg.grow g) ?_)
    intro w3 g3 hS
    refine WT 0 ?_
    refine WT 1 ?_
    refine WD_take (i := 2) rfl rfl rfl rfl (by kernel_rfl) (by assumption) (fun w' hS => by exact Y_sub (c := (i : Int)) vv vv (by rw [IntWalk.i64_in _ (by omega)]; omega)) ?_
    refine WD_take (i := 3) rfl rfl rfl rfl (by kernel_rfl) (by assumption) (fun w' hS => by exact Y_index (i := i) vv vv (by omega)) ?_
    refine WT 4 ?_
    refine WD_take (i := 5) rfl rfl rfl rfl (by kernel_rfl) (by assumption) (fun w' hS => by exact Y_load_cell vv (list_cell hS (by decide) (i := i) (by omega) (j := 0) rfl)) ?_
    refine WT 6 ?_
    refine WT 7 ?_
    refine WD_take (i := 8) rfl rfl rfl rfl (by kernel_rfl) (by assumption) (fun w' hS => by exact Y_index (i := i + 1) vv vv hlt) ?_
    refine WT 9 ?_
    refine WD_take (i := 10) rfl rfl rfl rfl (by kernel_rfl) (by assumption) (fun w' hS => by exact Y_load_cell vv (list_cell hS (by decide) hlt (j := 0) rfl)) ?_
    refine WT 11 ?_
    refine WD_done (by kernel_rfl) ?_
    have G3 := hg.trans g3
    refine GO ?_
    first | refine WC_sif vv (fun hc => ?_) (fun hc => ?_) | refine WC_if vv (fun hc => ?_) (fun hc => ?_)
    · have hge : l[i + 1].1.key ≤ l[i].1.key := by have := of_decide_eq_true hc; omega
      have hf : ascends (l.map (·.1)) = false := by
        cases e : ascends (l.map (·.1)) with
        | false => rfl
        | true =>
          have := (ascends_iff _).1 e i (by simpa using hlt)
          rw [hkey, hkey] at this
          omega
      rw [hf]
      refine GO ?_
      exact ret1 (v := .bool false) Tryd.results27 rfl ⟨rfl, G3⟩
    have hless : l[i].1.key < l[i + 1].1.key := by have := of_decide_eq_false hc; omega
    refine GO ?_
    refine WL_inc vv (by omega) ?_
    refine GO ?_
    refine ⟨l.length - (i + 1), by omega, i + 1, rfl, by omega, ⟨rfl, rfl, trivial⟩, G3, fun j hj hji => ?_⟩
    by_cases hjj : j = i
    · subst hjj; exact hless
    · exact hasc j hj (by omega)
  have hge : l.length ≤ i + 1 := by have := of_decide_eq_false hc; omega
  have ht : ascends (l.map (·.1)) = true := (ascends_iff _).2 fun j hj => by
    rw [hkey, hkey]
    rw [hll] at hj
    exact hasc j hj (by omega)
  rw [ht]
  refine GO ?_
  exact ret1 (v := .bool true) Tryd.results27 rfl ⟨rfl, hg⟩
end Go.Proofs.YtgkhfpkfjajdjaaDoor
