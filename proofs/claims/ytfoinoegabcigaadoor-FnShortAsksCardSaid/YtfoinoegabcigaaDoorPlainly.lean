/- The reference's Plainly: what it tells of records of an unknown type. -/
import Derived.Test.YtfoinoegabcigaaDoorRead5
set_option linter.unusedVariables false
set_option linter.unusedSimpArgs false
namespace Go.Proofs.YtfoinoegabcigaaDoor
open Go.RowKit
set_option maxHeartbeats 4000000
set_option maxRecDepth 100000

def FineK (k : Nat) (x : RecM × RecV) : Prop := k = 13 → kindOfM x.1.type = 13
def PlainB (w : World) (k : Nat) (ls : List (List (RecM × RecV))) (e : Ending) (w' : World) : Prop := ∃ b, e = .returned (.bool b) ∧ Grows w w' ∧ (b = true → ∀ l ∈ ls, ∀ x ∈ l, FineK k x)
theorem spec_Plainly {k : Nat} (w : World) (h : HeadM) (av v1 v2 v3 : Value) (qs : List AskM) (l1 l2 l3 : List (RecM × RecV)) (ha : AsksAt w av qs) (h1 : SRecs w k v1 l1) (h2 : SRecs w k v2 l2) (h3 : SRecs w k v3 l3) :
    Calls Tryd.prog 40 #[.agg (msgCells h av v1 v2 v3).toArray] w (PlainB w k [l1, l2, l3]) := by
  obtain ⟨aa, acap, rfl⟩ := ha.at_.value
  have hT := Three.mk3 h1 h2 h3
  have hcap : ∀ l ∈ [l1, l2, l3], l.length ≤ 837723144972 := by
    have c1 := h1.at_.len
    have c2 := h2.at_.len
    have c3 := h3.at_.len
    simp only [lim] at c1 c2 c3
    intro l hl
    simp only [List.mem_cons, List.not_mem_nil, or_false] at hl
    rcases hl with rfl | rfl | rfl <;> omega
  obtain ⟨ao1, cap1, rfl⟩ := h1.at_.at_.value
  obtain ⟨ao2, cap2, rfl⟩ := h2.at_.at_.value
  obtain ⟨ao3, cap3, rfl⟩ := h3.at_.at_.value
  generalize hv1 : Value.slice ao1 l1.length cap1 = v1 at *
  generalize hv2 : Value.slice ao2 l2.length cap2 = v2 at *
  generalize hv3 : Value.slice ao3 l3.length cap3 = v3 at *
  refine calls_of_WC Tryd.func40 rfl Tryd.ntmps40 rfl ?_
  refine GO ?_
  refine WL_box vv ?_
  intro b0 w0 hb0 h0 g0
  refine GO ?_
  refine WL_slice (vs := [v1, v2, v3]) rfl (by simp) rfl (fun v hv => by rw [hT.one hv]; rfl) rfl ?_
  intro b2 w3 hb2 hs2 g2
  have hs2' : w3.heap[b2]? = some (.cells #[v1, v2, v3] 32 (0, 0)) := by
    rw [hs2, flat_one _ (fun v hv => hT.one hv)]
  have hT2 := (hT.grow g0).grow g2
  refine GO ?_
  refine WC_loop (fun m f w' => ∃ j : Nat, m = 3 - j ∧ j ≤ 3 ∧ EnvHas f [(13, .slice (some ⟨b2, 0, none⟩) 3 3), (14, .int .i64 3), (15, .int .i64 (j : Int))] ∧ Grows w3 w' ∧ ∀ l ∈ [l1, l2, l3].take j, ∀ x ∈ l, FineK k x) 3 ?_ ?_
  · exact ⟨0, rfl, Nat.zero_le _, ⟨rfl, rfl, rfl, trivial⟩, Grows.refl _, by simp⟩
  rintro m f w4 ⟨j, rfl, hj, he, hg, hfin⟩
  obtain ⟨f, rfl⟩ := he.form
  refine GO ?_
  first | refine WC_sif vv (fun hc => ?_) (fun hc => ?_) | refine WC_if vv (fun hc => ?_) (fun hc => ?_)
  · have hlt : j < 3 := by have : (j : Int) < 3 := (by simpa using hc); omega
    obtain ⟨v, hjv⟩ : ∃ v, [v1, v2, v3][j]? = some v := ⟨[v1, v2, v3][j]'(by simpa using hlt), by simp [hlt]⟩
    obtain ⟨l, hjl⟩ : ∃ l, [l1, l2, l3][j]? = some l := ⟨[l1, l2, l3][j]'(by simpa using hlt), by simp [hlt]⟩
    have hrecs := (hT2.grow hg).at_ j v l hjv hjl
    have hlen1 := hcap _ (List.mem_of_getElem? hjl)
    obtain ⟨ao, cap, rfl⟩ := hrecs.at_.at_.value
    refine GO ?_
    refine WL_index vv vv hlt ?_
    refine WL_load vv (hg.kept hs2') (by rw [Nat.zero_add, Nat.mul_one]; exact hjv) ?_
    refine GO ?_
    refine WC_loop (fun m f w' => ∃ i : Nat, m = l.length - i ∧ i ≤ l.length ∧ EnvHas f [(13, .slice (some ⟨b2, 0, none⟩) 3 3), (14, .int .i64 3), (15, .int .i64 (j : Int)), (19, .slice ao l.length cap), (20, .int .i64 (l.length : Int)), (21, .int .i64 (i : Int))] ∧ Grows w3 w' ∧ ∀ x ∈ l.take i, FineK k x) l.length ?_ ?_
    · exact ⟨0, rfl, Nat.zero_le _, ⟨rfl, rfl, rfl, rfl, rfl, rfl, trivial⟩, hg, by simp⟩
    rintro m f w5 ⟨i, rfl, hi, he, hg5, hfi⟩
    obtain ⟨f, rfl⟩ := he.form
    refine GO ?_
    first | refine WC_sif vv (fun hc => ?_) (fun hc => ?_) | refine WC_if vv (fun hc => ?_) (fun hc => ?_)
    · have hlti : i < l.length := by simpa using hc
      have hr5 := ((hT2.grow hg5).at_ j _ l hjv hjl)
      have hrec := hr5.at_.recs l[i] (by simp)
      have hkd := hr5.kind l[i] (by simp)
      obtain ⟨b6, o6, cap6, hv6, hcell⟩ := hr5.at_.at_.part (by decide) hlti
      cases hv6
      have hstep : FineK k l[i] → ∀ x ∈ l.take (i + 1), FineK k x := by
        intro hf x hx
        rw [List.take_succ_eq_append_getElem hlti, List.mem_append, List.mem_singleton] at hx
        rcases hx with hx | rfl
        · exact hfi x hx
        · exact hf
      refine GO ?_
      refine WL_index vv vv hlti ?_
      refine WL_loadAgg (l := recCells l[i]) vv rfl hcell ?_
      refine WL_alloc ?_
      intro b7 w7 hb7 h7 g7
      refine WL_storeRow (new := (recCells l[i]).toArray) vv vv h7 rfl rfl (recCells_one hrec) ?_
      intro w8 hw8 h8
      have G8 : Grows w5 w8 := g7.wrote hw8 (by omega)
      have G := g0.trans (g2.trans (hg5.trans G8))
      refine GO ?_
      rw [hkd]
      by_cases hk : k = 13
      · subst hk
        refine RUN ?_
        refine WL_fun rfl ((spec_kindOf w8 l[i].1.type hrec.ok.type).mono ?_)
        rintro e w9 ⟨rfl, g9⟩
        refine ⟨_, rfl, ?_⟩
        have g9 : Grows w8 w9 := g9
        refine RUN ?_
        by_cases h13 : kindOfM l[i].1.type = 13
        · rw [show ((kindOfM l[i].1.type : Int) != 13) = false by rw [h13]; rfl]
          refine RUN ?_
          refine WL_inc vv (by omega) ?_
          refine GO ?_
          exact ⟨l.length - (i + 1), by omega, i + 1, rfl, hlti, ⟨rfl, rfl, rfl, rfl, rfl, rfl, trivial⟩, (hg5.trans G8).trans g9, hstep (fun _ => h13)⟩
        · rw [show ((kindOfM l[i].1.type : Int) != 13) = true by simp; omega]
          refine RUN ?_
          exact ret1 (v := .bool false) Tryd.results40 rfl ⟨false, rfl, G.trans g9, fun e => by cases e⟩
      · rw [show ((k : Int) == 13) = false from beq_eq_false_iff_ne.2 (by omega)]
        refine RUN ?_
        refine WL_inc vv (by omega) ?_
        refine GO ?_
        exact ⟨l.length - (i + 1), by omega, i + 1, rfl, hlti, ⟨rfl, rfl, rfl, rfl, rfl, rfl, trivial⟩, hg5.trans G8, hstep (fun e => absurd e hk)⟩
    · have hge : i = l.length := by have := of_decide_eq_false hc; omega
      subst hge
      rw [List.take_length] at hfi
      refine GO ?_
      refine WL_inc vv (by omega) ?_
      refine GO ?_
      refine ⟨3 - (j + 1), by omega, j + 1, rfl, hlt, ⟨rfl, rfl, rfl, trivial⟩, hg5, ?_⟩
      intro l' hl'
      rw [List.take_add_one, List.mem_append, hjl] at hl'
      rcases hl' with hl' | hl'
      · exact hfin l' hl'
      · obtain rfl : l' = l := by simpa using hl'
        exact hfi
  have hge : j = 3 := by have : ¬ (j : Int) < 3 := of_decide_eq_false hc; omega
  subst hge
  refine GO ?_
  exact ret1 (v := .bool true) Tryd.results40 rfl ⟨true, rfl, g0.trans (g2.trans hg), fun _ => hfin⟩
end Go.Proofs.YtfoinoegabcigaaDoor
