/- The reference's Small: it returns, and changes nothing. -/
import Derived.Test.YtgkhfpkfjajdjaaDoorG16
import Derived.Test.YtgkhfpkfjajdjaaDoorG9
set_option linter.unusedVariables false
set_option linter.unusedSimpArgs false
namespace Go.Proofs.YtgkhfpkfjajdjaaDoor
open Go.RowKit
set_option maxHeartbeats 4000000
set_option maxRecDepth 100000

def SomeB (w : World) (e : Ending) (w' : World) : Prop := ∃ b, e = .returned (.bool b) ∧ Grows w w'
theorem spec_Small {k : Nat} (w : World) (h : HeadM) (av v1 v2 v3 : Value) (qs : List AskM) (l1 l2 l3 : List (RecM × RecV)) (ha : AsksAt w av qs) (h1 : SRecs w k v1 l1) (h2 : SRecs w k v2 l2) (h3 : SRecs w k v3 l3) :
    Calls Tryd.prog 17 #[.agg (msgCells h av v1 v2 v3).toArray] w (SomeB w) := by
  obtain ⟨aa, acap, rfl⟩ := ha.at_.value
  have hna := ha.len
  simp only [lim] at hna
  have hT := Three.mk3 h1 h2 h3
  have hcap : ∀ l ∈ [l1, l2, l3], l.length ≤ 837723144972 := by
    have c1 := h1.at_.len
    have c2 := h2.at_.len
    have c3 := h3.at_.len
    simp only [lim] at c1 c2 c3
    intro l hl
    simp only [List.mem_cons, List.not_mem_nil, or_false] at hl
    rcases hl with rfl | rfl | rfl <;> omega
  obtain ⟨ao1, cap1, rfl⟩ := h1.at_.at_.value
  obtain ⟨ao2, cap2, rfl⟩ := h2.at_.at_.value
  obtain ⟨ao3, cap3, rfl⟩ := h3.at_.at_.value
  generalize hv1 : Value.slice ao1 l1.length cap1 = v1 at *
  generalize hv2 : Value.slice ao2 l2.length cap2 = v2 at *
  generalize hv3 : Value.slice ao3 l3.length cap3 = v3 at *
  refine calls_of_WC Tryd.func17 rfl Tryd.ntmps17 rfl ?_
  refine GO ?_
  refine WL_box vv ?_
  intro b0 w0 hb0 h0 g0
  refine GO ?_
  refine WC_loop (fun m f w' => ∃ i : Nat, m = qs.length - i ∧ i ≤ qs.length ∧ EnvHas f [(1, .pointer (some ⟨b0, 0, none⟩)), (10, .slice aa qs.length acap), (11, .int .i64 (qs.length : Int)), (12, .int .i64 (i : Int))] ∧ Grows w0 w') qs.length ?_ ?_
  · exact ⟨0, rfl, Nat.zero_le _, ⟨rfl, rfl, rfl, rfl, trivial⟩, Grows.refl _⟩
  rintro m f w2 ⟨i, rfl, hi, he, hg⟩
  obtain ⟨f, rfl⟩ := he.form
  refine GO ?_
  first | refine WC_sif vv (fun hc => ?_) (fun hc => ?_) | refine WC_if vv (fun hc => ?_) (fun hc => ?_)
  · have hlt : i < qs.length := by simpa using hc
    refine GO ?_
    obtain ⟨b2, o2, cap2, hv2, hcell⟩ := ((ha.grow g0).grow hg).at_.part (by decide) hlt
    cases hv2
    refine GO ?_
    refine WL_index vv vv hlt ?_
    refine WL_loadAgg (l := askCells qs[i]) vv rfl hcell ?_
    refine WL_alloc ?_
    intro b5 w5 hb5 h5 g5
    refine WL_storeRow (new := (askCells qs[i]).toArray) vv vv h5 rfl rfl (by simp [askCells, Value.oneCell']) ?_
    intro w6 hw6 h6
    have G6 : Grows w0 w6 := (hg.trans g5).wrote hw6 (by have := hg.size; omega)
    refine GO ?_
    refine WL_fun rfl ((spec_Lower _ _ (ha.ok qs[i] (by simp)).name).mono ?_)
    rintro e w7 ⟨bl, rfl, rfl⟩
    refine ⟨_, rfl, ?_⟩
    cases bl with
    | false =>
      refine RUN ?_
      exact ret1 (v := .bool false) Tryd.results17 rfl ⟨false, rfl, g0.trans G6⟩
    | true =>
      refine RUN ?_
      refine WL_inc vv (by omega) ?_
      refine GO ?_
      exact ⟨qs.length - (i + 1), by omega, i + 1, rfl, hlt, ⟨rfl, rfl, rfl, rfl, trivial⟩, G6⟩
  have hge : i = qs.length := by have := of_decide_eq_false hc; omega
  subst hge
  have g1 := hg
  have h0' := g1.kept h0
  clear hg hi hc he
  refine GO ?_
  refine WL_slice (vs := [v1, v2, v3]) rfl (by simp) rfl (fun v hv => by rw [hT.one hv]; rfl) rfl ?_
  intro b2 w3 hb2 hs2 g2
  have hs2' : w3.heap[b2]? = some (.cells #[v1, v2, v3] 40 (0, 0)) := by
    rw [hs2, flat_one _ (fun v hv => hT.one hv)]
  have hT2 := ((hT.grow g0).grow g1).grow g2
  refine GO ?_
  refine WC_loop (fun m f w' => ∃ j : Nat, m = 3 - j ∧ j ≤ 3 ∧ EnvHas f [(27, .slice (some ⟨b2, 0, none⟩) 3 3), (28, .int .i64 3), (29, .int .i64 (j : Int))] ∧ Grows w3 w') 3 ?_ ?_
  · exact ⟨0, rfl, Nat.zero_le _, ⟨rfl, rfl, rfl, trivial⟩, Grows.refl _⟩
  rintro m f w4 ⟨j, rfl, hj, he, hg⟩
  obtain ⟨f, rfl⟩ := he.form
  refine GO ?_
  first | refine WC_sif vv (fun hc => ?_) (fun hc => ?_) | refine WC_if vv (fun hc => ?_) (fun hc => ?_)
  · have hlt : j < 3 := by have : (j : Int) < 3 := (by simpa using hc); omega
    obtain ⟨v, hjv⟩ : ∃ v, [v1, v2, v3][j]? = some v := ⟨[v1, v2, v3][j]'(by simpa using hlt), by simp [hlt]⟩
    obtain ⟨l, hjl⟩ : ∃ l, [l1, l2, l3][j]? = some l := ⟨[l1, l2, l3][j]'(by simpa using hlt), by simp [hlt]⟩
    have hrecs := (hT2.grow hg).at_ j v l hjv hjl
    have hlen1 := hcap _ (List.mem_of_getElem? hjl)
    obtain ⟨ao, cap, rfl⟩ := hrecs.at_.at_.value
    refine GO ?_
    refine WL_index vv vv hlt ?_
    refine WL_load vv (hg.kept hs2') (by rw [Nat.zero_add, Nat.mul_one]; exact hjv) ?_
    refine GO ?_
    refine WC_loop (fun m f w' => ∃ i : Nat, m = l.length - i ∧ i ≤ l.length ∧ EnvHas f [(27, .slice (some ⟨b2, 0, none⟩) 3 3), (28, .int .i64 3), (29, .int .i64 (j : Int)), (33, .slice ao l.length cap), (34, .int .i64 (l.length : Int)), (35, .int .i64 (i : Int))] ∧ Grows w3 w') l.length ?_ ?_
    · exact ⟨0, rfl, Nat.zero_le _, ⟨rfl, rfl, rfl, rfl, rfl, rfl, trivial⟩, hg⟩
    rintro m f w5 ⟨i, rfl, hi, he, hg5⟩
    obtain ⟨f, rfl⟩ := he.form
    refine GO ?_
    first | refine WC_sif vv (fun hc => ?_) (fun hc => ?_) | refine WC_if vv (fun hc => ?_) (fun hc => ?_)
    · have hlti : i < l.length := by simpa using hc
      have hr5 := ((hT2.grow hg5).at_ j _ l hjv hjl)
      have hrec := hr5.at_.recs l[i] (by simp)
      obtain ⟨b6, o6, cap6, hv6, hcell⟩ := hr5.at_.at_.part (by decide) hlti
      cases hv6
      refine GO ?_
      refine WL_index vv vv hlti ?_
      refine WL_loadAgg (l := recCells l[i]) vv rfl hcell ?_
      refine WL_alloc ?_
      intro b7 w7 hb7 h7 g7
      refine WL_storeRow (new := (recCells l[i]).toArray) vv vv h7 rfl rfl (recCells_one hrec) ?_
      intro w8 hw8 h8
      have G8 : Grows w5 w8 := g7.wrote hw8 (by omega)
      have G := g0.trans (g1.trans (g2.trans (hg5.trans G8)))
      refine GO ?_
      refine WL_fun rfl ((spec_Lower _ _ hrec.ok.name).mono ?_)
      rintro e w9 ⟨bl, rfl, rfl⟩
      refine ⟨_, rfl, ?_⟩
      cases bl with
      | false =>
        refine RUN ?_
        exact ret1 (v := .bool false) Tryd.results17 rfl ⟨false, rfl, G⟩
      | true =>
        refine RUN ?_
        refine WL_fun rfl ((spec_Lower _ _ hrec.ok.host).mono ?_)
        rintro e w9 ⟨bl, rfl, rfl⟩
        refine ⟨_, rfl, ?_⟩
        cases bl with
        | false =>
          refine RUN ?_
          exact ret1 (v := .bool false) Tryd.results17 rfl ⟨false, rfl, G⟩
        | true =>
          refine RUN ?_
          refine WL_fun rfl ((spec_Lower _ _ hrec.ok.box).mono ?_)
          rintro e w9 ⟨bl, rfl, rfl⟩
          refine ⟨_, rfl, ?_⟩
          cases bl with
          | false =>
            refine RUN ?_
            exact ret1 (v := .bool false) Tryd.results17 rfl ⟨false, rfl, G⟩
          | true =>
            refine RUN ?_
            refine WL_inc vv (by omega) ?_
            refine GO ?_
            exact ⟨l.length - (i + 1), by omega, i + 1, rfl, hlti, ⟨rfl, rfl, rfl, rfl, rfl, rfl, trivial⟩, hg5.trans G8⟩
    · have hge : i = l.length := by have := of_decide_eq_false hc; omega
      subst hge
      refine GO ?_
      refine WL_inc vv (by omega) ?_
      refine GO ?_
      exact ⟨3 - (j + 1), by omega, j + 1, rfl, hlt, ⟨rfl, rfl, rfl, trivial⟩, hg5⟩
  refine GO ?_
  exact ret1 (v := .bool true) Tryd.results17 rfl ⟨true, rfl, g0.trans (g1.trans (g2.trans hg))⟩
end Go.Proofs.YtgkhfpkfjajdjaaDoor
