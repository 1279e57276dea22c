/- The reference's BodyOk of records with parameters. -/
import Derived.Test.YtgkhfpkfjajdjaaDoorG4
import Derived.Test.YtgkhfpkfjajdjaaDoorPairs
set_option linter.unusedVariables false
set_option linter.unusedSimpArgs false
namespace Go.Proofs.YtgkhfpkfjajdjaaDoor
open Go.RowKit
set_option maxHeartbeats 2000000
set_option maxRecDepth 100000

theorem bodyOk11 (r : RecM) : bodyOk 11 r = (ascends r.pairs && nameOk r.host && decide ((body 11 r).length < 65536)) := by simp [bodyOk, hostOk]
theorem spec_BodyOk11 (hB : BodyC 11) (hH : HostC 11) (w : World) (x : RecM × RecV) (hx : RecAt w x) (hk : x.1.kind = ((11 : Nat) : Int)) (hb : hostOk 11 x.1 = true → (body 11 x.1).length ≤ 140737488355328) : Calls Tryd.prog 36 #[.agg (recCells x).toArray] w (RetV w (.bool (bodyOk 11 x.1))) := by
  have htn := hx.ok.texts.1
  have hpn := hx.ok.pairs.1
  simp only [lim] at htn hpn
  obtain ⟨ao, cap, htv⟩ := hx.texts.value
  refine calls_of_WC Tryd.func36 rfl Tryd.ntmps36 rfl ?_
  refine GO ?_
  refine WL_box vv ?_
  intro b0 w0 hb0 h0 g0
  refine GO ?_
  rw [htv]
  refine GO ?_
  refine WC_loop (fun m f w' => ∃ i : Nat, m = x.1.texts.length - i ∧ i ≤ x.1.texts.length ∧ EnvHas f [(1, .pointer (some ⟨b0, 0, none⟩)), (6, .slice ao x.1.texts.length cap), (7, .int .i64 (x.1.texts.length : Int)), (8, .int .i64 (i : Int))] ∧ w0 = w') x.1.texts.length ?_ ?_
  · exact ⟨0, rfl, Nat.zero_le _, ⟨rfl, rfl, rfl, rfl, trivial⟩, rfl⟩
  · rintro m f w2 ⟨i, rfl, hi, he, rfl⟩
    obtain ⟨f, rfl⟩ := he.form
    refine GO ?_
    first | refine WC_sif vv (fun hc => ?_) (fun hc => ?_) | refine WC_if vv (fun hc => ?_) (fun hc => ?_)
    · have hlt : i < x.1.texts.length := by simpa using hc
      refine GO ?_
      obtain ⟨b2, o2, cap2, hv2, hcell⟩ := (hx.texts.grow g0).form (by simp; omega)
      rw [htv] at hv2
      cases hv2
      refine GO ?_
      refine WL_index vv vv hlt ?_
      refine WL_load_cell (v := strOf x.1.texts[i]) vv (by rw [Nat.mul_one]; exact hcell i _ (by simp [hlt])) ?_
      refine GO ?_
      rw [hk]
      refine RUN ?_
      refine WL_inc vv (by omega) ?_
      refine GO ?_
      exact ⟨x.1.texts.length - (i + 1), by omega, i + 1, rfl, hlt, ⟨rfl, rfl, rfl, rfl, trivial⟩, rfl⟩
    · refine GO ?_
      rw [hk]
      refine RUN ?_
      rw [hk]
      refine RUN ?_
      refine WL_fun rfl ((spec_Ascending w0 _ _ (hx.grow g0).pairs (by omega)).mono ?_)
      rintro e w2 ⟨rfl, g2⟩
      refine ⟨_, rfl, ?_⟩
      have g2 : Grows w0 w2 := g2
      refine GO ?_
      cases has : ascends x.1.pairs with
      | false =>
        refine RUN ?_
        refine ret1 (v := .bool false) Tryd.results36 rfl ⟨?_, g0.trans g2⟩
        rw [bodyOk11, has]
        rfl
      | true =>
        refine RUN ?_
        refine WL_loadRow vv (g2.kept h0) rfl ?_
        refine WL_fun rfl ((hH _ _ ((hx.grow g0).grow g2) hk).mono ?_)
        rintro e w3 ⟨rfl, g3⟩
        refine ⟨_, rfl, ?_⟩
        refine GO ?_
        have hh : hostOk 11 x.1 = nameOk x.1.host := rfl
        cases hho : hostOk 11 x.1 with
        | false =>
          refine RUN ?_
          refine ret1 (v := .bool false) Tryd.results36 rfl ⟨?_, g0.trans (g2.trans g3)⟩
          rw [bodyOk11, has, ← hh, hho]
          rfl
        | true =>
          refine WL_wanted rfl vv ?_
          refine WL_loadRow vv (g3.kept (g2.kept h0)) rfl ?_
          refine WL_wanted rfl vv ?_
          refine WL_fun rfl ((hB _ _ (((hx.grow g0).grow g2).grow g3) hk (hb hho)).mono ?_)
          rintro e w4 ⟨v4, rfl, a4, g4⟩
          refine ⟨_, rfl, ?_⟩
          obtain ⟨ao4, cap4, rfl⟩ := a4.reads.value
          refine RUN ?_
          have e63 : decide (((body 11 x.1).length : Int) < 65536) = decide ((body 11 x.1).length < 65536) := by apply decide_eq_decide.2; omega
          refine ret1 (v := .bool (decide (((body 11 x.1).length : Int) < 65536))) Tryd.results36 rfl ⟨?_, g0.trans (g2.trans (g3.trans g4))⟩
          rw [bodyOk11, has, ← hh, hho, e63]
          rfl
theorem bodyOk12 (r : RecM) : bodyOk 12 r = (ascends r.pairs && nameOk r.host && decide ((body 12 r).length < 65536)) := by simp [bodyOk, hostOk]
theorem spec_BodyOk12 (hB : BodyC 12) (hH : HostC 12) (w : World) (x : RecM × RecV) (hx : RecAt w x) (hk : x.1.kind = ((12 : Nat) : Int)) (hb : hostOk 12 x.1 = true → (body 12 x.1).length ≤ 140737488355328) : Calls Tryd.prog 36 #[.agg (recCells x).toArray] w (RetV w (.bool (bodyOk 12 x.1))) := by
  have htn := hx.ok.texts.1
  have hpn := hx.ok.pairs.1
  simp only [lim] at htn hpn
  obtain ⟨ao, cap, htv⟩ := hx.texts.value
  refine calls_of_WC Tryd.func36 rfl Tryd.ntmps36 rfl ?_
  refine GO ?_
  refine WL_box vv ?_
  intro b0 w0 hb0 h0 g0
  refine GO ?_
  rw [htv]
  refine GO ?_
  refine WC_loop (fun m f w' => ∃ i : Nat, m = x.1.texts.length - i ∧ i ≤ x.1.texts.length ∧ EnvHas f [(1, .pointer (some ⟨b0, 0, none⟩)), (6, .slice ao x.1.texts.length cap), (7, .int .i64 (x.1.texts.length : Int)), (8, .int .i64 (i : Int))] ∧ w0 = w') x.1.texts.length ?_ ?_
  · exact ⟨0, rfl, Nat.zero_le _, ⟨rfl, rfl, rfl, rfl, trivial⟩, rfl⟩
  · rintro m f w2 ⟨i, rfl, hi, he, rfl⟩
    obtain ⟨f, rfl⟩ := he.form
    refine GO ?_
    first | refine WC_sif vv (fun hc => ?_) (fun hc => ?_) | refine WC_if vv (fun hc => ?_) (fun hc => ?_)
    · have hlt : i < x.1.texts.length := by simpa using hc
      refine GO ?_
      obtain ⟨b2, o2, cap2, hv2, hcell⟩ := (hx.texts.grow g0).form (by simp; omega)
      rw [htv] at hv2
      cases hv2
      refine GO ?_
      refine WL_index vv vv hlt ?_
      refine WL_load_cell (v := strOf x.1.texts[i]) vv (by rw [Nat.mul_one]; exact hcell i _ (by simp [hlt])) ?_
      refine GO ?_
      rw [hk]
      refine RUN ?_
      refine WL_inc vv (by omega) ?_
      refine GO ?_
      exact ⟨x.1.texts.length - (i + 1), by omega, i + 1, rfl, hlt, ⟨rfl, rfl, rfl, rfl, trivial⟩, rfl⟩
    · refine GO ?_
      rw [hk]
      refine RUN ?_
      rw [hk]
      refine RUN ?_
      rw [hk]
      refine RUN ?_
      refine WL_fun rfl ((spec_Ascending w0 _ _ (hx.grow g0).pairs (by omega)).mono ?_)
      rintro e w2 ⟨rfl, g2⟩
      refine ⟨_, rfl, ?_⟩
      have g2 : Grows w0 w2 := g2
      refine GO ?_
      cases has : ascends x.1.pairs with
      | false =>
        refine RUN ?_
        refine ret1 (v := .bool false) Tryd.results36 rfl ⟨?_, g0.trans g2⟩
        rw [bodyOk12, has]
        rfl
      | true =>
        refine RUN ?_
        refine WL_loadRow vv (g2.kept h0) rfl ?_
        refine WL_fun rfl ((hH _ _ ((hx.grow g0).grow g2) hk).mono ?_)
        rintro e w3 ⟨rfl, g3⟩
        refine ⟨_, rfl, ?_⟩
        refine GO ?_
        have hh : hostOk 12 x.1 = nameOk x.1.host := rfl
        cases hho : hostOk 12 x.1 with
        | false =>
          refine RUN ?_
          refine ret1 (v := .bool false) Tryd.results36 rfl ⟨?_, g0.trans (g2.trans g3)⟩
          rw [bodyOk12, has, ← hh, hho]
          rfl
        | true =>
          refine WL_wanted rfl vv ?_
          refine WL_loadRow vv (g3.kept (g2.kept h0)) rfl ?_
          refine WL_wanted rfl vv ?_
          refine WL_fun rfl ((hB _ _ (((hx.grow g0).grow g2).grow g3) hk (hb hho)).mono ?_)
          rintro e w4 ⟨v4, rfl, a4, g4⟩
          refine ⟨_, rfl, ?_⟩
          obtain ⟨ao4, cap4, rfl⟩ := a4.reads.value
          refine RUN ?_
          have e63 : decide (((body 12 x.1).length : Int) < 65536) = decide ((body 12 x.1).length < 65536) := by apply decide_eq_decide.2; omega
          refine ret1 (v := .bool (decide (((body 12 x.1).length : Int) < 65536))) Tryd.results36 rfl ⟨?_, g0.trans (g2.trans (g3.trans g4))⟩
          rw [bodyOk12, has, ← hh, hho, e63]
          rfl
end Go.Proofs.YtgkhfpkfjajdjaaDoor
