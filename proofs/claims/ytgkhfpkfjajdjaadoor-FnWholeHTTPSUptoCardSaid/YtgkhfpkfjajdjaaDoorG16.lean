/- Names without capital letters: the function returns. -/
import Derived.Test.YtgkhfpkfjajdjaaDoorG3
set_option linter.unusedVariables false
set_option linter.unusedSimpArgs false
namespace Go.Proofs.YtgkhfpkfjajdjaaDoor
open Go.RowKit
set_option maxHeartbeats 400000
set_option maxRecDepth 100000

theorem spec_Lower (w : World) (s : Bytes) (hs : s.length ≤ lim) : Calls Tryd.prog 39 #[strOf s] w fun e w' => ∃ b, e = .returned (.bool b) ∧ w = w' := by
  simp only [lim] at hs
  refine calls_of_WC Tryd.func39 rfl Tryd.ntmps39 rfl ?_
  refine GO ?_
  refine WC_loop (fun m f w' => ∃ i : Nat, m = s.length - i ∧ i ≤ s.length ∧ EnvHas f [(0, strOf s), (5, .int .i64 (s.length : Int)), (6, .int .i64 (i : Int))] ∧ w = w') s.length ?_ ?_
  · exact ⟨0, rfl, Nat.zero_le _, ⟨rfl, rfl, rfl, trivial⟩, rfl⟩
  · rintro m f w2 ⟨i, rfl, hi, he, rfl⟩
    obtain ⟨f, rfl⟩ := he.form
    refine GO ?_
    first | refine WC_sif vv (fun hc => ?_) (fun hc => ?_) | refine WC_if vv (fun hc => ?_) (fun hc => ?_)
    · have hlt : i < s.length := by simpa using hc
      refine GO ?_
      refine WL_y (Y_atS vv vv hlt) ?_
      refine GO ?_
      cases hcap : decide ((65 : Int) ≤ (s[i].toNat : Int)) with
      | true =>
        refine WL_wanted rfl vv ?_
        refine GO ?_
        refine WL_wanted rfl vv ?_
        refine GO ?_
        refine WL_wanted rfl vv ?_
        refine WL_y (Y_atS vv vv hlt) ?_
        refine WL_wanted rfl vv ?_
        refine GO ?_
        refine WL_y (Y_pick vv vv vv) ?_
        refine GO ?_
        first | refine WC_sif vv (fun hc => ?_) (fun hc => ?_) | refine WC_if vv (fun hc => ?_) (fun hc => ?_)
        · refine GO ?_
          exact ret1 (v := .bool false) Tryd.results39 rfl ⟨_, rfl, rfl⟩
        · refine GO ?_
          refine WL_inc vv (by omega) ?_
          refine GO ?_
          exact ⟨s.length - (i + 1), by omega, i + 1, rfl, hlt, ⟨rfl, rfl, rfl, trivial⟩, rfl⟩
      | false =>
        first | refine WL_unwanted (c := true) rfl vv rfl ?_ | refine WL_unwanted (c := false) rfl vv rfl ?_
        first | refine WL_unwanted (c := true) rfl vv rfl ?_ | refine WL_unwanted (c := false) rfl vv rfl ?_
        first | refine WL_unwanted (c := true) rfl vv rfl ?_ | refine WL_unwanted (c := false) rfl vv rfl ?_
        first | refine WL_unwanted (c := true) rfl vv rfl ?_ | refine WL_unwanted (c := false) rfl vv rfl ?_
        refine WL_y (Y_pick vv vv vv) ?_
        refine GO ?_
        first | refine WC_sif vv (fun hc => ?_) (fun hc => ?_) | refine WC_if vv (fun hc => ?_) (fun hc => ?_)
        · cases hc
        · refine GO ?_
          refine WL_inc vv (by omega) ?_
          refine GO ?_
          exact ⟨s.length - (i + 1), by omega, i + 1, rfl, hlt, ⟨rfl, rfl, rfl, trivial⟩, rfl⟩
    · refine GO ?_
      exact ret1 (v := .bool true) Tryd.results39 rfl ⟨_, rfl, rfl⟩
end Go.Proofs.YtgkhfpkfjajdjaaDoor
