/- Names with a label that is too long. -/
import Derived.Test.YtgkhfpkfjajdjaaDoorG3
set_option linter.unusedVariables false
set_option linter.unusedSimpArgs false
namespace Go.Proofs.YtgkhfpkfjajdjaaDoor
open Go.RowKit
set_option maxHeartbeats 400000
set_option maxRecDepth 100000

theorem longLoop_cons (b : UInt8) (r : Bytes) (n : Nat) (l : Bool) : longLoop (b :: r) n l = if b = 46 then longLoop r 0 l else longLoop r (n + 1) (l || decide (63 < n + 1)) := rfl
theorem b46e (b : UInt8) : ((b.toNat : Int) == 46) = decide (b = 46) := by
  have := b46 b
  by_cases h : b = 46
  · subst h; rfl
  · have h2 : b.toNat ≠ 46 := fun e => h (UInt8.toNat_inj.1 (by rw [e]; rfl))
    simp [h]; omega
theorem spec_LongLabel (w : World) (s : Bytes) (hs : s.length ≤ lim) : Calls Tryd.prog 24 #[strOf s] w fun e w' => e = .returned (.bool (longLabel s)) ∧ w = w' := by
  simp only [lim] at hs
  refine calls_of_WC Tryd.func24 rfl Tryd.ntmps24 rfl ?_
  refine GO ?_
  refine WC_loop (fun m f w' => ∃ (i n : Nat) (l : Bool), m = s.length - i ∧ i ≤ s.length ∧ EnvHas f [(0, strOf s), (3, .int .i64 (n : Int)), (4, .bool l), (7, .int .i64 (s.length : Int)), (8, .int .i64 (i : Int))] ∧ longLoop (s.drop i) n l = longLoop s 0 false ∧ n ≤ i ∧ w = w') s.length ?_ ?_
  · exact ⟨0, 0, false, rfl, Nat.zero_le _, ⟨rfl, rfl, rfl, rfl, rfl, trivial⟩, by simp, Nat.le_refl _, rfl⟩
  · rintro m f w2 ⟨i, n, l, rfl, hi, he, hok, hni, rfl⟩
    obtain ⟨f, rfl⟩ := he.form
    refine GO ?_
    first | refine WC_sif vv (fun hc => ?_) (fun hc => ?_) | refine WC_if vv (fun hc => ?_) (fun hc => ?_)
    · have hlt : i < s.length := by simpa using hc
      rw [drop_head hlt, longLoop_cons] at hok
      refine GO ?_
      refine WL_inc vv (by omega) ?_
      refine GO ?_
      refine WL_y (Y_atS vv vv hlt) ?_
      refine WL_y (Y_eqlR vv vv (b46e _)) ?_
      refine GO ?_
      first | refine WC_sif vv (fun hc => ?_) (fun hc => ?_) | refine WC_if vv (fun hc => ?_) (fun hc => ?_)
      · have hb : s[i] = 46 := by simpa using hc
        rw [if_pos hb] at hok
        refine GO ?_
        cases l with
        | true =>
          first | refine WL_unwanted (c := true) rfl vv rfl ?_ | refine WL_unwanted (c := false) rfl vv rfl ?_
          first | refine WL_unwanted (c := true) rfl vv rfl ?_ | refine WL_unwanted (c := false) rfl vv rfl ?_
          refine WL_y (Y_pick vv vv vv) ?_
          refine GO ?_
          refine WL_inc vv (by omega) ?_
          refine GO ?_
          exact ⟨s.length - (i + 1), by omega, i + 1, 0, true, rfl, hlt, ⟨rfl, rfl, rfl, rfl, rfl, trivial⟩, hok, by omega, rfl⟩
        | false =>
          refine WL_wanted rfl vv ?_
          refine GO ?_
          refine WL_wanted rfl vv ?_
          refine GO ?_
          refine WL_y (Y_pick vv vv vv) ?_
          refine GO ?_
          refine WL_inc vv (by omega) ?_
          refine GO ?_
          exact ⟨s.length - (i + 1), by omega, i + 1, 0, false, rfl, hlt, ⟨rfl, rfl, rfl, rfl, rfl, trivial⟩, hok, by omega, rfl⟩
      · have hb : s[i] ≠ 46 := by simpa using hc
        rw [if_neg hb] at hok
        refine GO ?_
        cases l with
        | true =>
          first | refine WL_unwanted (c := true) rfl vv rfl ?_ | refine WL_unwanted (c := false) rfl vv rfl ?_
          first | refine WL_unwanted (c := true) rfl vv rfl ?_ | refine WL_unwanted (c := false) rfl vv rfl ?_
          refine WL_y (Y_pick vv vv vv) ?_
          refine GO ?_
          refine WL_inc vv (by omega) ?_
          refine GO ?_
          exact ⟨s.length - (i + 1), by omega, i + 1, n + 1, true, rfl, hlt, ⟨rfl, rfl, rfl, rfl, rfl, trivial⟩, hok, by omega, rfl⟩
        | false =>
          refine WL_wanted rfl vv ?_
          refine GO ?_
          refine WL_wanted rfl vv ?_
          refine GO ?_
          refine WL_y (Y_pick vv vv vv) ?_
          refine GO ?_
          refine WL_inc vv (by omega) ?_
          refine GO ?_
          have e63 : decide ((63 : Int) < ((n + 1 : Nat) : Int)) = decide (63 < n + 1) := by apply decide_eq_decide.2; omega
          refine ⟨s.length - (i + 1), by omega, i + 1, n + 1, decide (63 < n + 1), rfl, hlt, ⟨rfl, rfl, ?_, rfl, rfl, trivial⟩, by simpa using hok, by omega, rfl⟩
          rw [← e63]
          rfl
    · have hge : i = s.length := by have := of_decide_eq_false hc; omega
      subst hge
      rw [List.drop_length] at hok
      have hv : longLabel s = (l && decide (n = 0) && decide (s.length ≤ 254)) := by
        unfold longLabel
        rw [← hok]
        rfl
      refine GO ?_
      cases l with
      | false =>
        first | refine WL_unwanted (c := true) rfl vv rfl ?_ | refine WL_unwanted (c := false) rfl vv rfl ?_
        first | refine WL_unwanted (c := true) rfl vv rfl ?_ | refine WL_unwanted (c := false) rfl vv rfl ?_
        refine WL_y (Y_pick vv vv vv) ?_
        refine GO ?_
        first | refine WL_unwanted (c := true) rfl vv rfl ?_ | refine WL_unwanted (c := false) rfl vv rfl ?_
        first | refine WL_unwanted (c := true) rfl vv rfl ?_ | refine WL_unwanted (c := false) rfl vv rfl ?_
        first | refine WL_unwanted (c := true) rfl vv rfl ?_ | refine WL_unwanted (c := false) rfl vv rfl ?_
        refine WL_y (Y_pick vv vv vv) ?_
        refine GO ?_
        exact ret1 (v := .bool false) Tryd.results24 rfl ⟨by rw [hv]; rfl, rfl⟩
      | true =>
        refine WL_wanted rfl vv ?_
        refine GO ?_
        refine WL_wanted rfl vv ?_
        refine GO ?_
        refine WL_y (Y_pick vv vv vv) ?_
        refine GO ?_
        cases hn : ((n : Int) == 0) with
        | true =>
          have hn0 : n = 0 := by have : (n : Int) = 0 := (by simpa using hn); omega
          refine WL_wanted rfl vv ?_
          refine GO ?_
          refine WL_wanted rfl vv ?_
          refine GO ?_
          refine WL_wanted rfl vv ?_
          refine GO ?_
          refine WL_y (Y_pick vv vv vv) ?_
          refine GO ?_
          have e63 : decide ((s.length : Int) ≤ 254) = decide (s.length ≤ 254) := by apply decide_eq_decide.2; omega
          refine ret1 (v := .bool (decide ((s.length : Int) ≤ 254))) Tryd.results24 rfl ⟨?_, rfl⟩
          rw [hv, e63, hn0]
          simp
        | false =>
          have hn0 : n ≠ 0 := by have : (n : Int) ≠ 0 := (by simpa using hn); omega
          first | refine WL_unwanted (c := true) rfl vv rfl ?_ | refine WL_unwanted (c := false) rfl vv rfl ?_
          first | refine WL_unwanted (c := true) rfl vv rfl ?_ | refine WL_unwanted (c := false) rfl vv rfl ?_
          first | refine WL_unwanted (c := true) rfl vv rfl ?_ | refine WL_unwanted (c := false) rfl vv rfl ?_
          refine WL_y (Y_pick vv vv vv) ?_
          refine GO ?_
          refine ret1 (v := .bool false) Tryd.results24 rfl ⟨?_, rfl⟩
          rw [hv]
          simp [hn0]
end Go.Proofs.YtgkhfpkfjajdjaaDoor
