/- laws.FnNameText: the law returns true for each input that its row speaks of: its walk. -/
import Derived.Test.YtfoinoegabcigaaDoorG18
import Derived.Test.YtfoinoegabcigaaDoorG3
set_option linter.unusedVariables false
set_option linter.unusedSimpArgs false
namespace Go.Proofs.YtfoinoegabcigaaDoor
open Go.RowKit
set_option maxHeartbeats 4000000
set_option maxRecDepth 100000

theorem laws_FnNameText (w : World) (x0 : Bytes) (hx0 : x0.length ≤ lim) : Calls Tryd.prog 3 #[strOf x0] w (RetV w (.bool true)) := by
  refine calls_of_WC Tryd.func3 rfl Tryd.ntmps3 rfl ?_
  refine GO ?_
  have hn255 : (x0.take 255).length ≤ 255 := by rw [List.length_take]; omega
  refine WL_fun rfl ((impl_NameText ⟨x0.toArray⟩ (x0.take 255) (by simp) w).mono ?_)
  rintro e w1 ⟨rfl, g1⟩
  refine ⟨_, rfl, ?_⟩
  have g1 : Grows w w1 := g1
  refine GO ?_
  refine WL_y (Y_min vv vv) ?_
  have hmin : (if (255 : Int) < (x0.length : Int) then (255 : Int) else (x0.length : Int)) = ((min 255 x0.length : Nat) : Int) := by
    split <;> omega
  rw [hmin]
  refine WL_y (Y_sliceH (h := min 255 x0.length) vv vv (by omega)) ?_
  rw [show x0.take (min 255 x0.length) = x0.take 255 by rw [← List.take_take, List.take_length]]
  refine GO ?_
  refine WL_fun rfl ((impl_NewName (x0.take 255) hn255 w1).mono ?_)
  rintro e w2 ⟨rfl, g2⟩
  refine ⟨_, rfl, ?_⟩
  refine GO ?_
  refine WL_eqStr vv vv ?_
  rw [beq_self_eq_true]
  refine RUN ?_
  refine WL_eqStr vv vv ?_
  rw [beq_self_eq_true]
  refine RUN ?_
  exact ret1 (v := .bool true) Tryd.results3 rfl ⟨rfl, g1.trans g2⟩
end Go.Proofs.YtfoinoegabcigaaDoor
