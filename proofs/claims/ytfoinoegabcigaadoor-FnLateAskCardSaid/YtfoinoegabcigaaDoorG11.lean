/- The laws' own helpers: early. -/
import Derived.Test.YtfoinoegabcigaaDoorG9
set_option linter.unusedVariables false
set_option linter.unusedSimpArgs false
namespace Go.Proofs.YtfoinoegabcigaaDoor
open Go.RowKit
set_option maxHeartbeats 4000000
set_option maxRecDepth 100000

theorem reads_cell {w : World} {b o n cap : Nat} {xs : List Value} (h : ReadsAt w 1 (.slice (some ⟨b, o, none⟩) n cap) n xs) {j : Nat} {x : Value} (hx : xs[j]? = some x) : w.cell? ⟨b, o + j * 1, none⟩ = some x := by
  obtain ⟨_, ao, cap', hv, _, hc⟩ := h
  obtain ⟨a, ha, hca⟩ := hc j x hx
  simp only [Value.slice.injEq] at hv
  rw [← hv.1] at ha
  cases ha
  rw [add_addr] at hca
  rw [Nat.mul_one]
  exact hca
theorem stepR_cells (x : RecM × RecV) : stepCells (sR x) = .int .i64 7 :: (askCells ask0 ++ recCells x) := rfl
end Go.Proofs.YtfoinoegabcigaaDoor
