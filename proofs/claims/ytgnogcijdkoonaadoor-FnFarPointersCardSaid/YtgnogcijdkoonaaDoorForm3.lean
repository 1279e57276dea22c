/- Records that are read, with the bound that their slice has. -/
import Derived.Test.YtgnogcijdkoonaaDoorG12
set_option linter.unusedVariables false
set_option linter.unusedSimpArgs false
namespace Go.Proofs.YtgnogcijdkoonaaDoor
open Go.RowKit Go.ChangeShapes Go.WideShapes Go.ChangeAt
set_option maxRecDepth 100000
set_option maxHeartbeats 1000000

theorem recs_arg2 {H : Type} {enc : TypeId × Value → H} {w : World} {base : Nat} {spare : Nat → Bool} {held : Bool} {r : Reach} {b0 : Nat} {v : Value} {d : DataW H} {p : List MemPlace} (hv : Value.okWide Tryd.prog w r b0 62 v) (h : DataW.Trod enc Tryd.prog w base spare held 62 v d p) (hs : Sml 62 d) : ∃ l, RecsAt w v l ∧ l.length * 168 ≤ lim := by
  obtain ⟨a, len, cap, rfl⟩ := okWide_slice Tryd.underlying62 hv
  obtain ⟨fuel, hf⟩ := h
  obtain ⟨l, h1, h2, h3⟩ := slice_form (g := recCells) (Q := RecAt w) Tryd.underlying62 (by kernel_rfl) (fun n cs y hl ht hsm => rec_form hl ht hsm) (bok_struct Tryd.underlying43 (Nat.le_of_ble_eq_true (by kernel_rfl))) hf hs
  rw [show Tryd.prog.bytesOf 43 = 168 by kernel_rfl] at h3
  exact ⟨l, ⟨h1, h2, Nat.le_trans h3 (Nat.le_add_right _ _)⟩, h3⟩
end Go.Proofs.YtgnogcijdkoonaaDoor
