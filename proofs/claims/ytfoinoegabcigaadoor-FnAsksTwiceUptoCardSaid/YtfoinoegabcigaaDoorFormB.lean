/- Where what is read is of small bulk: the length of a slice of questions. -/
import Derived.Test.YtfoinoegabcigaaDoorG12
set_option linter.unusedVariables false
set_option linter.unusedSimpArgs false
namespace Go.Proofs.YtfoinoegabcigaaDoor
open Go.RowKit Go.ChangeShapes Go.WideShapes Go.ChangeAt
set_option maxRecDepth 100000
set_option maxHeartbeats 1000000

theorem bulkB_one {H : Type} (d : DataW H) : 1 ≤ Rows.uptoBulk d := by
  cases d with
  | lit l => cases l <;> simp [Rows.uptoBulk]
  | nil => simp [Rows.uptoBulk]
  | ptr d => simp [Rows.uptoBulk]
  | slice elems spare => simp [Rows.uptoBulk]
  | agg parts => simp [Rows.uptoBulk]
  | iface t d => simp [Rows.uptoBulk]
  | map entries => simp [Rows.uptoBulk]
  | held h => simp [Rows.uptoBulk]
theorem bulkB_part {H : Type} {d : DataW H} : ∀ {l : List (DataW H)}, d ∈ l → Rows.uptoBulk d ≤ Rows.uptoBulkAll l
  | [], h => by cases h
  | x :: r, h => by
    simp only [Rows.uptoBulkAll]
    rcases List.mem_cons.1 h with rfl | h
    · omega
    · have := bulkB_part h; omega
theorem bulkB_append {H : Type} : ∀ (l r : List (DataW H)), Rows.uptoBulkAll (l ++ r) = Rows.uptoBulkAll l + Rows.uptoBulkAll r
  | [], r => by simp [Rows.uptoBulkAll]
  | x :: l, r => by simp only [List.cons_append, Rows.uptoBulkAll, bulkB_append l r]; omega
theorem bulkB_length {H : Type} : ∀ (l : List (DataW H)), l.length ≤ Rows.uptoBulkAll l
  | [] => by simp [Rows.uptoBulkAll]
  | x :: r => by have := bulkB_one x; have := bulkB_length r; simp only [Rows.uptoBulkAll, List.length_cons]; omega
theorem uptoB_part {H : Type} {ds gs : List (DataW H)} (h : Rows.uptoSmall H (ds ++ gs) = true) {d : DataW H} (hd : d ∈ ds) : Rows.uptoBulk d ≤ 1048576 := by
  have h2 : Rows.uptoBulkAll (ds ++ gs) ≤ 1048576 := of_decide_eq_true h
  rw [bulkB_append] at h2
  have := bulkB_part hd
  omega
section
variable {H : Type} {enc : TypeId × Value → H} {w : World} {base : Nat} {spare : Nat → Bool} {held : Bool} {v : Value} {d : DataW H} {p : List MemPlace} {qs : List AskM}
theorem asks_few (hq : AsksAt w v qs) (h : DataW.Trod enc Tryd.prog w base spare held 29 v d p) (hb : Rows.uptoBulk d ≤ 1048576) : qs.length ≤ 1048576 := by
  obtain ⟨ao, cap0, rfl⟩ := hq.at_.value
  obtain ⟨fuel, hf⟩ := h
  have hf' : DataW.trod enc Tryd.prog w base spare held fuel 29 [.slice ao qs.length cap0] = some (d, p) := hf
  rcases DataW.trod_slice Tryd.underlying29 hf' with ⟨hv, _⟩ | ⟨a, len, cap, elems, rest, n, _, hv, hx, _, _, _, hlen, _, _, _⟩
  · simp only [List.cons.injEq, and_true, Value.slice.injEq] at hv
    omega
  · simp only [List.cons.injEq, and_true, Value.slice.injEq] at hv
    simp only [Prod.mk.injEq] at hx
    rw [hx.1] at hb
    simp only [Rows.uptoBulk] at hb
    have := bulkB_length (elems.map (·.1))
    rw [List.length_map] at this
    omega
end
end Go.Proofs.YtfoinoegabcigaaDoor
