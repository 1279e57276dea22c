/- Questions that are given twice: the append of the law. -/
import Derived.Test.YtfoinoegabcigaaDoorHd
import Derived.Test.YtfoinoegabcigaaDoorKNone
import Derived.Test.YtfoinoegabcigaaDoorSmall
import Derived.Test.YtfoinoegabcigaaDoorAskD
import Derived.Test.YtfoinoegabcigaaDoorG14
set_option linter.unusedVariables false
set_option linter.unusedSimpArgs false
namespace Go.Proofs.YtfoinoegabcigaaDoor
open Go.RowKit
set_option maxHeartbeats 2000000
set_option maxRecDepth 100000

theorem askCells_one (qs : List AskM) : ∀ u ∈ qs.flatMap askCells, u.oneCell' = true := by
  intro u hu
  obtain ⟨a, _, hu⟩ := List.mem_flatMap.1 hu
  simp only [askCells, List.mem_cons, List.not_mem_nil, or_false] at hu
  rcases hu with rfl | rfl | rfl <;> rfl
/-- questions, appended to questions of the call's own -/
theorem WL_appendA {n : Nat} {f : Env} {w w0 : World} {ops : Array Oper} {K : Env → World → Prop} {rest : List Oper} {d : Nat} {ty : TypeId} {pos : String} {af : Array Edge} {s x : Operand} {v y : Value} {qs1 qs2 : List AskM} (hs : ev f s = v) (ha : LAcc w0.heap.size w 37 askCells 3 v qs1) (hg : Grows w0 w) (hx : ev f x = y) (hb : ListAt w askCells 3 y qs2) (hn1 : qs1.length + qs2.length ≤ 2097152)
    (h : ∀ v' w', LAcc w0.heap.size w' 37 askCells 3 v' (qs1 ++ qs2) → Grows w0 w' → WL n Tryd.prog ops K rest (upd f d v') w') (hn : Nat.blt d n = true := by rfl) :
    WL n Tryd.prog ops K (⟨some d, .call ⟨.builtin .append, #[s, x], #[29, 29]⟩, ty, pos, af, none⟩ :: rest) f w := by
  refine WL_append (t := 29) hs ha.acc.own hx hb.2 (askCells_one qs2) ⟨by omega, by omega, by omega⟩ (fun v' w' hgr => ?_) hn
  refine h v' w' ⟨?_, fun _ _ => rfl⟩ (ha.acc.below hgr hg.size hg)
  have := ha.acc.grew hgr hg.size
  rw [List.length_append, List.flatMap_append]
  exact this
theorem long_any (qs : List AskM) : (qs.any fun a => decide (1 < a.name.length)) = true → ∃ a ∈ qs, 1 < a.name.length := by
  intro h
  obtain ⟨a, ha, h1⟩ := List.any_eq_true.1 h
  exact ⟨a, ha, of_decide_eq_true h1⟩
end Go.Proofs.YtfoinoegabcigaaDoor
