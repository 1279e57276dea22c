/- Laws of messages of questions alone, on plain data. No program is in sight. -/
import Derived.Test.YtfoinoegabcigaaDoorG14
import Derived.Test.YtfoinoegabcigaaDoorG1
set_option linter.unusedVariables false
set_option linter.unusedSimpArgs false
namespace Go.Proofs.YtfoinoegabcigaaDoor

theorem headBuf_law (K : KindM) (h : HeadM) : (MSt.steps K .first [stepS 1]).2.final h = hdr h.id h.bits 0 0 0 0 := rfl
theorem back_law (K : KindM) (h : HeadM) (a b : Nat) (hb : 2 ≤ b) (hab : b < a) (ha : a ≤ 5) :
    (MSt.steps K .first [stepS (a : Int), stepS (b : Int)]).1 = [.none, .done] ∧ (MSt.steps K .first [stepS (a : Int), stepS (b : Int)]).2.final h = hdr h.id h.bits 0 0 0 0 := by
  have hk : (a = 3 ∧ b = 2) ∨ (a = 4 ∧ b = 2) ∨ (a = 5 ∧ b = 2) ∨ (a = 4 ∧ b = 3) ∨ (a = 5 ∧ b = 3) ∨ (a = 5 ∧ b = 4) := by omega
  rcases hk with ⟨rfl, rfl⟩ | ⟨rfl, rfl⟩ | ⟨rfl, rfl⟩ | ⟨rfl, rfl⟩ | ⟨rfl, rfl⟩ | ⟨rfl, rfl⟩ <;> exact ⟨rfl, rfl⟩
theorem late_law (K : KindM) (h : HeadM) (a : AskM) (ha : nameOk a.name = true) (s : Nat) (h3 : 3 ≤ s) (h5 : s ≤ 5) :
    (MSt.steps K .first [stepS 2, stepA a, stepS (s : Int), stepA a]).1 = [.none, .none, .none, .done] ∧ (MSt.steps K .first [stepS 2, stepA a, stepS (s : Int), stepA a]).2.final h = msgWire 0 ⟨h, [a], [], [], []⟩ := by
  have e2 : ∀ m : MSt, m.sec = s → m.step K (stepA a) = (.done, m) := by
    intro m hm
    show m.ask a = _
    unfold MSt.ask
    rw [if_neg (by omega), if_pos (by omega)]
  have e : MSt.steps K .first [stepS 2, stepA a, stepS (s : Int), stepA a] = ([.none, .none, .none, .done], ⟨zeros12 ++ askWire a, s, 1, 0, 0, 0, none⟩) := by
    have e1 := ask_step K ha { MSt.first with sec := 2 } rfl (by decide) (o := wire a.name) (c' := none) (packN_wire ha _)
    rw [steps_cons, show stepS 2 = stepS ((2 : Nat) : Int) from rfl, start_step K _ 2 (by decide) (by omega) (by omega), steps_cons]
    simp only [e1]
    rw [steps_cons, start_step K _ s (by simp only; omega) (by omega) (by omega), steps_cons, e2 _ rfl]
    rfl
  rw [e]
  refine ⟨rfl, ?_⟩
  simp only [MSt.final, msgWire, headWire]
  rw [put_first _ _ (hdr_length _ _ _ _ _ _)]
  simp
/-! where there are no records, the kind does not matter -/
theorem step_norec (K K' : KindM) (m : MSt) (s : StepM) (h : s.act ≠ 7) : m.step K s = m.step K' s := by simp only [MSt.step, if_neg h]
theorem steps_norec (K K' : KindM) : ∀ (ss : List StepM) (m : MSt), (∀ s ∈ ss, s.act ≠ 7) → MSt.steps K m ss = MSt.steps K' m ss
  | [], _, _ => rfl
  | s :: ss, m, h => by rw [steps_cons, steps_cons, step_norec K K' m s (h s (by simp)), steps_norec K K' ss _ (fun t ht => h t (by simp [ht]))]
theorem asks_norec (short : Bool) (qs : List AskM) : (∀ s ∈ stepsM short qs [], s.act ≠ 7) ∧ (∀ s ∈ stepsM short qs [[], [], []], s.act ≠ 7) := by
  have hq : ∀ s ∈ qs.map stepA, s.act ≠ 7 := by
    intro s hs
    obtain ⟨a, _, rfl⟩ := List.mem_map.1 hs
    simp [stepA]
  constructor
  · intro s hs
    simp only [stepsM, secsM, List.mem_append, List.mem_cons, List.append_nil] at hs
    rcases hs with hs | rfl | hs
    · cases short
      · simp at hs
      · obtain rfl : s = stepS 1 := by simpa using hs
        decide
    · decide
    · exact hq s hs
  · intro s hs
    simp only [stepsM, secsM, List.mem_append, List.mem_cons, List.map_nil, List.nil_append, List.append_nil, List.not_mem_nil, or_false] at hs
    rcases hs with (hs | rfl | hs) | rfl | rfl | rfl
    · cases short
      · simp at hs
      · obtain rfl : s = stepS 1 := by simpa using hs
        decide
    · decide
    · exact hq s hs
    · decide
    · decide
    · decide
theorem msgWire_none (k k' : Nat) (h : HeadM) (qs : List AskM) : msgWire k ⟨h, qs, [], [], []⟩ = msgWire k' ⟨h, qs, [], [], []⟩ := by simp [msgWire]
theorem MsgOk.none {k : Nat} (k' : Nat) {h : HeadM} {qs : List AskM} (m : MsgOk k ⟨h, qs, [], [], []⟩) : MsgOk k' ⟨h, qs, [], [], []⟩ :=
  ⟨m.asks, rfl, rfl, rfl, m.head, m.na, m.n1, m.n2, m.n3, by simp [sumB]⟩
end Go.Proofs.YtfoinoegabcigaaDoor
