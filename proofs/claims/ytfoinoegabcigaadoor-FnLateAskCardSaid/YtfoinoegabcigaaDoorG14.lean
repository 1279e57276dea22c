/- Questions that are asked twice are shorter with a map: on plain data. No program is in sight. -/
import Derived.Test.YtfoinoegabcigaaDoorG1
set_option linter.unusedVariables false
set_option linter.unusedSimpArgs false
namespace Go.Proofs.YtfoinoegabcigaaDoor

theorem look_append {m : CMap} {k : Bytes} (h : lookC m k ≠ none) (x : CMap) : lookC (m ++ x) k ≠ none := by
  unfold lookC at *
  rw [List.find?_append]
  cases hf : m.find? (·.1 == k) with
  | none => rw [hf] at h; simp at h
  | some y => simp
theorem look_ext {m : CMap} {k : Bytes} {c : Option CMap} (h : lookC m k ≠ none) (hx : Ext (some m) c) : ∃ m', c = some m' ∧ lookC m' k ≠ none := by
  obtain ⟨x, rfl⟩ := hx
  exact ⟨_, rfl, look_append h x⟩
theorem okLoop_head {s : Bytes} (h : okLoop s 0 = some 0) (h1 : 0 < s.length) : ∃ b r, s = b :: r ∧ b ≠ 46 ∧ okLoop r 1 = some 0 := by
  cases s with
  | nil => simp at h1
  | cons b r =>
    unfold okLoop at h
    by_cases hb : b = 46
    · simp [hb] at h
    · rw [if_pos hb] at h
      exact ⟨b, r, rfl, hb, h⟩
/-- a name that is packed early is in the map behind it -/
theorem packN_in {s : Bytes} (h : nameOk s = true) (h1 : 1 < s.length) (pos : Nat) (hp : pos ≤ 16383) (m : CMap) (o : Bytes) (c : Option CMap) (e : packN s pos (some m) = .ok o c) : ∃ m', c = some m' ∧ lookC m' s ≠ none := by
  rcases nameOk_cases h with rfl | ⟨h0, _, h2⟩
  · simp at h1
  · rw [packN_scan h0 h1 h2] at e
    obtain ⟨b, r, rfl, hb, hr⟩ := okLoop_head h0 (by omega)
    unfold scan at e
    simp only [hb, if_false, List.length_nil, if_true] at e
    cases hl : lookC m (b :: r) with
    | some p =>
      rw [hl] at e
      simp only [PR.ok.injEq] at e
      exact ⟨m, e.2.symm, by rw [hl]; simp⟩
    | none =>
      rw [hl] at e
      simp only [Nat.add_zero] at e
      rw [if_pos hp] at e
      obtain ⟨o2, c2, e2, _, x2⟩ := scan_okC pos r [b] [] (some (m ++ [(b :: r, pos)])) hr
      rw [e2] at e
      simp only [PR.ok.injEq] at e
      rw [e.2] at x2
      refine look_ext (m := m ++ [(b :: r, pos)]) ?_ x2
      unfold lookC
      simp [List.find?_append]
/-- a name in the map is packed as two bytes -/
theorem packN_hit {s : Bytes} (h : nameOk s = true) (h1 : 1 < s.length) (pos : Nat) (m : CMap) (hl : lookC m s ≠ none) : ∃ o, packN s pos (some m) = .ok o (some m) ∧ o.length = 2 := by
  rcases nameOk_cases h with rfl | ⟨h0, _, h2⟩
  · simp at h1
  · rw [packN_scan h0 h1 h2]
    obtain ⟨b, r, rfl, hb, hr⟩ := okLoop_head h0 (by omega)
    unfold scan
    simp only [hb, if_false, List.length_nil, if_true]
    cases hl' : lookC m (b :: r) with
    | none => exact absurd hl' hl
    | some p => exact ⟨_, rfl, rfl⟩
theorem ask_step (K : KindM) {a : AskM} (h : nameOk a.name = true) (m : MSt) (h2 : m.sec = 2) (hn : m.q < 65535) {o : Bytes} {c' : Option CMap} (e1 : packN a.name m.out.length m.comp = .ok o c') :
    m.step K (stepA a) = (.none, { m with comp := c', out := m.out ++ (o ++ two a.type ++ two a.cls), q := m.q + 1 }) := by
  show m.ask a = _
  unfold MSt.ask
  rw [if_neg (by omega), if_neg (by omega), take255 h, e1]
  simp only
  rw [if_neg (by unfold MSt.count; rw [if_pos h2]; omega)]
  unfold MSt.counted
  rw [if_pos h2]
  simp only [List.append_assoc]
theorem asks_in (K : KindM) : ∀ (as : List AskM) (m : MSt) (mm : CMap), m.comp = some mm → (as.all fun a => nameOk a.name) = true → m.sec = 2 → m.q + as.length < 65536 → m.out.length + (as.flatMap askWire).length ≤ 16383 →
    ∃ m' mm', MSt.steps K m (as.map stepA) = (List.replicate as.length .none, m') ∧ m'.comp = some mm' ∧ m'.out.length ≤ m.out.length + (as.flatMap askWire).length ∧ m'.sec = 2 ∧ m'.q = m.q + as.length ∧ Ext (some mm) (some mm') ∧ ∀ a ∈ as, 1 < a.name.length → lookC mm' a.name ≠ none
  | [], m, mm, hc, _, h2, _, _ => ⟨m, mm, rfl, hc, by simp, h2, by simp, Ext.refl _, by simp⟩
  | a :: as, m, mm, hc, ha, h2, hn, hl => by
    rw [List.all_cons, Bool.and_eq_true] at ha
    simp only [List.length_cons] at hn
    simp only [List.flatMap_cons, List.length_append] at hl
    obtain ⟨o, c1, e1, l1, x1⟩ := packN_okC ha.1 m.out.length m.comp
    have es := ask_step K ha.1 m h2 (by omega) e1
    rw [hc] at x1
    obtain ⟨x, rfl⟩ := x1
    have hw : (askWire a).length = (wire a.name).length + 4 := by simp [askWire, two_length]
    obtain ⟨m', mm', e, hc', hl', hs', hq', hx', hin⟩ := asks_in K as { m with comp := some (mm ++ x), out := m.out ++ (o ++ two a.type ++ two a.cls), q := m.q + 1 } (mm ++ x) rfl ha.2 h2 (by simp only; omega) (by simp only [List.length_append, two_length]; omega)
    refine ⟨m', mm', ?_, hc', ?_, hs', by rw [hq']; simp; omega, Ext.trans ⟨x, rfl⟩ hx', ?_⟩
    · simp only [List.map_cons, steps_cons, es, e, List.length_cons, List.replicate_succ]
    · simp only [List.length_append, two_length, List.flatMap_cons] at hl' ⊢
      omega
    · intro b hb h1
      rcases List.mem_cons.1 hb with rfl | hb
      · rw [hc] at e1
        obtain ⟨m2, hm2, hk⟩ := packN_in ha.1 h1 m.out.length (by omega) mm o _ e1
        cases hm2
        obtain ⟨m3, hm3, hk3⟩ := look_ext hk hx'
        cases hm3
        exact hk3
      · exact hin b hb h1
theorem asks_less (K : KindM) : ∀ (as : List AskM) (m : MSt) (mm : CMap), m.comp = some mm → (as.all fun a => nameOk a.name) = true → m.sec = 2 → m.q + as.length < 65536 → (∃ a ∈ as, 1 < a.name.length ∧ lookC mm a.name ≠ none) →
    ∃ m', MSt.steps K m (as.map stepA) = (List.replicate as.length .none, m') ∧ m'.out.length < m.out.length + (as.flatMap askWire).length ∧ m.out.length ≤ m'.out.length
  | [], _, _, _, _, _, _, h => by obtain ⟨a, h, _⟩ := h; cases h
  | a :: as, m, mm, hc, ha, h2, hn, hex => by
    rw [List.all_cons, Bool.and_eq_true] at ha
    simp only [List.length_cons] at hn
    have hw : (askWire a).length = (wire a.name).length + 4 := by simp [askWire, two_length]
    obtain ⟨b, hb, h1, hk⟩ := hex
    rcases List.mem_cons.1 hb with rfl | hb
    · obtain ⟨o, e1, l1⟩ := packN_hit ha.1 h1 m.out.length mm hk
      rw [← hc] at e1
      have es := ask_step K ha.1 m h2 (by omega) e1
      obtain ⟨m', e, a2, _⟩ := asks_fine K as { m with comp := m.comp, out := m.out ++ (o ++ two b.type ++ two b.cls), q := m.q + 1 } ha.2 h2 (by simp only; omega)
      obtain ⟨x, f, l⟩ := a2.out
      have hwl := (wire_length ha.1).2 h1
      refine ⟨m', ?_, ?_, ?_⟩
      · simp only [List.map_cons, steps_cons, es, e, List.length_cons, List.replicate_succ]
      · rw [f]
        simp only [List.length_append, two_length, List.flatMap_cons]
        omega
      · rw [f]
        simp only [List.length_append]
        omega
    · obtain ⟨o, c1, e1, l1, x1⟩ := packN_okC ha.1 m.out.length m.comp
      have es := ask_step K ha.1 m h2 (by omega) e1
      rw [hc] at x1
      obtain ⟨x, rfl⟩ := x1
      obtain ⟨m', e, l, l'⟩ := asks_less K as { m with comp := some (mm ++ x), out := m.out ++ (o ++ two a.type ++ two a.cls), q := m.q + 1 } (mm ++ x) rfl ha.2 h2 (by simp only; omega) ⟨b, hb, h1, look_append hk x⟩
      refine ⟨m', ?_, ?_, ?_⟩
      · simp only [List.map_cons, steps_cons, es, e, List.length_cons, List.replicate_succ]
      · simp only [List.length_append, two_length, List.flatMap_cons] at l ⊢
        omega
      · simp only [List.length_append] at l'
        omega
theorem twice_law (K : KindM) (k : Nat) (h : HeadM) (asks : List AskM) (hok : MsgOk k ⟨h, asks ++ asks, [], [], []⟩) (hlong : ∃ a ∈ asks, 1 < a.name.length) (hl : (msgWire k ⟨h, asks ++ asks, [], [], []⟩).length ≤ 16000) :
    ∃ m', MSt.steps K .first (stepsM true (asks ++ asks) []) = (List.replicate ((asks ++ asks).length + 2) .none, m') ∧ (m'.final h).length < (msgWire k ⟨h, asks ++ asks, [], [], []⟩).length := by
  have hna := hok.na
  simp only [List.length_append] at hna
  have ha : (asks.all fun a => nameOk a.name) = true := by
    have := hok.asks
    simp only [List.all_append, Bool.and_eq_true] at this
    exact this.1
  simp only [msgWire, List.length_append, headWire, hdr_length, List.flatMap_append] at hl
  obtain ⟨m1, mm1, e1, c1, l1, s1, q1, x1, in1⟩ := asks_in K asks ⟨zeros12, 2, 0, 0, 0, 0, some []⟩ [] rfl ha rfl (by simp only; omega) (by simp only [show zeros12.length = 12 from rfl]; omega)
  obtain ⟨a, ham, h1⟩ := hlong
  obtain ⟨m2, e2, l2, l2'⟩ := asks_less K asks m1 mm1 c1 ha s1 (by rw [q1]; simp only; omega) ⟨a, ham, h1, in1 a ham h1⟩
  refine ⟨m2, ?_, ?_⟩
  · rw [show stepsM true (asks ++ asks) [] = stepS 1 :: stepS ((2 : Nat) : Int) :: ((asks ++ asks).map stepA ++ []) from rfl]
    rw [steps_cons, show MSt.first.step K (stepS 1) = (.none, { MSt.first with comp := some [] }) from rfl, steps_cons, start_step K _ 2 (by decide) (by omega) (by omega), List.append_nil, List.map_append, steps_append]
    have e1' : MSt.steps K { MSt.first with comp := some [], sec := 2 } (asks.map stepA) = (List.replicate asks.length .none, m1) := e1
    simp only [e1', e2]
    simp [List.replicate_succ]
  · have ho : 12 ≤ m2.out.length := by
      have h12 : 12 ≤ m1.out.length := by
        obtain ⟨m1', e1', a1, _⟩ := asks_fine K asks ⟨zeros12, 2, 0, 0, 0, 0, some []⟩ ha rfl (by simp only; omega)
        rw [e1] at e1'
        simp only [Prod.mk.injEq, true_and] at e1'
        subst e1'
        obtain ⟨x, f, _⟩ := a1.out
        rw [f]
        simp [zeros12]
      omega
    simp only [MSt.final]
    rw [put_length _ _ _ (by rw [hdr_length]; omega)]
    simp only [msgWire, List.length_append, headWire, hdr_length, List.flatMap_append]
    simp only [show zeros12.length = 12 from rfl] at l1
    omega
end Go.Proofs.YtfoinoegabcigaaDoor
