/- Questions that are asked twice are shorter with a map: on plain data. No program is in sight. -/
import Derived.Test.YtfoinoegabcigaaDoorG1
set_option linter.unusedVariables false
set_option linter.unusedSimpArgs false
namespace Go.Proofs.YtfoinoegabcigaaDoor

theorem look_append {m : CMap} {k : Bytes} (h : lookC m k ≠ none) (x : CMap) : lookC (m ++ x) k ≠ none := by
  unfold lookC at *
  rw [List.find?_append]
  cases hf : m.find? (·.1 == k) with
  | none => rw [hf] at h; simp at h
  | some y => simp
theorem look_ext {m : CMap} {k : Bytes} {c : Option CMap} (h : lookC m k ≠ none) (hx : Ext (some m) c) : ∃ m', c = some m' ∧ lookC m' k ≠ none := by
  obtain ⟨x, rfl⟩ := hx
  exact ⟨_, rfl, look_append h x⟩
theorem okLoop_head {s : Bytes} (h : okLoop s 0 = some 0) (h1 : 0 < s.length) : ∃ b r, s = b :: r ∧ b ≠ 46 ∧ okLoop r 1 = some 0 := by
  cases s with
  | nil => simp at h1
  | cons b r =>
    unfold okLoop at h
    by_cases hb : b = 46
    · simp [hb] at h
    · rw [if_pos hb] at h
      exact ⟨b, r, rfl, hb, h⟩
/-- a name that is packed early is in the map behind it -/
theorem packN_in {s : Bytes} (h : nameOk s = true) (h1 : 1 < s.length) (pos : Nat) (hp : pos ≤ 16383) (m : CMap) (o : Bytes) (c : Option CMap) (e : packN s pos (some m) = .ok o c) : ∃ m', c = some m' ∧ lookC m' s ≠ none := by
  rcases nameOk_cases h with rfl | ⟨h0, _, h2⟩
  · simp at h1
  · rw [packN_scan h0 h1 h2] at e
    obtain ⟨b, r, rfl, hb, hr⟩ := okLoop_head h0 (by omega)
    unfold scan at e
    simp only [hb, if_false, List.length_nil, if_true] at e
    cases hl : lookC m (b :: r) with
    | some p =>
      rw [hl] at e
      simp only [PR.ok.injEq] at e
      exact ⟨m, e.2.symm, by rw [hl]; simp⟩
    | none =>
      rw [hl] at e
      simp only [Nat.add_zero] at e
      rw [if_pos hp] at e
      obtain ⟨o2, c2, e2, _, x2⟩ := scan_okC pos r [b] [] (some (m ++ [(b :: r, pos)])) hr
      rw [e2] at e
      simp only [PR.ok.injEq] at e
      rw [e.2] at x2
      refine look_ext (m := m ++ [(b :: r, pos)]) ?_ x2
      unfold lookC
      simp [List.find?_append]
/-- a name in the map is packed as two bytes -/
theorem packN_hit {s : Bytes} (h : nameOk s = true) (h1 : 1 < s.length) (pos : Nat) (m : CMap) (hl : lookC m s ≠ none) : ∃ o, packN s pos (some m) = .ok o (some m) ∧ o.length = 2 := by
  rcases nameOk_cases h with rfl | ⟨h0, _, h2⟩
  · simp at h1
  · rw [packN_scan h0 h1 h2]
    obtain ⟨b, r, rfl, hb, hr⟩ := okLoop_head h0 (by omega)
    unfold scan
    simp only [hb, if_false, List.length_nil, if_true]
    cases hl' : lookC m (b :: r) with
    | none => exact absurd hl' hl
    | some p => exact ⟨_, rfl, rfl⟩
theorem ask_step (K : KindM) {a : AskM} (h : nameOk a.name = true) (m : MSt) (h2 : m.sec = 2) (hn : m.q < 65535) {o : Bytes} {c' : Option CMap} (e1 : packN a.name m.out.length m.comp = .ok o c') :
    m.step K (stepA a) = (.none, { m with comp := c', out := m.out ++ (o ++ two a.type ++ two a.cls), q := m.q + 1 }) := by
  show m.ask a = _
  unfold MSt.ask
  rw [if_neg (by omega), if_neg (by omega), take255 h, e1]
  simp only
  rw [if_neg (by unfold MSt.count; rw [if_pos h2]; omega)]
  unfold MSt.counted
  rw [if_pos h2]
  simp only [List.append_assoc]
theorem asks_in (K : KindM) : ∀ (as : List AskM) (m : MSt) (mm : CMap), m.comp = some mm → (as.all fun a => nameOk a.name) = true → m.sec = 2 → m.q + as.length < 65536 → m.out.length + (as.flatMap askWire).length ≤ 16383 →
    ∃ m' mm', MSt.steps K m (as.map stepA) = (List.replicate as.length .none, m') ∧ m'.comp = some mm' ∧ m'.out.length ≤ m.out.length + (as.flatMap askWire).length ∧ m'.sec = 2 ∧ m'.q = m.q + as.length ∧ Ext (some mm) (some mm') ∧ ∀ a ∈ as, 1 < a.name.length → lookC mm' a.name ≠ none
  | [], m, mm, hc, _, h2, _, _ => ⟨m, mm, rfl, hc, by simp, h2, by simp, Ext.refl _, by simp⟩
  | a :: as, m, mm, hc, ha, h2, hn, hl => by
    rw [List.all_cons, Bool.and_eq_true] at ha
    simp only [List.length_cons] at hn
    simp only [List.flatMap_cons, List.length_append] at hl
    obtain ⟨o, c1, e1, l1, x1⟩ := packN_okC ha.1 m.out.length m.comp
    have es := ask_step K ha.1 m h2 (by omega) e1
    rw [hc] at x1
    obtain ⟨x, rfl⟩ := x1
    have hw : (askWire a).length = (wire a.name).length + 4 := by simp [askWire, two_length]
    obtain ⟨m', mm', e, hc', hl', hs', hq', hx', hin⟩ := asks_in K as { m with comp := some (mm ++ x), out := m.out ++ (o ++ two a.type ++ two a.cls), q := m.q + 1 } (mm ++ x) rfl ha.2 h2 (by simp only; omega) (by simp only [List.length_append, two_length]; omega)
    refine ⟨m', mm', ?_, hc', ?_, hs', by rw [hq']; simp; omega, Ext.trans ⟨x, rfl⟩ hx', ?_⟩
    · simp only [List.map_cons, steps_cons, es, e, List.length_cons, List.replicate_succ]
    · simp only [List.length_append, two_length, List.flatMap_cons] at hl' ⊢
      omega
    · intro b hb h1
      rcases List.mem_cons.1 hb with rfl | hb
      · rw [hc] at e1
        obtain ⟨m2, hm2, hk⟩ := packN_in ha.1 h1 m.out.length (by omega) mm o _ e1
        cases hm2
        obtain ⟨m3, hm3, hk3⟩ := look_ext hk hx'
        cases hm3
        exact hk3
      · exact hin b hb h1
theorem asks_less (K : KindM) : ∀ (as : List AskM) (m : MSt) (mm : CMap), m.comp = some mm → (as.all fun a => nameOk a.name) = true → m.sec = 2 → m.q + as.length < 65536 → (∃ a ∈ as, 1 < a.name.length ∧ lookC mm a.name ≠ none) →
    ∃ m', MSt.steps K m (as.map stepA) = (List.replicate as.length .none, m') ∧ m'.out.length < m.out.length + (as.flatMap askWire).length ∧ m.out.length ≤ m'.out.length
  | [], _, _, _, _, _, _, h => by obtain ⟨a, h, _⟩ := h; cases h
  | a :: as, m, mm, hc, ha, h2, hn, hex => by
    rw [List.all_cons, Bool.and_eq_true] at ha
    simp only [List.length_cons] at hn
    have hw : (askWire a).length = (wire a.name).length + 4 := by simp [askWire, two_length]
    obtain ⟨b, hb, h1, hk⟩ := hex
    rcases List.mem_cons.1 hb with rfl | hb
    · obtain ⟨o, e1, l1⟩ := packN_hit ha.1 h1 m.out.length mm hk
      rw [← hc] at e1
      have es := ask_step K ha.1 m h2 (by omega) e1
      obtain ⟨m', e, a2, _⟩ := asks_fine K as { m with comp := m.comp, out := m.out ++ (o ++ two b.type ++ two b.cls), q := m.q + 1 } ha.2 h2 (by simp only; omega)
      obtain ⟨x, f, l⟩ := a2.out
      have hwl := (wire_length ha.1).2 h1
      refine ⟨m', ?_, ?_, ?_⟩
      · simp only [List.map_cons, steps_cons, es, e, List.length_cons, List.replicate_succ]
      · rw [f]
        simp only [List.length_append, two_length, List.flatMap_cons]
        omega
      · rw [f]
        simp only [List.length_append]
        omega
    · obtain ⟨o, c1, e1, l1, x1⟩ := packN_okC ha.1 m.out.length m.comp
      have es := ask_step K ha.1 m h2 (by omega) e1
      rw [hc] at x1
      obtain ⟨x, rfl⟩ := x1
      obtain ⟨m', e, l, l'⟩ := asks_less K as { m with comp := some (mm ++ x), out := m.out ++ (o ++ two a.type ++ two a.cls), q := m.q + 1 } (mm ++ x) rfl ha.2 h2 (by simp only; omega) ⟨b, hb, h1, look_append hk x⟩
      refine ⟨m', ?_, ?_, ?_⟩
      · simp only [List.map_cons, steps_cons, es, e, List.length_cons, List.replicate_succ]
      · simp only [List.length_append, two_length, List.flatMap_cons] at l ⊢
        omega
      · simp only [List.length_append] at l'
        omega
theorem twice_law (K : KindM) (k : Nat) (h : HeadM) (asks : List AskM) (hok : MsgOk k ⟨h, asks ++ asks, [], [], []⟩) (hlong : ∃ a ∈ asks, 1 < a.name.length) (hl : (msgWire k ⟨h, asks ++ asks, [], [], []⟩).length ≤ 16000) :
    ∃ m', MSt.steps K .first (stepsM true (asks ++ asks) []) = (List.replicate ((asks ++ asks).length + 2) .none, m') ∧ (m'.final h).length < (msgWire k ⟨h, asks ++ asks, [], [], []⟩).length := by
  have hna := hok.na
  simp only [List.length_append] at hna
  have ha : (asks.all fun a => nameOk a.name) = true := by
    have := hok.asks
    simp only [List.all_append, Bool.and_eq_true] at this
    exact this.1
  simp only [msgWire, List.length_append, headWire, hdr_length, List.flatMap_append] at hl
  obtain ⟨m1, mm1, e1, c1, l1, s1, q1, x1, in1⟩ := asks_in K asks ⟨zeros12, 2, 0, 0, 0, 0, some []⟩ [] rfl ha rfl (by simp only; omega) (by simp only [show zeros12.length = 12 from rfl]; omega)
  obtain ⟨a, ham, h1⟩ := hlong
  obtain ⟨m2, e2, l2, l2'⟩ := asks_less K asks m1 mm1 c1 ha s1 (by rw [q1]; simp only; omega) ⟨a, ham, h1, in1 a ham h1⟩
  refine ⟨m2, ?_, ?_⟩
  · rw [show stepsM true (asks ++ asks) [] = stepS 1 :: stepS ((2 : Nat) : Int) :: ((asks ++ asks).map stepA ++ []) from rfl]
    rw [steps_cons, show MSt.first.step K (stepS 1) = (.none, { MSt.first with comp := some [] }) from rfl, steps_cons, start_step K _ 2 (by decide) (by omega) (by omega), List.append_nil, List.map_append, steps_append]
    have e1' : MSt.steps K { MSt.first with comp := some [], sec := 2 } (asks.map stepA) = (List.replicate asks.length .none, m1) := e1
    simp only [e1', e2]
    simp [List.replicate_succ]
  · have ho : 12 ≤ m2.out.length := by
      have h12 : 12 ≤ m1.out.length := by
        obtain ⟨m1', e1', a1, _⟩ := asks_fine K asks ⟨zeros12, 2, 0, 0, 0, 0, some []⟩ ha rfl (by simp only; omega)
        rw [e1] at e1'
        simp only [Prod.mk.injEq, true_and] at e1'
        subst e1'
        obtain ⟨x, f, _⟩ := a1.out
        rw [f]
        simp [zeros12]
      omega
    simp only [MSt.final]
    rw [put_length _ _ _ (by rw [hdr_length]; omega)]
    simp only [msgWire, List.length_append, headWire, hdr_length, List.flatMap_append]
    simp only [show zeros12.length = 12 from rfl] at l1
    omega
end Go.Proofs.YtfoinoegabcigaaDoor

/- What is packed with a map is read as what was given: on plain data. No program is in sight. -/
namespace Go.Proofs.YtfoinoegabcigaaDoor

/-- F reads, from a place on, as a name: 'acc' is behind us, 'start' is where the part began, j: whether a pointer was met; e: where the reader goes on -/
inductive Rd (F : Bytes) : Nat → Nat → Nat → Bytes → Bool → Bytes → Nat → Prop
  | zero {p start : Nat} {acc : Bytes} {j : Bool} {e : Nat} : F[p]? = some 0 → (j = false → e = p + 1) → Rd F 0 p start acc j (if acc = [] then [46] else acc) e
  | label {n p start : Nat} {acc : Bytes} {j : Bool} {res : Bytes} {e : Nat} (lab : Bytes) : F[p]? = some (UInt8.ofNat lab.length) → 1 ≤ lab.length → lab.length < 64 → (∀ i x, lab[i]? = some x → F[p + 1 + i]? = some x) → (46 : UInt8) ∉ lab →
      Rd F n (p + 1 + lab.length) start (acc ++ lab ++ [46]) j res e → Rd F (n + 1) p start acc j res e
  | ptr {n p start : Nat} {acc : Bytes} {j : Bool} {res : Bytes} {e : Nat} (q : Nat) : F[p]? = some (UInt8.ofNat (192 + q / 256)) → F[p + 1]? = some (UInt8.ofNat (q % 256)) → q ≤ 16383 → q < start → 12 ≤ q → (j = false → e = p + 2) →
      Rd F n q q acc true res e → Rd F (n + 1) p start acc j res e
def Sub12 (G F : Bytes) : Prop := ∀ i x, 12 ≤ i → G[i]? = some x → F[i]? = some x
theorem Sub12.refl (F : Bytes) : Sub12 F F := fun _ _ _ h => h
theorem Sub12.trans {A B C : Bytes} (h : Sub12 A B) (h2 : Sub12 B C) : Sub12 A C := fun i x hi h0 => h2 i x hi (h i x hi h0)
theorem Sub12.app (A B : Bytes) : Sub12 A (A ++ B) := fun i x _ h => by
  rw [List.getElem?_append_left (List.getElem?_eq_some_iff.1 h).1]
  exact h
theorem Sub12.put (A h : Bytes) (hl : h.length = 12) : Sub12 A (put A 0 h) := fun i x hi h0 => by
  unfold Go.Proofs.YtfoinoegabcigaaDoor.put
  rw [List.take_zero, List.nil_append, List.getElem?_append_right (by omega), List.getElem?_drop, hl]
  rw [show 0 + 12 + (i - 12) = i by omega]
  exact h0
theorem Rd.sub {F G : Bytes} (hs : Sub12 F G) : ∀ {n p start : Nat} {acc : Bytes} {j : Bool} {res : Bytes} {e : Nat}, 12 ≤ p → Rd F n p start acc j res e → Rd G n p start acc j res e := by
  intro n p start acc j res e hp h
  induction h with
  | zero h1 h2 => exact .zero (hs _ _ hp h1) h2
  | label lab h1 h2 h3 h4 h5 _ ih => exact .label lab (hs _ _ hp h1) h2 h3 (fun i x hx => hs _ _ (by omega) (h4 i x hx)) h5 (ih (by omega))
  | ptr q h1 h2 h3 h4 h5 h6 _ ih => exact .ptr q (hs _ _ hp h1) (hs _ _ (by omega) h2) h3 h4 h5 h6 (ih h5)
theorem Rd.later {F : Bytes} {n p start : Nat} {acc : Bytes} {j : Bool} {res : Bytes} {e start' : Nat} (h : Rd F n p start acc j res e) (hs : start ≤ start') : Rd F n p start' acc j res e := by
  induction h with
  | zero h1 h2 => exact .zero h1 h2
  | label lab h1 h2 h3 h4 h5 _ ih => exact .label lab h1 h2 h3 h4 h5 (ih hs)
  | ptr q h1 h2 h3 h4 h5 h6 h7 _ => exact .ptr q h1 h2 h3 (by omega) h5 h6 h7
/-- what an entry of the map is good for -/
structure Entry (F : Bytes) (lim : Nat) (x : Bytes × Nat) : Prop where
  lo : 12 ≤ x.2
  hi : x.2 ≤ 16383
  lim : x.2 < lim
  rd : ∀ acc e, ∃ n, Rd F n x.2 x.2 acc true (acc ++ x.1) e
theorem Entry.sub {F G : Bytes} {lim lim' : Nat} {x : Bytes × Nat} (h : Entry F lim x) (hs : Sub12 F G) (hl : lim ≤ lim') : Entry G lim' x :=
  ⟨h.lo, h.hi, Nat.lt_of_lt_of_le h.lim hl, fun acc e => by obtain ⟨n, hn⟩ := h.rd acc e; exact ⟨n, hn.sub hs h.lo⟩⟩
theorem look_mem {m : CMap} {k : Bytes} {p : Nat} (h : lookC m k = some p) : (k, p) ∈ m := by
  unfold lookC at h
  cases hf : m.find? (·.1 == k) with
  | none => rw [hf] at h; cases h
  | some x =>
    rw [hf] at h
    cases h
    have h1 := List.mem_of_find?_eq_some hf
    have h2 := List.find?_some hf
    simp only [beq_iff_eq] at h2
    rw [← h2]
    exact h1
theorem at_tail (B out t : Bytes) (i : Nat) : (B ++ (out ++ t))[B.length + out.length + i]? = t[i]? := by
  rw [← List.append_assoc, List.getElem?_append_right (by simp), List.length_append]
  congr 1
  omega
theorem scan_out (pos : Nat) : ∀ (rest part out : Bytes) (c : Option CMap) (o : Bytes) (c' : Option CMap), scan pos rest part out c = .ok o c' → ∃ t, o = out ++ t
  | [], part, out, c, o, c', h => by unfold scan at h; cases h; exact ⟨_, rfl⟩
  | b :: rest, part, out, c, o, c', h => by
    unfold scan at h
    split at h
    · split at h
      · cases h
      · split at h
        · cases h
        · obtain ⟨t, rfl⟩ := scan_out pos rest _ _ _ _ _ h
          exact ⟨_, List.append_assoc _ _ _⟩
    · split at h
      · split at h
        · exact scan_out pos rest _ _ _ _ _ h
        · split at h
          · cases h; exact ⟨_, rfl⟩
          · split at h
            · exact scan_out pos rest _ _ _ _ _ h
            · exact scan_out pos rest _ _ _ _ _ h
      · exact scan_out pos rest _ _ _ _ _ h
theorem scan_rd (B : Bytes) (h12 : 12 ≤ B.length) : ∀ (rest part out : Bytes) (m : CMap) (o : Bytes) (c' : Option CMap), (46 : UInt8) ∉ part → okLoop rest part.length = some 0 → scan B.length rest part out (some m) = .ok o c' →
    (∀ x ∈ m, Entry B B.length x ∨ rest.length < x.1.length) →
    ∀ F, Sub12 (B ++ o) F → (∀ start acc j e, B.length ≤ start → (acc ≠ [] ∨ part ++ rest ≠ []) → (j = false → e = B.length + o.length) → ∃ n, Rd F n (B.length + out.length) start acc j (acc ++ part ++ rest) e) ∧
      ∃ m', c' = some m' ∧ ∀ x ∈ m', x ∈ m ∨ Entry F (B.length + o.length) x
  | [], part, out, m, o, c', hd, hok, hs, hm, F, hF => by
    unfold scan at hs
    simp only [PR.ok.injEq] at hs
    obtain ⟨rfl, rfl⟩ := hs
    have hp : part = [] := by
      unfold okLoop at hok
      exact List.eq_nil_of_length_eq_zero (by simpa using hok)
    subst hp
    refine ⟨fun start acc j e _ hne he => ⟨0, ?_⟩, m, rfl, fun x hx => .inl hx⟩
    have hacc : acc ≠ [] := by simpa using hne
    have := Rd.zero (F := F) (p := B.length + out.length) (start := start) (acc := acc) (j := j) (e := e) (hF _ _ (by omega) (by have := at_tail B out [0] 0; rw [Nat.add_zero] at this; rw [this]; rfl)) (fun hj => by rw [he hj]; simp; omega)
    rw [if_neg hacc] at this
    simpa using this
  | b :: r, part, out, m, o, c', hd, hok, hs, hm, F, hF => by
    obtain ⟨t, ht⟩ := scan_out _ _ _ _ _ _ _ hs
    unfold okLoop at hok
    unfold scan at hs
    have hm' : ∀ x ∈ m, Entry B B.length x ∨ r.length < x.1.length := fun x hx => by
      rcases hm x hx with h | h
      · exact .inl h
      · right; simp at h; omega
    by_cases hb : b = 46
    · subst hb
      simp only [ne_eq, not_true_eq_false, if_false] at hok
      split at hok
      · cases hok
      · rename_i hlen
        rw [if_pos rfl, if_neg (by omega), if_neg (by omega)] at hs
        obtain ⟨h1, m', h2, h3⟩ := scan_rd B h12 r [] (out ++ UInt8.ofNat part.length :: part) m o c' (by simp) hok hs hm' F hF
        refine ⟨fun start acc j e hst _ he => ?_, m', h2, h3⟩
        obtain ⟨n, hn⟩ := h1 start (acc ++ part ++ [46]) j e hst (.inl (by simp)) he
        obtain ⟨t2, ht2⟩ := scan_out _ _ _ _ _ _ _ hs
        have hat : ∀ i, (B ++ o)[B.length + out.length + i]? = (UInt8.ofNat part.length :: part ++ t2)[i]? := fun i => by
          rw [ht2, List.append_assoc]
          exact at_tail B out _ i
        refine ⟨n + 1, .label part (hF _ _ (by omega) (by have := hat 0; simpa using this)) (by omega) (by omega) (fun i x hx => hF _ _ (by omega) ?_) hd ?_⟩
        · have := hat (1 + i)
          rw [show B.length + out.length + 1 + i = B.length + out.length + (1 + i) by omega, this, Nat.add_comm 1 i]
          simp only [List.cons_append, List.getElem?_cons_succ]
          rw [List.getElem?_append_left (List.getElem?_eq_some_iff.1 hx).1]
          exact hx
        · rw [show B.length + out.length + 1 + part.length = B.length + (out ++ UInt8.ofNat part.length :: part).length by simp; omega]
          simpa using hn
    · rw [if_pos hb] at hok
      rw [if_neg hb] at hs
      by_cases h0 : part.length = 0
      · rw [if_pos h0] at hs
        have hp : part = [] := List.eq_nil_of_length_eq_zero h0
        subst hp
        simp only at hs
        have hdb : (46 : UInt8) ∉ [b] := by simp; exact fun e => hb e.symm
        have hokb : okLoop r [b].length = some 0 := by simpa using hok
        cases hl : lookC m (b :: r) with
        | some p =>
          rw [hl] at hs
          simp only [PR.ok.injEq] at hs
          obtain ⟨rfl, rfl⟩ := hs
          have hent : Entry B B.length (b :: r, p) := by
            rcases hm _ (look_mem hl) with h | h
            · exact h
            · simp at h
          refine ⟨fun start acc j e hst _ he => ?_, m, rfl, fun x hx => .inl hx⟩
          have hBF : Sub12 B F := (Sub12.app B _).trans hF
          obtain ⟨n, hn⟩ := (hent.sub hBF (Nat.le_refl _)).rd acc e
          refine ⟨n + 1, .ptr p (hF _ _ (by omega) (by have := at_tail B out (ptrB p) 0; rw [Nat.add_zero] at this; rw [this]; rfl)) (hF _ _ (by omega) (by rw [at_tail B out (ptrB p) 1]; rfl)) hent.hi (Nat.lt_of_lt_of_le hent.lim hst) hent.lo (fun hj => by rw [he hj]; simp [ptrB]; omega) ?_⟩
          simpa using hn
        | none =>
          rw [hl] at hs
          simp only at hs
          split at hs
          · rename_i hpos
            obtain ⟨h1, m', h2, h3⟩ := scan_rd B h12 r [b] out _ o c' hdb hokb hs (by
              intro x hx
              simp only [List.mem_append, List.mem_singleton] at hx
              rcases hx with hx | rfl
              · exact hm' x hx
              · right; simp) F hF
            refine ⟨fun start acc j e hst _ he => ?_, m', h2, fun x hx => ?_⟩
            · obtain ⟨n, hn⟩ := h1 start acc j e hst (.inr (by simp)) he
              exact ⟨n, by simpa using hn⟩
            · rcases h3 x hx with h | h
              · simp only [List.mem_append, List.mem_singleton] at h
                rcases h with h | rfl
                · exact .inl h
                · refine .inr ⟨by simp only; omega, hpos, ?_, fun acc e => ?_⟩
                  · have hlt : 0 < t.length := by
                      cases t with
                      | cons _ _ => simp
                      | nil =>
                        exfalso
                        obtain ⟨n, hn⟩ := h1 B.length [] false (B.length + o.length) (Nat.le_refl _) (.inr (by simp)) (fun _ => rfl)
                        rw [List.append_nil] at ht
                        subst ht
                        have hend : ∀ {n p start : Nat} {acc : Bytes} {j : Bool} {res : Bytes} {e : Nat}, Rd F n p start acc j res e → j = false → p < e := by
                          intro n p start acc j res e h
                          induction h with
                          | zero _ h2 => intro hj; rw [h2 hj]; omega
                          | label lab _ _ _ _ _ _ ih => intro hj; have := ih hj; omega
                          | ptr q _ _ _ _ _ h6 _ _ => intro hj; rw [h6 hj]; omega
                        have := hend hn rfl
                        omega
                    rw [ht]
                    simp only [List.length_append]
                    omega
                  · obtain ⟨n, hn⟩ := h1 (B.length + out.length) acc true e (by omega) (.inr (by simp)) (by simp)
                    exact ⟨n, by simpa using hn⟩
              · exact .inr h
          · obtain ⟨h1, m', h2, h3⟩ := scan_rd B h12 r [b] out m o c' hdb hokb hs hm' F hF
            refine ⟨fun start acc j e hst _ he => ?_, m', h2, h3⟩
            obtain ⟨n, hn⟩ := h1 start acc j e hst (.inr (by simp)) he
            exact ⟨n, by simpa using hn⟩
      · rw [if_neg h0] at hs
        have hdb : (46 : UInt8) ∉ part ++ [b] := by
          simp only [List.mem_append, List.mem_singleton, not_or]
          exact ⟨hd, fun e => hb e.symm⟩
        obtain ⟨h1, m', h2, h3⟩ := scan_rd B h12 r (part ++ [b]) out m o c' hdb (by simpa using hok) hs hm' F hF
        refine ⟨fun start acc j e hst _ he => ?_, m', h2, h3⟩
        obtain ⟨n, hn⟩ := h1 start acc j e hst (.inr (by simp)) he
        exact ⟨n, by simpa using hn⟩
/-- all entries of the map are good -/
def CompRd (F : Bytes) (m : CMap) : Prop := ∀ x ∈ m, Entry F F.length x
theorem CompRd.app {F : Bytes} {m : CMap} (h : CompRd F m) (G : Bytes) : CompRd (F ++ G) m := fun x hx => (h x hx).sub (Sub12.app F G) (by simp)
theorem packN_rd {B : Bytes} (h12 : 12 ≤ B.length) {s : Bytes} (hs : nameOk s = true) {m : CMap} (hm : CompRd B m) {o : Bytes} {c' : Option CMap} (e : packN s B.length (some m) = .ok o c') :
    (∀ F, Sub12 (B ++ o) F → ∃ n, Rd F n B.length B.length [] false s (B.length + o.length)) ∧ ∃ m', c' = some m' ∧ CompRd (B ++ o) m' := by
  rcases nameOk_cases hs with rfl | ⟨h0, h1, h2⟩
  · simp only [show packN [46] B.length (some m) = .ok [0] (some m) from rfl, PR.ok.injEq] at e
    obtain ⟨rfl, rfl⟩ := e
    refine ⟨fun F hF => ⟨0, ?_⟩, m, rfl, hm.app _⟩
    have := Rd.zero (F := F) (p := B.length) (start := B.length) (acc := []) (j := false) (e := B.length + 1) (hF _ _ h12 (by simp)) (fun _ => rfl)
    simpa using this
  · rw [packN_scan h0 h1 h2] at e
    have hne : s ≠ [] := by intro e; simp [e] at h1
    have key := scan_rd B h12 s [] [] m o c' (by simp) h0 e (fun x hx => .inl (hm x hx))
    refine ⟨fun F hF => ?_, ?_⟩
    · obtain ⟨n, hn⟩ := (key F hF).1 B.length [] false (B.length + o.length) (Nat.le_refl _) (.inr (by simpa using hne)) (fun _ => rfl)
      exact ⟨n, by simpa using hn⟩
    · obtain ⟨m', hm', h3⟩ := (key (B ++ o) (Sub12.refl _)).2
      refine ⟨m', hm', fun x hx => ?_⟩
      rcases h3 x hx with h | h
      · exact (hm x h).sub (Sub12.app _ _) (by simp)
      · simpa using h
end Go.Proofs.YtfoinoegabcigaaDoor

/- Whole messages that are packed with a map, and how they are read: on plain data. No program is in sight. -/
namespace Go.Proofs.YtfoinoegabcigaaDoor

def BytesIn (F : Bytes) (p : Nat) (bs : Bytes) : Prop := ∀ i x, bs[i]? = some x → F[p + i]? = some x
theorem BytesIn.sub {F G : Bytes} {p : Nat} {bs : Bytes} (h : BytesIn F p bs) (hs : Sub12 F G) (hp : 12 ≤ p) : BytesIn G p bs := fun i x hx => hs _ _ (by omega) (h i x hx)
theorem bytesIn_mid (A bs C : Bytes) : BytesIn (A ++ (bs ++ C)) A.length bs := fun i x hx => by
  rw [List.getElem?_append_right (by omega), Nat.add_sub_cancel_left, List.getElem?_append_left (List.getElem?_eq_some_iff.1 hx).1]
  exact hx
def RdAsk (F : Bytes) (p : Nat) (a : AskM) (q : Nat) : Prop := ∃ n e, Rd F n p p [] false a.name e ∧ BytesIn F e (two a.type ++ two a.cls) ∧ q = e + 4
def RdAsks (F : Bytes) : Nat → List AskM → Nat → Prop
  | p, [], q => q = p
  | p, a :: as, q => ∃ p1, RdAsk F p a p1 ∧ RdAsks F p1 as q
def RdBody (F : Bytes) (k : Nat) (r : RecM) (p q : Nat) : Prop :=
  (k = 3 ∧ ∃ n, Rd F n p p [] false r.host q) ∨ (k = 6 ∧ BytesIn F p (two (low r.n1)) ∧ ∃ n, Rd F n (p + 2) (p + 2) [] false r.host q) ∨ (k = 13 ∧ BytesIn F p r.data ∧ q = p + r.data.length)
def RdRec (F : Bytes) (k : Nat) (p : Nat) (r : RecM) (q : Nat) : Prop :=
  ∃ n e l, Rd F n p p [] false r.name e ∧ BytesIn F e (two (typeOf k r) ++ two r.cls ++ four r.ttl ++ two (l : Nat)) ∧ l < 65536 ∧ q = e + 10 + l ∧ RdBody F k r (e + 10) q
def RdRecs (F : Bytes) (k : Nat) : Nat → List RecM → Nat → Prop
  | p, [], q => q = p
  | p, r :: rs, q => ∃ p1, RdRec F k p r p1 ∧ RdRecs F k p1 rs q
/-- a state whose map is good -/
structure Good (m : MSt) (mm : CMap) : Prop where
  len : 12 ≤ m.out.length
  comp : m.comp = some mm
  rd : CompRd m.out mm
theorem asks_rd (K : KindM) : ∀ (as : List AskM) (m : MSt) (mm : CMap), Good m mm → (as.all fun a => nameOk a.name) = true → m.sec = 2 → m.q + as.length < 65536 →
    ∃ m' mm' x, MSt.steps K m (as.map stepA) = (List.replicate as.length .none, m') ∧ Good m' mm' ∧ m' = { m with out := m.out ++ x, comp := some mm', q := m.q + as.length } ∧ ∀ F, Sub12 m'.out F → RdAsks F m.out.length as m'.out.length
  | [], m, mm, hg, _, _, _ => ⟨m, mm, [], rfl, hg, by rw [← hg.comp]; simp, fun F _ => rfl⟩
  | a :: as, m, mm, hg, ha, h2, hn => by
    rw [List.all_cons, Bool.and_eq_true] at ha
    simp only [List.length_cons] at hn
    obtain ⟨o, c1, e1, _, _⟩ := packN_okC ha.1 m.out.length m.comp
    have es := ask_step K ha.1 m h2 (by omega) e1
    rw [hg.comp] at e1
    obtain ⟨hr, mm1, rfl, hc1⟩ := packN_rd hg.len ha.1 hg.rd e1
    have hout : m.out ++ (o ++ two a.type ++ two a.cls) = (m.out ++ o) ++ (two a.type ++ two a.cls) := by simp
    obtain ⟨m', mm', x, e, g', hm', hF⟩ := asks_rd K as { m with comp := some mm1, out := m.out ++ (o ++ two a.type ++ two a.cls), q := m.q + 1 } mm1 ⟨by simp only [List.length_append]; have := hg.len; omega, rfl, by simp only [hout]; exact hc1.app _⟩ ha.2 h2 (by simp only; omega)
    refine ⟨m', mm', o ++ two a.type ++ two a.cls ++ x, ?_, g', ?_, fun F hsub => ?_⟩
    · simp only [List.map_cons, steps_cons, es, e, List.length_cons, List.replicate_succ]
    · rw [hm']
      simp [Nat.add_comm, Nat.add_left_comm]
    · have hall := hF F hsub
      simp only [List.length_append, two_length] at hall
      have hsub1 : Sub12 (m.out ++ o) F := by
        refine Sub12.trans ?_ hsub
        rw [hm']
        simp only [List.append_assoc]
        rw [← List.append_assoc]
        exact Sub12.app _ _
      obtain ⟨n, hn⟩ := hr F hsub1
      refine ⟨m.out.length + (o.length + 2 + 2), ⟨n, m.out.length + o.length, hn, ?_, by omega⟩, hall⟩
      have hb : BytesIn m'.out (m.out ++ o).length (two a.type ++ two a.cls) := by
        rw [hm']
        have := bytesIn_mid (m.out ++ o) (two a.type ++ two a.cls) x
        simpa using this
      have := hb.sub hsub (by have := hg.len; simp; omega)
      simpa using this
/-- a kind whose body, packed with a map, is read again -/
def KindRd (K : KindM) (k : Nat) : Prop := ∀ (r : RecM) (B : Bytes) (m : CMap) (b : Bytes) (c' : Option CMap), recOk k r = true → 12 ≤ B.length → CompRd B m → K.body r B.length (some m) = .ok b c' →
  (∃ m', c' = some m' ∧ CompRd (B ++ b) m') ∧ ∀ F, Sub12 (B ++ b) F → RdBody F k r B.length (B.length + b.length)
theorem rdUnknown : KindRd kUnknown 13 := by
  intro r B m b c' _ h12 hm e
  simp only [kUnknown, PR.ok.injEq] at e
  obtain ⟨rfl, rfl⟩ := e
  refine ⟨⟨m, rfl, hm.app _⟩, fun F hF => .inr (.inr ⟨rfl, ?_, rfl⟩)⟩
  have := bytesIn_mid B r.data []
  rw [List.append_nil] at this
  exact this.sub hF h12
theorem rdCNAME : KindRd kCNAME 3 := by
  intro r B m b c' hr h12 hm e
  have hh : nameOk r.host = true := by simpa [hostOk] using (recOk_parts hr).2.1
  have e' : packN (r.host.take 255) B.length (some m) = .ok b c' := e
  rw [take255 hh] at e'
  obtain ⟨h1, m', h2, h3⟩ := packN_rd h12 hh hm e'
  exact ⟨⟨m', h2, h3⟩, fun F hF => .inl ⟨rfl, h1 F hF⟩⟩
theorem rdMX : KindRd kMX 6 := by
  intro r B m b c' hr h12 hm e
  have hh : nameOk r.host = true := by simpa [hostOk] using (recOk_parts hr).2.1
  have e' : (packN (r.host.take 255) (B.length + 2) (some m)).pre (two (low r.n1)) = .ok b c' := e
  rw [take255 hh] at e'
  cases hp : packN r.host (B.length + 2) (some m) with
  | bad c => rw [hp] at e'; cases e'
  | ok o c =>
    rw [hp] at e'
    simp only [PR.pre, PR.ok.injEq] at e'
    obtain ⟨rfl, rfl⟩ := e'
    have hlen : (B ++ two (low r.n1)).length = B.length + 2 := by simp [two_length]
    rw [← hlen] at hp
    obtain ⟨h1, m', h2, h3⟩ := packN_rd (B := B ++ two (low r.n1)) (by omega) hh (hm.app _) hp
    refine ⟨⟨m', h2, by simpa using h3⟩, fun F hF => .inr (.inl ⟨rfl, ?_, ?_⟩)⟩
    · have := bytesIn_mid B (two (low r.n1)) o
      exact this.sub hF h12
    · obtain ⟨n, hn⟩ := h1 F (by simpa using hF)
      rw [hlen] at hn
      refine ⟨n, ?_⟩
      rw [List.length_append, two_length, ← Nat.add_assoc]
      exact hn
theorem rec_rd {K : KindM} {k : Nat} (hK : KindOk K k) (hR : KindRd K k) {r : RecM} (h : recOk k r = true) (m : MSt) (mm : CMap) (hg : Good m mm) (h3 : 3 ≤ m.sec) (h5 : m.sec ≤ 5) (hn : m.count < 65535) :
    ∃ m' mm' x, m.step K (stepR r) = (.none, m') ∧ Good m' mm' ∧ m' = ({ m with comp := some mm', out := m.out ++ x } : MSt).plus 1 ∧ ∀ F, Sub12 m'.out F → RdRec F k m.out.length r m'.out.length := by
  have hname := (recOk_parts h).1
  have hb := (recOk_parts h).2.2.1
  obtain ⟨o, c1, e1, _, _⟩ := packN_okC hname m.out.length m.comp
  have e1' := e1
  rw [hg.comp] at e1
  obtain ⟨hr, mm1, rfl, hc1⟩ := packN_rd hg.len hname hg.rd e1
  obtain ⟨b, c2, e2, l2, x2⟩ := hK.short r h (m.out.length + o.length + 10) mm1
  have hd10 : ∀ l : Int, (two (K.type r) ++ two r.cls ++ four r.ttl ++ two l).length = 10 := fun l => by simp [two_length, four_length]
  -- the place of the body
  have hplace : m.out.length + o.length + 10 = (m.out ++ o ++ (two (K.type r) ++ two r.cls ++ four r.ttl ++ two b.length)).length := by rw [List.length_append, List.length_append, hd10]
  have hlen12 := hg.len
  have e2' := e2
  rw [hplace] at e2
  obtain ⟨⟨mm2, hm2, hc2⟩, hbody⟩ := hR r _ mm1 b c2 h (by rw [← hplace]; omega) (hc1.app _) e2
  subst hm2
  have hout : m.out ++ (o ++ (two (K.type r) ++ two r.cls ++ four r.ttl ++ two b.length) ++ b) = (m.out ++ o ++ (two (K.type r) ++ two r.cls ++ four r.ttl ++ two b.length)) ++ b := by simp
  refine ⟨({ m with comp := some mm2, out := m.out ++ (o ++ (two (K.type r) ++ two r.cls ++ four r.ttl ++ two b.length) ++ b) } : MSt).plus 1, mm2, _, ?_, ⟨?_, ?_, ?_⟩, rfl, fun F hsub => ?_⟩
  · rw [step_rec]
    unfold MSt.rec_
    rw [if_neg (by omega), if_neg (by omega), take255 hname, e1']
    simp only
    rw [e2']
    simp only
    rw [if_neg (by omega), if_neg (by omega), counted_plus, plus_out]
    simp only [List.append_assoc]
  · rw [plus_outq]; simp only [List.length_append]; omega
  · rw [plus_comp]
  · rw [plus_outq]; simp only [hout]; exact hc2
  · rw [plus_outq] at hsub ⊢
    simp only at hsub ⊢
    have hs0 : Sub12 (m.out ++ o) F := by
      refine Sub12.trans ?_ hsub
      rw [show m.out ++ (o ++ (two (K.type r) ++ two r.cls ++ four r.ttl ++ two b.length) ++ b) = (m.out ++ o) ++ ((two (K.type r) ++ two r.cls ++ four r.ttl ++ two b.length) ++ b) by simp]
      exact Sub12.app _ _
    obtain ⟨n, hn⟩ := hr F hs0
    have hbd := hbody F (by rw [hout] at hsub; exact hsub)
    rw [← hplace] at hbd
    refine ⟨n, m.out.length + o.length, b.length, hn, ?_, by omega, ?_, ?_⟩
    · have := bytesIn_mid (m.out ++ o) (two (K.type r) ++ two r.cls ++ four r.ttl ++ two b.length) b
      rw [List.length_append, hK.type] at this
      refine BytesIn.sub this (Sub12.trans ?_ hsub) (by omega)
      rw [hK.type]
      rw [show m.out ++ (o ++ (two (typeOf k r) ++ two r.cls ++ four r.ttl ++ two b.length) ++ b) = (m.out ++ o) ++ ((two (typeOf k r) ++ two r.cls ++ four r.ttl ++ two b.length) ++ b) by simp]
      exact Sub12.refl _
    · simp only [List.length_append, two_length, four_length]; omega
    · simp only [List.length_append, two_length, four_length]
      rw [show m.out.length + (o.length + (2 + 2 + 4 + 2) + b.length) = m.out.length + o.length + 10 + b.length by omega]
      exact hbd
theorem recs_rd {K : KindM} {k : Nat} (hK : KindOk K k) (hR : KindRd K k) : ∀ (rs : List RecM) (m : MSt) (mm : CMap), Good m mm → rs.all (recOk k) = true → 3 ≤ m.sec → m.sec ≤ 5 → m.count + rs.length < 65536 →
    ∃ m' mm' x, MSt.steps K m (rs.map stepR) = (List.replicate rs.length .none, m') ∧ Good m' mm' ∧ m' = ({ m with out := m.out ++ x, comp := some mm' } : MSt).plus rs.length ∧ ∀ F, Sub12 m'.out F → RdRecs F k m.out.length rs m'.out.length
  | [], m, mm, hg, _, _, _, _ => ⟨m, mm, [], rfl, hg, by rw [← hg.comp, List.length_nil, plus_zero]; simp, fun F _ => rfl⟩
  | r :: rs, m, mm, hg, ha, h3, h5, hn => by
    rw [List.all_cons, Bool.and_eq_true] at ha
    simp only [List.length_cons] at hn
    obtain ⟨m1, mm1, x1, e1, g1, hm1, hF1⟩ := rec_rd hK hR ha.1 m mm hg h3 h5 (by omega)
    obtain ⟨m', mm', x, e, g', hm', hF⟩ := recs_rd hK hR rs m1 mm1 g1 ha.2 (by rw [hm1, plus_sec]; exact h3) (by rw [hm1, plus_sec]; exact h5) (by rw [hm1, plus_count]; simp only [MSt.count] at hn ⊢; omega)
    refine ⟨m', mm', x1 ++ x, ?_, g', ?_, fun F hsub => ⟨m1.out.length, hF1 F ?_, hF F hsub⟩⟩
    · simp only [List.map_cons, steps_cons, e1, e, List.length_cons, List.replicate_succ]
    · rw [hm', hm1]
      have : ({ (({ m with comp := some mm1, out := m.out ++ x1 } : MSt).plus 1) with out := (({ m with comp := some mm1, out := m.out ++ x1 } : MSt).plus 1).out ++ x, comp := some mm' } : MSt) = ({ m with out := m.out ++ (x1 ++ x), comp := some mm' } : MSt).plus 1 := by
        rw [plus_outq]
        unfold MSt.plus; simp only [List.append_assoc]; split; rfl; split; rfl; split <;> rfl
      rw [this, plus_plus, List.length_cons, Nat.add_comm]
    · refine Sub12.trans ?_ hsub
      rw [hm', plus_outq]
      exact Sub12.app _ _
/-- a message with a map, and how its bytes are read -/
theorem read_law {K : KindM} {k : Nat} (hK : KindOk K k) (hR : KindRd K k) (M : MsgM) (h : MsgOk k M) :
    ∃ m' p1 p2 p3, MSt.steps K .first (stepsM true M.asks [M.one, M.two, M.three]) = (List.replicate (M.asks.length + M.one.length + M.two.length + M.three.length + 5) .none, m') ∧
      (m'.final M.head).take 12 = hdr M.head.id M.head.bits M.asks.length M.one.length M.two.length M.three.length ∧ 12 ≤ (m'.final M.head).length ∧
      RdAsks (m'.final M.head) 12 M.asks p1 ∧ RdRecs (m'.final M.head) k p1 M.one p2 ∧ RdRecs (m'.final M.head) k p2 M.two p3 ∧ RdRecs (m'.final M.head) k p3 M.three (m'.final M.head).length ∧ (m'.final M.head).length ≤ (msgWire k M).length := by
  have na := h.na
  have n1 := h.n1
  have n2 := h.n2
  have n3 := h.n3
  have g0 : Good ⟨zeros12, 2, 0, 0, 0, 0, some []⟩ [] := ⟨by simp [zeros12], rfl, fun x hx => by cases hx⟩
  obtain ⟨m1, c1, x1, e1, g1, hm1, f1⟩ := asks_rd K M.asks _ _ g0 h.asks rfl (by simp only; omega)
  have g1' : Good { m1 with sec := 3 } c1 := ⟨g1.len, g1.comp, g1.rd⟩
  obtain ⟨m2, c2, x2, e2, g2, hm2, f2⟩ := recs_rd hK hR M.one _ _ g1' h.one (by simp) (by simp) (by simp [MSt.count, hm1]; omega)
  have g2' : Good { m2 with sec := 4 } c2 := ⟨g2.len, g2.comp, g2.rd⟩
  obtain ⟨m3, c3, x3, e3, g3, hm3, f3⟩ := recs_rd hK hR M.two _ _ g2' h.two (by simp) (by simp) (by simp [MSt.count, hm2, MSt.plus, hm1]; omega)
  have g3' : Good { m3 with sec := 5 } c3 := ⟨g3.len, g3.comp, g3.rd⟩
  obtain ⟨m4, c4, x4, e4, g4, hm4, f4⟩ := recs_rd hK hR M.three _ _ g3' h.three (by simp) (by simp) (by simp [MSt.count, hm3, MSt.plus, hm2, hm1]; omega)
  -- lengths, by the laws without reading
  obtain ⟨n1', ea1, a1, _⟩ := asks_fine K M.asks ⟨zeros12, 2, 0, 0, 0, 0, some []⟩ h.asks rfl (by simp only; omega)
  obtain ⟨n2', ea2, a2, _⟩ := recs_fine hK M.one { m1 with sec := 3 } h.one (by simp) (by simp) (by simp [MSt.count, hm1]; omega)
  obtain ⟨n3', ea3, a3, _⟩ := recs_fine hK M.two { m2 with sec := 4 } h.two (by simp) (by simp) (by simp [MSt.count, hm2, MSt.plus, hm1]; omega)
  obtain ⟨n4', ea4, a4, _⟩ := recs_fine hK M.three { m3 with sec := 5 } h.three (by simp) (by simp) (by simp [MSt.count, hm3, MSt.plus, hm2, hm1]; omega)
  rw [e1] at ea1; rw [e2] at ea2; rw [e3] at ea3; rw [e4] at ea4
  simp only [Prod.mk.injEq, true_and] at ea1 ea2 ea3 ea4
  subst ea1; subst ea2; subst ea3; subst ea4
  have hlen : (m4.final M.head).length = m4.out.length := put_length _ _ _ (by rw [hdr_length]; have := g4.len; omega)
  have hc4 : m4.q = M.asks.length ∧ m4.an = M.one.length ∧ m4.ns = M.two.length ∧ m4.ar = M.three.length := by
    rw [hm4]; simp [MSt.plus, hm3, hm2, hm1]
  have s4 : Sub12 m4.out (m4.final M.head) := Sub12.put _ _ (hdr_length _ _ _ _ _ _)
  have s3 : Sub12 m3.out (m4.final M.head) := Sub12.trans (by rw [hm4, plus_outq]; exact Sub12.app _ _) s4
  have s2 : Sub12 m2.out (m4.final M.head) := Sub12.trans (by rw [hm3, plus_outq]; exact Sub12.app _ _) s3
  have s1 : Sub12 m1.out (m4.final M.head) := Sub12.trans (by rw [hm2, plus_outq]; exact Sub12.app _ _) s2
  refine ⟨m4, m1.out.length, m2.out.length, m3.out.length, ?_, ?_, by rw [hlen]; exact g4.len, f1 _ s1, f2 _ s2, f3 _ s3, by rw [hlen]; exact f4 _ s4, ?_⟩
  · rw [show stepsM true M.asks [M.one, M.two, M.three] = stepS 1 :: stepS ((2 : Nat) : Int) :: (M.asks.map stepA ++ (stepS ((3 : Nat) : Int) :: (M.one.map stepR ++ (stepS ((4 : Nat) : Int) :: (M.two.map stepR ++ (stepS ((5 : Nat) : Int) :: (M.three.map stepR ++ []))))))) by simp [stepsM, secsM]]
    rw [steps_cons, show MSt.first.step K (stepS 1) = (.none, { MSt.first with comp := some [] }) from rfl, steps_cons, start_step K _ 2 (by decide) (by omega) (by omega), steps_append]
    have e1' : MSt.steps K { MSt.first with comp := some [], sec := 2 } (M.asks.map stepA) = (List.replicate M.asks.length .none, m1) := e1
    simp only [e1']
    rw [steps_cons, start_step K _ 3 (by rw [hm1]; simp) (by omega) (by omega), steps_append]
    simp only [e2]
    rw [steps_cons, start_step K _ 4 (by rw [hm2, plus_sec]; simp) (by omega) (by omega), steps_append]
    simp only [e3]
    rw [steps_cons, start_step K _ 5 (by rw [hm3, plus_sec]; simp) (by omega) (by omega), List.append_nil]
    simp only [e4, Prod.mk.injEq, and_true]
    rw [show M.asks.length + M.one.length + M.two.length + M.three.length + 5 = ((M.asks.length + ((M.one.length + ((M.two.length + (M.three.length + 1)) + 1)) + 1)) + 1) + 1 by omega]
    rw [List.replicate_succ, List.replicate_succ, ← List.replicate_append_replicate, List.replicate_succ, ← List.replicate_append_replicate, List.replicate_succ, ← List.replicate_append_replicate, List.replicate_succ]
  · unfold MSt.final put
    rw [hc4.1, hc4.2.1, hc4.2.2.1, hc4.2.2.2]
    rw [List.take_zero, List.nil_append, List.take_left' (hdr_length _ _ _ _ _ _)]
  · rw [hlen]
    obtain ⟨y1, q1, l1⟩ := a1.out
    obtain ⟨y2, q2, l2⟩ := a2.out
    obtain ⟨y3, q3, l3⟩ := a3.out
    obtain ⟨y4, q4, l4⟩ := a4.out
    simp only at q1 q2 q3 q4
    rw [q4, q3, q2, q1]
    simp only [msgWire, List.length_append, List.flatMap_append, headWire, hdr_length, show zeros12.length = 12 from rfl]
    omega
end Go.Proofs.YtfoinoegabcigaaDoor

/- Messages of one and of two sections that are read again; records that tell their own name again: on plain data. No program is in sight. -/
namespace Go.Proofs.YtfoinoegabcigaaDoor

/-- how the bytes of a message are read -/
structure RdMsg (k : Nat) (M : MsgM) (F : Bytes) : Prop where
  head : F.take 12 = hdr M.head.id M.head.bits M.asks.length M.one.length M.two.length M.three.length
  len : 12 ≤ F.length
  parts : ∃ p1 p2 p3, RdAsks F 12 M.asks p1 ∧ RdRecs F k p1 M.one p2 ∧ RdRecs F k p2 M.two p3 ∧ RdRecs F k p3 M.three F.length
  short : F.length ≤ (msgWire k M).length
theorem read3 {K : KindM} {k : Nat} (hK : KindOk K k) (hR : KindRd K k) (M : MsgM) (h : MsgOk k M) :
    ∃ m', MSt.steps K .first (stepsM true M.asks [M.one, M.two, M.three]) = (List.replicate (M.asks.length + M.one.length + M.two.length + M.three.length + 5) .none, m') ∧ RdMsg k M (m'.final M.head) := by
  obtain ⟨m', p1, p2, p3, h1, h2, h3, h4, h5, h6, h7, h8⟩ := read_law hK hR M h
  exact ⟨m', h1, h2, h3, ⟨p1, p2, p3, h4, h5, h6, h7⟩, h8⟩
theorem start_last (K : KindM) (m : MSt) (k : Nat) (h2 : 2 ≤ k) (h5 : k ≤ 5) (h : (m.step K (stepS (k : Int))).1 = .none) (H : HeadM) : (m.step K (stepS (k : Int))).2.final H = m.final H := by
  have e : m.step K (stepS (k : Int)) = m.start k := by
    have hk : k = 2 ∨ k = 3 ∨ k = 4 ∨ k = 5 := by omega
    rcases hk with rfl | rfl | rfl | rfl <;> rfl
  rw [e] at h ⊢
  unfold MSt.start at h ⊢
  split
  · rfl
  · rfl
/-- the last section begun, and nothing in it -/
theorem drop_last {K : KindM} {A : List StepM} {k n : Nat} {m' : MSt} {H : HeadM} (h2 : 2 ≤ k) (h5 : k ≤ 5) (e : MSt.steps K .first (A ++ [stepS (k : Int)]) = (List.replicate (n + 1) .none, m')) :
    ∃ m, MSt.steps K .first A = (List.replicate n .none, m) ∧ m.final H = m'.final H := by
  rw [steps_append, steps_cons] at e
  simp only [MSt.steps, Prod.mk.injEq] at e
  obtain ⟨e1, e2⟩ := e
  have hl : A.length = n := by
    have := congrArg List.length e1
    simp [steps_length] at this
    exact this
  rw [show n + 1 = n + 1 from rfl, ← List.replicate_append_replicate] at e1
  have hlen : (MSt.steps K .first A).1.length = (List.replicate n Flt.none).length := by rw [steps_length, List.length_replicate, hl]
  obtain ⟨f1, f2⟩ := List.append_inj e1 hlen
  refine ⟨(MSt.steps K .first A).2, Prod.ext f1 rfl, ?_⟩
  rw [← e2]
  exact (start_last K _ k h2 h5 (by simpa using f2) H).symm
theorem read2 {K : KindM} {k : Nat} (hK : KindOk K k) (hR : KindRd K k) (M : MsgM) (h : MsgOk k M) (h3 : M.three = []) :
    ∃ m', MSt.steps K .first (stepsM true M.asks [M.one, M.two]) = (List.replicate (M.asks.length + M.one.length + M.two.length + 4) .none, m') ∧ RdMsg k M (m'.final M.head) := by
  obtain ⟨m', e, hr⟩ := read3 hK hR M h
  have es : stepsM true M.asks [M.one, M.two, M.three] = stepsM true M.asks [M.one, M.two] ++ [stepS ((5 : Nat) : Int)] := by
    rw [h3]
    simp only [stepsM, secsM]
    simp
  rw [es, h3] at e
  obtain ⟨m, e1, e2⟩ := drop_last (H := M.head) (n := M.asks.length + M.one.length + M.two.length + 4) (by omega) (by omega) e
  exact ⟨m, e1, by rw [e2]; exact hr⟩
theorem read1 {K : KindM} {k : Nat} (hK : KindOk K k) (hR : KindRd K k) (M : MsgM) (h : MsgOk k M) (h3 : M.three = []) (h2 : M.two = []) :
    ∃ m', MSt.steps K .first (stepsM true M.asks [M.one]) = (List.replicate (M.asks.length + M.one.length + 3) .none, m') ∧ RdMsg k M (m'.final M.head) := by
  obtain ⟨m', e, hr⟩ := read2 hK hR M h h3
  have es : stepsM true M.asks [M.one, M.two] = stepsM true M.asks [M.one] ++ [stepS ((4 : Nat) : Int)] := by
    rw [h2]
    simp only [stepsM, secsM]
    simp
  rw [es, h2] at e
  obtain ⟨m, e1, e2⟩ := drop_last (H := M.head) (n := M.asks.length + M.one.length + 3) (by omega) (by omega) e
  exact ⟨m, e1, by rw [e2]; exact hr⟩
/-- a record that tells its own name again is shorter -/
theorem owner_law {K : KindM} {k : Nat} (hK : KindOk K k) (hR : KindRd K k) (h : HeadM) (r : RecM) (hok : MsgOk k ⟨h, [], [r], [], []⟩) (hn : 1 < r.name.length) (hb : ∀ pos m, lookC m r.name ≠ none → ∃ b, K.body r pos (some m) = .ok b (some m) ∧ b.length < (body k r).length) :
    ∃ m', MSt.steps K .first (stepsM true [] [[r]]) = (List.replicate 4 .none, m') ∧ RdMsg k ⟨h, [], [r], [], []⟩ (m'.final h) ∧ (m'.final h).length < (msgWire k ⟨h, [], [r], [], []⟩).length := by
  obtain ⟨m', e, hr⟩ := read1 hK hR ⟨h, [], [r], [], []⟩ hok rfl rfl
  refine ⟨m', e, hr, ?_⟩
  have hrec : recOk k r = true := by simpa using hok.one
  have hname := (recOk_parts hrec).1
  have hlen := (recOk_parts hrec).2.2.1
  obtain ⟨c', hc⟩ := packN_first hname 12
  obtain ⟨m2, hm2, hin⟩ := packN_in hname hn 12 (by omega) [] _ _ hc
  cases hm2
  obtain ⟨b, hbb, hbl⟩ := hb (12 + (wire r.name).length + 10) c' hin
  have es : (⟨zeros12, 3, 0, 0, 0, 0, some []⟩ : MSt).step K (stepR r) = (.none, ⟨zeros12 ++ (wire r.name ++ two (typeOf k r) ++ two r.cls ++ four r.ttl ++ two b.length ++ b), 3, 0, 1, 0, 0, some c'⟩) := by
    rw [step_rec]
    unfold MSt.rec_
    rw [if_neg (by simp), if_neg (by simp), take255 hname]
    simp only [show zeros12.length = 12 from rfl, hc, hbb]
    rw [if_neg (by omega), if_neg (by show ¬ (0 : Nat) = 65535; omega)]
    simp only [MSt.counted, hK.type]
    simp
  have e' : MSt.steps K .first (stepsM true [] [[r]]) = (List.replicate 4 .none, ⟨zeros12 ++ (wire r.name ++ two (typeOf k r) ++ two r.cls ++ four r.ttl ++ two b.length ++ b), 3, 0, 1, 0, 0, some c'⟩) := by
    rw [show stepsM true [] [[r]] = [stepS 1, stepS ((2 : Nat) : Int), stepS ((3 : Nat) : Int), stepR r] from rfl]
    rw [steps_cons, show MSt.first.step K (stepS 1) = (.none, { MSt.first with comp := some [] }) from rfl, steps_cons, start_step K _ 2 (by decide) (by omega) (by omega), steps_cons, start_step K _ 3 (by simp [MSt.first]) (by omega) (by omega), steps_cons]
    show (_ :: _ :: _ :: (MSt.step K (⟨zeros12, 3, 0, 0, 0, 0, some []⟩ : MSt) (stepR r)).1 :: _, (MSt.step K (⟨zeros12, 3, 0, 0, 0, 0, some []⟩ : MSt) (stepR r)).2) = _
    rw [es]
    rfl
  have e0 : MSt.steps K .first (stepsM true [] [[r]]) = (List.replicate 4 .none, m') := e
  rw [e'] at e0
  simp only [Prod.mk.injEq, true_and] at e0
  rw [← e0]
  simp only [MSt.final]
  rw [put_length _ _ _ (by rw [hdr_length]; simp [zeros12] <;> omega)]
  simp only [msgWire, List.length_append, headWire, hdr_length, List.flatMap_nil, List.flatMap_cons, List.length_nil, two_length, four_length, recWire, show zeros12.length = 12 from rfl, List.nil_append, List.append_nil]
  omega
theorem owner_CNAME (h : HeadM) (r : RecM) (hh : r.host = r.name) (hok : MsgOk 3 ⟨h, [], [r], [], []⟩) (hn : 1 < r.name.length) :
    ∃ m', MSt.steps kCNAME .first (stepsM true [] [[r]]) = (List.replicate 4 .none, m') ∧ RdMsg 3 ⟨h, [], [r], [], []⟩ (m'.final h) ∧ (m'.final h).length < (msgWire 3 ⟨h, [], [r], [], []⟩).length := by
  have hrec : recOk 3 r = true := by simpa using hok.one
  have hname := (recOk_parts hrec).1
  refine owner_law okCNAME rdCNAME h r hok hn fun pos m hm => ?_
  obtain ⟨o, e, l⟩ := packN_hit hname hn pos m hm
  refine ⟨o, ?_, ?_⟩
  · show packN (r.host.take 255) pos (some m) = _
    rw [hh, take255 hname]; exact e
  · show _ < (wire r.host).length
    rw [hh, (wire_length hname).2 hn]; omega
theorem owner_MX (h : HeadM) (r : RecM) (hh : r.host = r.name) (hok : MsgOk 6 ⟨h, [], [r], [], []⟩) (hn : 1 < r.name.length) :
    ∃ m', MSt.steps kMX .first (stepsM true [] [[r]]) = (List.replicate 4 .none, m') ∧ RdMsg 6 ⟨h, [], [r], [], []⟩ (m'.final h) ∧ (m'.final h).length < (msgWire 6 ⟨h, [], [r], [], []⟩).length := by
  have hrec : recOk 6 r = true := by simpa using hok.one
  have hname := (recOk_parts hrec).1
  refine owner_law okMX rdMX h r hok hn fun pos m hm => ?_
  obtain ⟨o, e, l⟩ := packN_hit hname hn (pos + 2) m hm
  refine ⟨two (low r.n1) ++ o, ?_, ?_⟩
  · show (packN (r.host.take 255) (pos + 2) (some m)).pre _ = _
    rw [hh, take255 hname, e]; rfl
  · show _ < (two (low r.n1) ++ wire r.host).length
    rw [hh, List.length_append, List.length_append, (wire_length hname).2 hn]; omega
end Go.Proofs.YtfoinoegabcigaaDoor
