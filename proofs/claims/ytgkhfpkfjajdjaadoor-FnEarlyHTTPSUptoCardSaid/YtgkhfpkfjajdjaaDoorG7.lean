/- The small methods of a Builder. -/
import Derived.Test.YtgkhfpkfjajdjaaDoorG6
import Derived.Test.YtgkhfpkfjajdjaaDoorG3
import Derived.LaidEql
import Derived.Test.YtgkhfpkfjajdjaaDoorG1
set_option linter.unusedVariables false
set_option linter.unusedSimpArgs false
namespace Go.Proofs.YtgkhfpkfjajdjaaDoor
open Go.RowKit
set_option maxHeartbeats 2000000
set_option maxRecDepth 100000

/-- a Builder in memory whose state is m, behind the bytes pre -/
def bst (pre : Bytes) (id bits : Nat) (m : MSt) : BSt := ⟨pre ++ m.out, m.sec, id, bits, m.q, m.an, m.ns, m.ar, pre.length, m.comp⟩
structure BM (w : World) (b : Nat) (mv cv : Value) (pre : Bytes) (id bits : Nat) (m : MSt) : Prop where
  at_ : BAt w b mv cv (bst pre id bits m)
  ck : CompOk m.comp
/-- from w to w' the Builder alone has changed, and is in state m' -/
def BTo (w : World) (b : Nat) (mv cv : Value) (pre : Bytes) (id bits : Nat) (w' : World) (m' : MSt) : Prop :=
  ∃ mv' cv', BM w' b mv' cv' pre id bits m' ∧ Chg (Foot b mv cv) w w' ∧ ∀ k, k < w.heap.size → Foot b mv' cv' k → Foot b mv cv k
/-- what an error is -/
def ErrV (w : World) : Flt → Value → Prop
  | .none, v => v = .nilIface
  | .early, v => ∃ fr, w.heap[0]? = some (.cells #[v] 78 fr)
  | .done, v => ∃ fr, w.heap[1]? = some (.cells #[v] 78 fr)
  | .other, v => IsErr w v
section
variable {w w' : World} {b : Nat} {mv cv : Value} {pre : Bytes} {id bits : Nat} {m : MSt}
theorem BM.sec (h : BM w b mv cv pre id bits m) : m.sec ≤ 6 := h.at_.ok.1
theorem BM.refl (h : BM w b mv cv pre id bits m) : BTo w b mv cv pre id bits w m := ⟨mv, cv, h, Chg.refl _ _, fun _ _ h => h⟩
/-- another section is stored -/
theorem BM.start (h : BM w b mv cv pre id bits m) (k : Nat) (hk : k ≤ 6) (hw : Wrote b w w') (hb : w'.heap[b]? = some (.cells (#[mv, .int .u8 (m.sec : Int), .int .u16 (id : Int), .int .u16 (bits : Int), .int .u16 (m.q : Int), .int .u16 (m.an : Int), .int .u16 (m.ns : Int), .int .u16 (m.ar : Int), .int .i64 (pre.length : Int), cv].setIfInBounds 1 (.int .u8 (k : Int))) 110 (0, 0))) : BTo w b mv cv pre id bits w' { m with sec := k } := by
  have hok := h.at_.ok
  unfold BSt.ok bst at hok
  refine ⟨mv, cv, ⟨⟨hb, h.at_.own.wrote hw h.at_.ne_msg, h.at_.comp.kept fun r hr => hw.block r (h.at_.comp.lt hr) (fun e => h.at_.comp.ne h.at_.cells (by rw [hr, e])), ⟨hk, hok.2⟩⟩, h.ck⟩, hw.mono fun k _ e => .inl e, fun _ _ h => h⟩
end
theorem dns_startCheck (w : World) (b : Nat) (mv cv : Value) (pre : Bytes) (id bits : Nat) (m : MSt) (h : BM w b mv cv pre id bits m) (hs : 1 ≤ m.sec) (k : Nat) (hk : k ≤ 6) (hE : Errs w) :
    Calls Tryd.prog 73 #[.pointer (some ⟨b, 0, none⟩), .int .u8 (k : Int)] w fun e w' => ∃ v, e = .returned v ∧ w = w' ∧ (if k < m.sec then ErrV w .done v else v = .nilIface) := by
  have hc0 := h.at_.cells
  simp only [bst] at hc0
  refine calls_of_WC Tryd.func73 rfl Tryd.ntmps73 rfl ?_
  refine GO ?_
  first | refine WC_sif vv (fun hc => ?_) (fun hc => ?_) | refine WC_if vv (fun hc => ?_) (fun hc => ?_)
  · exfalso
    have : (m.sec : Int) ≤ 0 := by simpa using hc
    omega
  refine GO ?_
  first | refine WC_sif vv (fun hc => ?_) (fun hc => ?_) | refine WC_if vv (fun hc => ?_) (fun hc => ?_)
  · have hlt : k < m.sec := by have : (k : Int) < (m.sec : Int) := (by simpa using hc); omega
    obtain ⟨tv, p, fr', hG, hI⟩ := hE 1 (by decide)
    refine GO ?_
    refine ret1 (v := .iface tv p) Tryd.results73 rfl ⟨_, rfl, rfl, ?_⟩
    rw [if_pos hlt]
    exact ⟨fr', hG⟩
  have hlt : ¬ k < m.sec := by have : ¬ (k : Int) < (m.sec : Int) := (by simpa using hc); omega
  refine GO ?_
  refine ret1 (v := .nilIface) Tryd.results73 rfl ⟨_, rfl, rfl, ?_⟩
  rw [if_neg hlt]
/-- what a method that begins a section does -/
def StartC (F : FuncId) (k : Nat) : Prop := ∀ (w : World) (b : Nat) (mv cv : Value) (pre : Bytes) (id bits : Nat) (m : MSt), BM w b mv cv pre id bits m → 1 ≤ m.sec → Errs w →
  Calls Tryd.prog F #[.pointer (some ⟨b, 0, none⟩)] w fun e w' => ∃ v, e = .returned v ∧ ErrV w' (m.start k).1 v ∧ BTo w b mv cv pre id bits w' (m.start k).2
theorem dns_StartQuestions : StartC 51 2 := by
  intro w b mv cv pre id bits m h hs hE
  have hc0 := h.at_.cells
  simp only [bst] at hc0
  refine calls_of_WC Tryd.func51 rfl Tryd.ntmps51 rfl ?_
  refine GO ?_
  refine WL_fun rfl ((dns_startCheck w b mv cv pre id bits m h hs 2 (by decide) hE).mono ?_)
  rintro e w1 ⟨v, rfl, rfl, hv⟩
  refine ⟨_, rfl, ?_⟩
  by_cases hlt : 2 < m.sec
  · rw [if_pos hlt] at hv
    obtain ⟨tv, p, fr', hG, hI⟩ := hE 1 (by decide)
    have hvv : v = .iface tv p := by
      obtain ⟨fr2, h2⟩ := hv
      rw [hG] at h2
      simp only [Option.some.injEq, Obj.cells.injEq] at h2
      have := h2.1
      simpa using this.symm
    subst hvv
    refine GO ?_
    refine WL_neqNil vv ?_
    refine RUN ?_
    refine ret1 (v := .iface tv p) Tryd.results51 rfl ⟨_, rfl, ?_, ?_⟩
    · unfold MSt.start; rw [if_pos hlt]; exact hv
    · unfold MSt.start; rw [if_pos hlt]; exact h.refl
  · rw [if_neg hlt] at hv
    subst hv
    refine GO ?_
    refine WL_neqNil0 vv ?_
    refine RUN ?_
    refine WL_store1 vv vv hc0 (by simp) rfl ?_
    intro w2 hw2 h2
    refine GO ?_
    refine ret1 (v := .nilIface) Tryd.results51 rfl ⟨_, rfl, ?_, ?_⟩
    · unfold MSt.start; rw [if_neg hlt]; rfl
    · unfold MSt.start; rw [if_neg hlt]; exact h.start 2 (by decide) hw2 h2
theorem dns_StartAnswers : StartC 52 3 := by
  intro w b mv cv pre id bits m h hs hE
  have hc0 := h.at_.cells
  simp only [bst] at hc0
  refine calls_of_WC Tryd.func52 rfl Tryd.ntmps52 rfl ?_
  refine GO ?_
  refine WL_fun rfl ((dns_startCheck w b mv cv pre id bits m h hs 3 (by decide) hE).mono ?_)
  rintro e w1 ⟨v, rfl, rfl, hv⟩
  refine ⟨_, rfl, ?_⟩
  by_cases hlt : 3 < m.sec
  · rw [if_pos hlt] at hv
    obtain ⟨tv, p, fr', hG, hI⟩ := hE 1 (by decide)
    have hvv : v = .iface tv p := by
      obtain ⟨fr2, h2⟩ := hv
      rw [hG] at h2
      simp only [Option.some.injEq, Obj.cells.injEq] at h2
      have := h2.1
      simpa using this.symm
    subst hvv
    refine GO ?_
    refine WL_neqNil vv ?_
    refine RUN ?_
    refine ret1 (v := .iface tv p) Tryd.results52 rfl ⟨_, rfl, ?_, ?_⟩
    · unfold MSt.start; rw [if_pos hlt]; exact hv
    · unfold MSt.start; rw [if_pos hlt]; exact h.refl
  · rw [if_neg hlt] at hv
    subst hv
    refine GO ?_
    refine WL_neqNil0 vv ?_
    refine RUN ?_
    refine WL_store1 vv vv hc0 (by simp) rfl ?_
    intro w2 hw2 h2
    refine GO ?_
    refine ret1 (v := .nilIface) Tryd.results52 rfl ⟨_, rfl, ?_, ?_⟩
    · unfold MSt.start; rw [if_neg hlt]; rfl
    · unfold MSt.start; rw [if_neg hlt]; exact h.start 3 (by decide) hw2 h2
theorem dns_StartAuthorities : StartC 53 4 := by
  intro w b mv cv pre id bits m h hs hE
  have hc0 := h.at_.cells
  simp only [bst] at hc0
  refine calls_of_WC Tryd.func53 rfl Tryd.ntmps53 rfl ?_
  refine GO ?_
  refine WL_fun rfl ((dns_startCheck w b mv cv pre id bits m h hs 4 (by decide) hE).mono ?_)
  rintro e w1 ⟨v, rfl, rfl, hv⟩
  refine ⟨_, rfl, ?_⟩
  by_cases hlt : 4 < m.sec
  · rw [if_pos hlt] at hv
    obtain ⟨tv, p, fr', hG, hI⟩ := hE 1 (by decide)
    have hvv : v = .iface tv p := by
      obtain ⟨fr2, h2⟩ := hv
      rw [hG] at h2
      simp only [Option.some.injEq, Obj.cells.injEq] at h2
      have := h2.1
      simpa using this.symm
    subst hvv
    refine GO ?_
    refine WL_neqNil vv ?_
    refine RUN ?_
    refine ret1 (v := .iface tv p) Tryd.results53 rfl ⟨_, rfl, ?_, ?_⟩
    · unfold MSt.start; rw [if_pos hlt]; exact hv
    · unfold MSt.start; rw [if_pos hlt]; exact h.refl
  · rw [if_neg hlt] at hv
    subst hv
    refine GO ?_
    refine WL_neqNil0 vv ?_
    refine RUN ?_
    refine WL_store1 vv vv hc0 (by simp) rfl ?_
    intro w2 hw2 h2
    refine GO ?_
    refine ret1 (v := .nilIface) Tryd.results53 rfl ⟨_, rfl, ?_, ?_⟩
    · unfold MSt.start; rw [if_neg hlt]; rfl
    · unfold MSt.start; rw [if_neg hlt]; exact h.start 4 (by decide) hw2 h2
theorem dns_StartAdditionals : StartC 54 5 := by
  intro w b mv cv pre id bits m h hs hE
  have hc0 := h.at_.cells
  simp only [bst] at hc0
  refine calls_of_WC Tryd.func54 rfl Tryd.ntmps54 rfl ?_
  refine GO ?_
  refine WL_fun rfl ((dns_startCheck w b mv cv pre id bits m h hs 5 (by decide) hE).mono ?_)
  rintro e w1 ⟨v, rfl, rfl, hv⟩
  refine ⟨_, rfl, ?_⟩
  by_cases hlt : 5 < m.sec
  · rw [if_pos hlt] at hv
    obtain ⟨tv, p, fr', hG, hI⟩ := hE 1 (by decide)
    have hvv : v = .iface tv p := by
      obtain ⟨fr2, h2⟩ := hv
      rw [hG] at h2
      simp only [Option.some.injEq, Obj.cells.injEq] at h2
      have := h2.1
      simpa using this.symm
    subst hvv
    refine GO ?_
    refine WL_neqNil vv ?_
    refine RUN ?_
    refine ret1 (v := .iface tv p) Tryd.results54 rfl ⟨_, rfl, ?_, ?_⟩
    · unfold MSt.start; rw [if_pos hlt]; exact hv
    · unfold MSt.start; rw [if_pos hlt]; exact h.refl
  · rw [if_neg hlt] at hv
    subst hv
    refine GO ?_
    refine WL_neqNil0 vv ?_
    refine RUN ?_
    refine WL_store1 vv vv hc0 (by simp) rfl ?_
    intro w2 hw2 h2
    refine GO ?_
    refine ret1 (v := .nilIface) Tryd.results54 rfl ⟨_, rfl, ?_, ?_⟩
    · unfold MSt.start; rw [if_neg hlt]; rfl
    · unfold MSt.start; rw [if_neg hlt]; exact h.start 5 (by decide) hw2 h2
end Go.Proofs.YtgkhfpkfjajdjaaDoor

/- Methods of a Builder: the map, the counts, questions. -/
namespace Go.Proofs.YtgkhfpkfjajdjaaDoor
open Go.RowKit
set_option maxHeartbeats 2000000
set_option maxRecDepth 100000

theorem retn0 {P : Program} {fn : Func} {R : Ending → World → Prop} {f : Env} {w : World} (hr : fn.results = #[]) (h : R (.returned (.tuple #[])) w) : RetQ P fn R .normal f w := ⟨by unfold RetP; exact ⟨.tuple #[], fun tmps _ => by simp [results, hr], h⟩⟩
theorem WL_makeMap {n : Nat} {f : Env} {w : World} {ops : Array Oper} {K : Env → World → Prop} {rest : List Oper} {d : Nat} {ty : TypeId} {pos : String} {af : Array Edge} (h : ∀ r w', w.heap.size ≤ r → w'.heap[r]? = some (.map #[] 0) → Grows w w' → WL n Tryd.prog ops K rest (upd f d (.map (some r))) w') (hn : Nat.blt d n = true := by rfl) : WL n Tryd.prog ops K (⟨some d, .makeMap 108 none, ty, pos, af, none⟩ :: rest) f w := by
  refine WL_val (w' := w.alloc (.map #[] 0)) (v := .map (some w.heap.size)) rfl rfl hn ?_ (h _ _ (Nat.le_refl _) (heap_alloc_new _ _) ((Grows.refl w).alloc _))
  rfl
theorem dns_EnableCompression (w : World) (b : Nat) (mv cv : Value) (pre : Bytes) (id bits : Nat) (m : MSt) (h : BM w b mv cv pre id bits m) :
    Calls Tryd.prog 49 #[.pointer (some ⟨b, 0, none⟩)] w fun e w' => ∃ v, e = .returned v ∧ BTo w b mv cv pre id bits w' { m with comp := some [] } := by
  have hc0 := h.at_.cells
  simp only [bst] at hc0
  refine calls_of_WC Tryd.func49 rfl Tryd.ntmps49 rfl ?_
  refine GO ?_
  refine WL_makeMap ?_
  intro r w1 hr hm1 g1
  refine GO ?_
  refine WL_store1 vv vv (g1.kept hc0) (by simp) rfl ?_
  intro w2 hw2 h2
  have hbr : r ≠ b := by have := h.at_.lt; omega
  refine GO ?_
  have hok := h.at_.ok
  unfold BSt.ok bst at hok
  have hto : BTo w b mv cv pre id bits w2 { m with comp := some [] } := by
    refine ⟨mv, .map (some r), ⟨⟨h2, (h.at_.own.grow g1).wrote hw2 h.at_.ne_msg, ⟨r, #[], 0, rfl, hw2.kept hm1 hbr, rfl⟩, hok⟩, fun m' e => by cases e; simp⟩, ?_, ?_⟩
    · exact (Chg.of_below g1 (Foot b mv cv)).trans hw2 (fun k _ e => .inl e)
    · rintro k hk (e | e | e)
      · exact .inl e
      · exact .inr (.inl e)
      · simp only [mapBlock, Option.some.injEq] at e
        omega
  first | exact retn0 Tryd.results49 ⟨_, rfl, hto⟩ | exact ret0 Tryd.results49 ⟨_, rfl, hto⟩
theorem dns_checkResourceSection (w : World) (b : Nat) (mv cv : Value) (pre : Bytes) (id bits : Nat) (m : MSt) (h : BM w b mv cv pre id bits m) (hE : Errs w) :
    Calls Tryd.prog 77 #[.pointer (some ⟨b, 0, none⟩)] w fun e w' => ∃ v, e = .returned v ∧ w = w' ∧ (if m.sec < 3 then ErrV w .early v ∧ (∃ tv p, v = .iface tv p) else if 5 < m.sec then ErrV w .done v ∧ (∃ tv p, v = .iface tv p) else v = .nilIface) := by
  have hc0 := h.at_.cells
  simp only [bst] at hc0
  refine calls_of_WC Tryd.func77 rfl Tryd.ntmps77 rfl ?_
  refine GO ?_
  first | refine WC_sif vv (fun hc => ?_) (fun hc => ?_) | refine WC_if vv (fun hc => ?_) (fun hc => ?_)
  · have h3 : m.sec < 3 := by have : (m.sec : Int) < 3 := (by simpa using hc); omega
    obtain ⟨tv, p, fr', hG, hI⟩ := hE 0 (by decide)
    refine GO ?_
    refine ret1 (v := .iface tv p) Tryd.results77 rfl ⟨_, rfl, rfl, ?_⟩
    rw [if_pos h3]
    exact ⟨⟨fr', hG⟩, _, _, rfl⟩
  have h3 : ¬ m.sec < 3 := by have : ¬ (m.sec : Int) < 3 := (by simpa using hc); omega
  refine GO ?_
  first | refine WC_sif vv (fun hc => ?_) (fun hc => ?_) | refine WC_if vv (fun hc => ?_) (fun hc => ?_)
  · have h5 : 5 < m.sec := by have : (5 : Int) < (m.sec : Int) := (by simpa using hc); omega
    obtain ⟨tv, p, fr', hG, hI⟩ := hE 1 (by decide)
    refine GO ?_
    refine ret1 (v := .iface tv p) Tryd.results77 rfl ⟨_, rfl, rfl, ?_⟩
    rw [if_neg h3, if_pos h5]
    exact ⟨⟨fr', hG⟩, _, _, rfl⟩
  have h5 : ¬ 5 < m.sec := by have : ¬ (5 : Int) < (m.sec : Int) := (by simpa using hc); omega
  refine GO ?_
  refine ret1 (v := .nilIface) Tryd.results77 rfl ⟨_, rfl, rfl, ?_⟩
  rw [if_neg h3, if_neg h5]
/-- what incrementSectionCount does -/
theorem dns_increment (w : World) (b : Nat) (mv cv : Value) (pre : Bytes) (id bits : Nat) (m : MSt) (h : BM w b mv cv pre id bits m) (h2 : 2 ≤ m.sec) (h5 : m.sec ≤ 5) (hE : Errs w) :
    Calls Tryd.prog 75 #[.pointer (some ⟨b, 0, none⟩)] w fun e w' => if m.count = 65535 then (∃ tv p, e = .returned (.iface tv p) ∧ IsErr w (.iface tv p)) ∧ w = w' else e = .returned .nilIface ∧ BM w' b mv cv pre id bits m.counted ∧ Wrote b w w' := by
  have hc0 := h.at_.cells
  simp only [bst] at hc0
  have hok := h.at_.ok
  unfold BSt.ok bst at hok
  simp only at hok
  have key : ∀ (j : Nat) (w' : World) (m' : MSt), Wrote b w w' → m'.out = m.out → m'.sec = m.sec → m'.comp = m.comp → (m'.q < 65536 ∧ m'.an < 65536 ∧ m'.ns < 65536 ∧ m'.ar < 65536) → w'.heap[b]? = some (.cells #[mv, .int .u8 (m'.sec : Int), .int .u16 (id : Int), .int .u16 (bits : Int), .int .u16 (m'.q : Int), .int .u16 (m'.an : Int), .int .u16 (m'.ns : Int), .int .u16 (m'.ar : Int), .int .i64 (pre.length : Int), cv] 110 (0, 0)) → BM w' b mv cv pre id bits m' := by
    intro j w' m' hw e1 e2 e3 hlt hcells
    refine ⟨⟨hcells, ?_, ?_, ?_⟩, by rw [e3]; exact h.ck⟩
    · simp only [bst, e1]; exact h.at_.own.wrote hw h.at_.ne_msg
    · simp only [bst, e3]; exact h.at_.comp.kept fun r hr => hw.block r (h.at_.comp.lt hr) (fun e => h.at_.comp.ne h.at_.cells (by rw [hr, e]))
    · unfold BSt.ok bst
      simp only [e1, e2]
      omega
  have hs : m.sec = 2 ∨ m.sec = 3 ∨ m.sec = 4 ∨ m.sec = 5 := by omega
  refine calls_of_WC Tryd.func75 rfl Tryd.ntmps75 rfl ?_
  rcases hs with hs | hs | hs | hs
  · obtain ⟨tv, p, fr', hG, hI⟩ := hE 2 (by decide)
    refine GO ?_
    rw [hs]
    refine RUN ?_
    have hcount : m.count = m.q := by unfold MSt.count; rw [if_pos hs]
    first | refine WC_sif vv (fun hc => ?_) (fun hc => ?_) | refine WC_if vv (fun hc => ?_) (fun hc => ?_)
    · have hq : m.q = 65535 := by have : (m.q : Int) = 65535 := (by simpa using hc); omega
      refine RUN ?_
      refine ret1 (v := .iface tv p) Tryd.results75 rfl ?_
      rw [if_pos (by omega)]
      exact ⟨⟨_, _, rfl, hI⟩, rfl⟩
    have hq : ¬ m.q = 65535 := by have : ¬ (m.q : Int) = 65535 := (by simpa using hc); omega
    refine RUN ?_
    refine WL_add (c := ((m.q + 1 : Nat) : Int)) vv vv (by rw [wrap16]; omega) ?_
    refine GO ?_
    refine WL_store1 vv vv hc0 (by simp) rfl ?_
    intro w2 hw2 hh2
    refine GO ?_
    refine ret1 (v := .nilIface) Tryd.results75 rfl ?_
    rw [if_neg (by omega)]
    refine ⟨rfl, key 4 w2 _ hw2 ?_ ?_ ?_ ?_ ?_, hw2⟩ <;> unfold MSt.counted <;> rw [if_pos hs]
    · simp only; omega
    · exact hh2
  · obtain ⟨tv, p, fr', hG, hI⟩ := hE 3 (by decide)
    refine GO ?_
    rw [hs]
    refine RUN ?_
    have hcount : m.count = m.an := by unfold MSt.count; rw [if_neg (by omega), if_pos hs]
    first | refine WC_sif vv (fun hc => ?_) (fun hc => ?_) | refine WC_if vv (fun hc => ?_) (fun hc => ?_)
    · have hq : m.an = 65535 := by have : (m.an : Int) = 65535 := (by simpa using hc); omega
      refine RUN ?_
      refine ret1 (v := .iface tv p) Tryd.results75 rfl ?_
      rw [if_pos (by omega)]
      exact ⟨⟨_, _, rfl, hI⟩, rfl⟩
    have hq : ¬ m.an = 65535 := by have : ¬ (m.an : Int) = 65535 := (by simpa using hc); omega
    refine RUN ?_
    refine WL_add (c := ((m.an + 1 : Nat) : Int)) vv vv (by rw [wrap16]; omega) ?_
    refine GO ?_
    refine WL_store1 vv vv hc0 (by simp) rfl ?_
    intro w2 hw2 hh2
    refine GO ?_
    refine ret1 (v := .nilIface) Tryd.results75 rfl ?_
    rw [if_neg (by omega)]
    refine ⟨rfl, key 4 w2 _ hw2 ?_ ?_ ?_ ?_ ?_, hw2⟩ <;> unfold MSt.counted <;> rw [if_neg (by omega), if_pos hs]
    · simp only; omega
    · exact hh2
  · obtain ⟨tv, p, fr', hG, hI⟩ := hE 4 (by decide)
    refine GO ?_
    rw [hs]
    refine RUN ?_
    have hcount : m.count = m.ns := by unfold MSt.count; rw [if_neg (by omega), if_neg (by omega), if_pos hs]
    first | refine WC_sif vv (fun hc => ?_) (fun hc => ?_) | refine WC_if vv (fun hc => ?_) (fun hc => ?_)
    · have hq : m.ns = 65535 := by have : (m.ns : Int) = 65535 := (by simpa using hc); omega
      refine RUN ?_
      refine ret1 (v := .iface tv p) Tryd.results75 rfl ?_
      rw [if_pos (by omega)]
      exact ⟨⟨_, _, rfl, hI⟩, rfl⟩
    have hq : ¬ m.ns = 65535 := by have : ¬ (m.ns : Int) = 65535 := (by simpa using hc); omega
    refine RUN ?_
    refine WL_add (c := ((m.ns + 1 : Nat) : Int)) vv vv (by rw [wrap16]; omega) ?_
    refine GO ?_
    refine WL_store1 vv vv hc0 (by simp) rfl ?_
    intro w2 hw2 hh2
    refine GO ?_
    refine ret1 (v := .nilIface) Tryd.results75 rfl ?_
    rw [if_neg (by omega)]
    refine ⟨rfl, key 4 w2 _ hw2 ?_ ?_ ?_ ?_ ?_, hw2⟩ <;> unfold MSt.counted <;> rw [if_neg (by omega), if_neg (by omega), if_pos hs]
    · simp only; omega
    · exact hh2
  · obtain ⟨tv, p, fr', hG, hI⟩ := hE 5 (by decide)
    refine GO ?_
    rw [hs]
    refine RUN ?_
    have hcount : m.count = m.ar := by unfold MSt.count; rw [if_neg (by omega), if_neg (by omega), if_neg (by omega)]
    first | refine WC_sif vv (fun hc => ?_) (fun hc => ?_) | refine WC_if vv (fun hc => ?_) (fun hc => ?_)
    · have hq : m.ar = 65535 := by have : (m.ar : Int) = 65535 := (by simpa using hc); omega
      refine RUN ?_
      refine ret1 (v := .iface tv p) Tryd.results75 rfl ?_
      rw [if_pos (by omega)]
      exact ⟨⟨_, _, rfl, hI⟩, rfl⟩
    have hq : ¬ m.ar = 65535 := by have : ¬ (m.ar : Int) = 65535 := (by simpa using hc); omega
    refine RUN ?_
    refine WL_add (c := ((m.ar + 1 : Nat) : Int)) vv vv (by rw [wrap16]; omega) ?_
    refine GO ?_
    refine WL_store1 vv vv hc0 (by simp) rfl ?_
    intro w2 hw2 hh2
    refine GO ?_
    refine ret1 (v := .nilIface) Tryd.results75 rfl ?_
    rw [if_neg (by omega)]
    refine ⟨rfl, key 4 w2 _ hw2 ?_ ?_ ?_ ?_ ?_, hw2⟩ <;> unfold MSt.counted <;> rw [if_neg (by omega), if_neg (by omega), if_neg (by omega)]
    · simp only; omega
    · exact hh2
end Go.Proofs.YtgkhfpkfjajdjaaDoor

/- Builder.Question. -/
namespace Go.Proofs.YtgkhfpkfjajdjaaDoor
open Go.RowKit
set_option maxHeartbeats 2000000
set_option maxRecDepth 100000

section
variable {w w0 w1 w2 : World} {b : Nat} {mv cv mv1 : Value} {pre : Bytes} {id bits : Nat} {m : MSt} {c' : Option CMap} {msg1 : Bytes}
theorem BM.grow (h : BM w b mv cv pre id bits m) (hg : Grows w w0) : BM w0 b mv cv pre id bits m := ⟨h.at_.grow hg, h.ck⟩
theorem BM.own (h : BM w b mv cv pre id bits m) : Own w mv (pre ++ m.out) := h.at_.own
theorem BM.comp (h : BM w b mv cv pre id bits m) : CompAt w cv m.comp := h.at_.comp
theorem BM.cells (h : BM w b mv cv pre id bits m) : w.heap[b]? = some (.cells #[mv, .int .u8 (m.sec : Int), .int .u16 (id : Int), .int .u16 (bits : Int), .int .u16 (m.q : Int), .int .u16 (m.an : Int), .int .u16 (m.ns : Int), .int .u16 (m.ar : Int), .int .i64 (pre.length : Int), cv] 110 (0, 0)) := h.at_.cells
/-- a packing that is not taken over: the map alone has changed -/
theorem BM.pk (h : BM w b mv cv pre id bits m) (P : Pk w mv cv (pre ++ m.out) w1 mv1 msg1 c') (hck : CompOk c') : BM w1 b mv cv pre id bits { m with comp := c' } := by
  refine ⟨⟨P.kept h.comp h.cells (by decide), P.old, P.comp, ?_⟩, hck⟩
  have := h.at_.ok
  unfold BSt.ok bst at *
  exact this
theorem Pk.foot (P : Pk w mv cv msg1 w1 mv1 msg1 c') : Chg (Foot b mv cv) w w1 := P.chg.mono fun k _ h => .inr h
theorem Pk.footC {msg : Bytes} (P : Pk w mv cv msg w1 mv1 msg1 c') (b : Nat) : Chg (Foot b mv cv) w w1 := P.chg.mono fun k _ h => .inr h
theorem BTo.of_grow (hg : Grows w w0) {m' : MSt} (h : BTo w0 b mv cv pre id bits w1 m') : BTo w b mv cv pre id bits w1 m' := by
  obtain ⟨mv', cv', h1, h2, h3⟩ := h
  exact ⟨mv', cv', h1, (Chg.of_below hg (Foot b mv cv)).trans h2 (fun k _ h => h), fun k hk hf => h3 k (Nat.lt_of_lt_of_le hk hg.size) hf⟩
/-- the new bytes are taken over -/
theorem BM.take {out' : Bytes} (h : BM w b mv cv pre id bits m) (ho : Own w mv1 (pre ++ out')) (hl : 12 ≤ out'.length) (hw : Wrote b w w2) (hb : w2.heap[b]? = some (.cells (#[mv, .int .u8 (m.sec : Int), .int .u16 (id : Int), .int .u16 (bits : Int), .int .u16 (m.q : Int), .int .u16 (m.an : Int), .int .u16 (m.ns : Int), .int .u16 (m.ar : Int), .int .i64 (pre.length : Int), cv].setIfInBounds 0 mv1) 110 (0, 0))) : BM w2 b mv1 cv pre id bits { m with out := out' } := by
  have hok := h.at_.ok
  unfold BSt.ok bst at hok
  refine ⟨⟨hb, ho.wrote hw (Own.ne ho h.cells (by decide)), h.at_.comp.kept fun r hr => hw.block r (h.at_.comp.lt hr) (fun e => h.at_.comp.ne h.at_.cells (by rw [hr, e])), ?_⟩, h.ck⟩
  unfold BSt.ok bst
  simp only [List.length_append] at *
  omega
end
theorem ErrV.other {w : World} {v : Value} (h : IsErr w v) : ErrV w .other v := h
theorem ErrV.nested {w : World} (a : Addr) : ErrV w .other (.iface 148 (.pointer (some a))) := ⟨a, .inr rfl⟩
theorem dns_Question (w : World) (b : Nat) (mv cv : Value) (pre : Bytes) (id bits : Nat) (m : MSt) (h : BM w b mv cv pre id bits m) (a : AskM) (hty : a.type < 65536) (hcl : a.cls < 65536) (hlen : (pre ++ m.out).length + 1000 ≤ 200000000000000) (hE : Errs w) :
    Calls Tryd.prog 55 #[.pointer (some ⟨b, 0, none⟩), .agg (qCells (a.name.take 255) a.type a.cls).toArray] w fun e w' => ∃ v, e = .returned v ∧ ErrV w' (m.ask a).1 v ∧ BTo w b mv cv pre id bits w' (m.ask a).2 := by
  have hnm : (a.name.take 255).length ≤ 255 := by simp; omega
  generalize hnme : a.name.take 255 = nm at *
  refine calls_of_WC Tryd.func55 rfl Tryd.ntmps55 rfl ?_
  refine GO ?_
  refine WL_box vv ?_
  intro b0 w0 hb0 h0 g0
  have H0 := h.grow g0
  have hc0 := H0.cells
  have hE0 := hE.grow g0
  refine GO ?_
  first | refine WC_sif vv (fun hc => ?_) (fun hc => ?_) | refine WC_if vv (fun hc => ?_) (fun hc => ?_)
  · have h2 : m.sec < 2 := by have : (m.sec : Int) < 2 := (by simpa using hc); omega
    obtain ⟨tv, p, fr', hG, hI⟩ := hE0 0 (by decide)
    refine GO ?_
    have e1 : m.ask a = (.early, m) := by unfold MSt.ask; rw [if_pos h2]
    refine ret1 (v := .iface tv p) Tryd.results55 rfl ⟨_, rfl, ?_, ?_⟩
    · rw [e1]; exact ⟨fr', hG⟩
    · rw [e1]; exact BTo.of_grow g0 H0.refl
  have h2 : ¬ m.sec < 2 := by have : ¬ (m.sec : Int) < 2 := (by simpa using hc); omega
  refine GO ?_
  first | refine WC_sif vv (fun hc => ?_) (fun hc => ?_) | refine WC_if vv (fun hc => ?_) (fun hc => ?_)
  · have h3 : 2 < m.sec := by have : (2 : Int) < (m.sec : Int) := (by simpa using hc); omega
    obtain ⟨tv, p, fr', hG, hI⟩ := hE0 1 (by decide)
    refine GO ?_
    have e1 : m.ask a = (.done, m) := by unfold MSt.ask; rw [if_neg h2, if_pos h3]
    refine ret1 (v := .iface tv p) Tryd.results55 rfl ⟨_, rfl, ?_, ?_⟩
    · rw [e1]; exact ⟨fr', hG⟩
    · rw [e1]; exact BTo.of_grow g0 H0.refl
  have h3 : ¬ 2 < m.sec := by have : ¬ (2 : Int) < (m.sec : Int) := (by simpa using hc); omega
  have hask : m.ask a = (match packN nm m.out.length m.comp with
      | .bad c => (.other, { m with comp := c })
      | .ok o c => if m.count = 65535 then (.other, { m with comp := c }) else (.none, { ({ m with comp := c } : MSt).counted with out := m.out ++ o ++ two a.type ++ two a.cls })) := by
    unfold MSt.ask
    rw [if_neg h2, if_neg h3, hnme]
    rfl
  rw [hask]
  refine GO ?_
  refine WC_seq (WC_draws (fun w' => w'.heap[b]? = some (.cells #[mv, .int .u8 (m.sec : Int), .int .u16 (id : Int), .int .u16 (bits : Int), .int .u16 (m.q : Int), .int .u16 (m.an : Int), .int .u16 (m.ns : Int), .int .u16 (m.ar : Int), .int .i64 (pre.length : Int), cv] 110 (0, 0))) (by kernel_rfl) (fun w1 g => g.kept hc0) ?_)
  intro w1 g1 hS1
  have H1 := H0.grow g1
  refine WT 0 ?_
  refine WT 1 ?_
  refine WT 2 ?_
  refine WT 3 ?_
  refine WT 4 ?_
  refine WT 5 ?_
  refine WT 6 ?_
  refine WT 7 ?_
  refine WT 8 ?_
  refine WT 9 ?_
  refine WT 10 ?_
  refine WT 11 ?_
  refine WD_one (c := 12) (by kernel_rfl) rfl ?_
  have hpos : (pre ++ m.out).length - pre.length = m.out.length := by simp
  refine WL_fun rfl ((dns_Question_pack w1 b0 nm a.type a.cls hnm hty hcl (g1.kept h0) mv cv (pre ++ m.out) pre.length (by simp) H1.own m.comp H1.comp h.ck hlen (hE0.grow g1)).mono ?_)
  intro e w2 hP
  rw [hpos] at hP
  have hck2 := packN_comp nm m.out.length m.comp h.ck
  cases hpk : packN nm m.out.length m.comp with
  | bad c' =>
    rw [hpk] at hP hck2
    obtain ⟨v, tv, p, rfl, hI, P2⟩ := hP
    refine ⟨_, rfl, WL_nil ⟨P2.kept H1.comp hS1 (by decide), ?_⟩⟩
    have hS2 := P2.kept H1.comp hS1 (by decide)
    refine WT 13 ?_
    refine WT 14 ?_
    refine WT 15 ?_
    refine WT 16 ?_
    refine WT 17 ?_
    refine WD_done (by kernel_rfl) ?_
    refine GO ?_
    refine WL_neqNil vv ?_
    refine RUN ?_
    refine ret1 (v := .iface tv p) Tryd.results55 rfl ⟨_, rfl, ErrV.other hI, ?_⟩
    exact BTo.of_grow (g0.trans g1) ⟨mv, cv, H1.pk P2 hck2, P2.footC b, fun _ _ h => h⟩
  | ok out c' =>
    rw [hpk] at hP hck2
    obtain ⟨mv2, rfl, P2⟩ := hP
    have H2 := H1.pk P2 hck2
    refine ⟨_, rfl, WL_nil ⟨P2.kept H1.comp hS1 (by decide), ?_⟩⟩
    have hS2 := P2.kept H1.comp hS1 (by decide)
    refine WT 13 ?_
    refine WT 14 ?_
    refine WT 15 ?_
    refine WT 16 ?_
    refine WT 17 ?_
    refine WD_done (by kernel_rfl) ?_
    refine GO ?_
    refine WL_neqNil0 vv ?_
    refine RUN ?_
    refine WL_fun rfl ((dns_increment w2 b mv cv pre id bits _ H2 (by simp only; omega) (by simp only; omega) ((hE0.grow g1).pk P2 H1.comp)).mono ?_)
    intro e w3 hI
    have hcnt : ({ m with comp := c' } : MSt).count = m.count := rfl
    rw [hcnt] at hI
    by_cases hfull : m.count = 65535
    · rw [if_pos hfull] at hI
      obtain ⟨⟨tv, p, rfl, hI⟩, rfl⟩ := hI
      refine ⟨_, rfl, ?_⟩
      refine GO ?_
      refine WL_neqNil vv ?_
      refine RUN ?_
      refine ret1 (v := .iface tv p) Tryd.results55 rfl ⟨_, rfl, ?_, ?_⟩
      · simp only [if_pos hfull]; exact ErrV.other hI
      · simp only [if_pos hfull]
        exact BTo.of_grow (g0.trans g1) ⟨mv, cv, H2, P2.footC b, fun _ _ h => h⟩
    · rw [if_neg hfull] at hI
      obtain ⟨rfl, H3, hw3⟩ := hI
      refine ⟨_, rfl, ?_⟩
      refine GO ?_
      refine WL_neqNil0 vv ?_
      refine RUN ?_
      refine WL_store1 vv vv H3.cells (by simp) (by obtain ⟨ao, cp, e⟩ := P2.own.reads.value; rw [e]; rfl) ?_
      intro w4 hw4 h4
      refine GO ?_
      have ho3 : Own w3 mv2 (pre ++ (m.out ++ out ++ two a.type ++ two a.cls)) := by
        have := P2.own.wrote hw3 (Own.ne P2.own hS2 (by decide))
        simpa using this
      have hl12 := h.at_.ok
      unfold BSt.ok bst at hl12
      simp only [List.length_append] at hl12
      have H4 := H3.take ho3 (by simp only [List.length_append]; omega) hw4 h4
      refine ret1 (v := .nilIface) Tryd.results55 rfl ⟨_, rfl, ?_, ?_⟩
      · simp only [if_neg hfull]; rfl
      · simp only [if_neg hfull]
        refine BTo.of_grow (g0.trans g1) ⟨mv2, cv, H4, ?_, ?_⟩
        · exact ((P2.footC b).trans hw3 (fun k _ e => .inl e)).trans hw4 (fun k _ e => .inl e)
        · rintro k hk (e | e | e)
          · exact .inl e
          · rcases P2.at_ with hat | ⟨j, hj, hat⟩
            · exact .inr (.inl (by rw [← hat]; exact e))
            · rw [hat] at e; cases e; omega
          · exact .inr (.inr e)
end Go.Proofs.YtgkhfpkfjajdjaaDoor

/- What all methods that add a record share. -/
namespace Go.Proofs.YtgkhfpkfjajdjaaDoor
open Go.RowKit
set_option maxHeartbeats 2000000
set_option maxRecDepth 100000

theorem Own.shorter {w1 w3 : World} {mv mv1 : Value} {msg msg1 msg3 : Bytes} (h : Own w1 mv msg) (h1 : Own w1 mv1 msg1) (hb : mv1.ownBlock = mv.ownBlock) (h3 : Own w3 mv1 msg3) (hp : msg <+: msg3) : Own w3 mv msg := by
  rcases h.2 with ⟨e0, h0⟩ | ⟨g, cap, cur, e0, _, hgg, hn, hm, hs, htk⟩
  · rw [e0]; exact ⟨h.1, .inl ⟨rfl, h0⟩⟩
  · rcases h1.2 with ⟨e1, _⟩ | ⟨g1, cap1, cur1, e1, _, hgg1, hn1, hm1, hs1, htk1⟩
    · rw [e0, e1] at hb; simp [Value.ownBlock] at hb
    · rw [e0, e1] at hb
      simp only [Value.ownBlock, Option.some.injEq] at hb
      subst hb
      rw [hgg] at hgg1
      simp only [Option.some.injEq, Obj.cells.injEq] at hgg1
      have hcap : cap = cap1 := by
        have := hgg1.1
        subst this
        rw [hs] at hs1
        omega
      have hl : msg3.length = msg1.length := by
        obtain ⟨ao, cp, hh⟩ := h3.reads.value
        rw [e1] at hh
        simp only [Value.slice.injEq] at hh
        exact hh.2.1.symm
      rw [e0]
      rw [e1, ← hl] at h3
      exact ownsRow_shorter (by decide) h3 hcap (bv_prefix hp) (by rw [bv_length, Nat.mul_one])
theorem Pk.trans {w1 w2 w3 : World} {mv cv mv1 mv2 : Value} {msg msg1 msg2 : Bytes} {c1 c2 c : Option CMap} (h : Pk w1 mv cv msg w2 mv1 msg1 c1) (h2 : Pk w2 mv1 cv msg1 w3 mv2 msg2 c2) (hc : CompAt w1 cv c) (hp : msg <+: msg1) : Pk w1 mv cv msg w3 mv2 msg2 c2 := by
  refine ⟨h.was, h2.own, ?_, h2.comp, ?_, ?_⟩
  · rcases h.at_ with ha | ⟨k, hk, ha⟩
    · exact h.old.shorter h.own ha h2.old hp
    · rcases h.old.2 with ⟨e0, h0⟩ | ⟨g, cap, cur, e0, hb, hgg, hr⟩
      · rw [e0]; exact ⟨h.old.1, .inl ⟨rfl, h0⟩⟩
      · rw [e0]
        refine ⟨h.old.1, .inr ⟨g, cap, cur, rfl, hb, h2.chg.kept hgg ?_, hr⟩⟩
        rintro (e | e)
        · rw [ha] at e
          cases e
          have := (h.was.lt k (by rw [e0]; rfl)).2
          omega
        · exact h.comp.apart h.old g e (by rw [e0]; rfl)
  · refine h.chg.trans h2.chg fun k hk hf => ?_
    rcases hf with e | e
    · rcases h.at_ with ha | ⟨j, hj, ha⟩
      · exact .inl (by rw [← ha]; exact e)
      · rw [ha] at e; cases e; omega
    · exact .inr e
  · rcases h2.at_ with hb | ⟨k, hk, hb⟩
    · rw [hb]; exact h.at_
    · exact .inr ⟨k, Nat.le_trans h.chg.size hk, hb⟩
theorem rh_set (nm : Bytes) (hnm : nm.length ≤ 255) (ty ty' cl ttl len : Nat) : (rhCells nm ty cl ttl len).toArray.setIfInBounds (0 + 256) (.int .u16 (ty' : Int)) = (rhCells nm ty' cl ttl len).toArray := by
  apply Array.toList_inj.1
  rw [Array.toList_setIfInBounds]
  simp only [rhCells, Nat.zero_add]
  rw [List.set_append_right _ _ (by rw [nameList_length nm hnm]; omega), nameList_length nm hnm]
  rfl
theorem rhB_split (A : Bytes) (ty cl ttl len : Nat) (B : Bytes) : A ++ rhB ty cl ttl len ++ B = (A ++ (two ty ++ two cl ++ four ttl)) ++ (two len ++ B) := by
  simp [rhB]
/-- what a method that adds a record of a kind does -/
def ResPost (w : World) (b : Nat) (mv cv : Value) (pre : Bytes) (id bits : Nat) (K : KindM) (m : MSt) (r : RecM) (e : Ending) (w' : World) : Prop := ∃ v, e = .returned v ∧ ErrV w' (m.rec_ K r).1 v ∧ BTo w b mv cv pre id bits w' (m.rec_ K r).2
/-- what the pack method of a body does -/
def BodyP (F : FuncId) (T : TypeId) (bc : List Value) (body : Nat → Option CMap → PR) (LB : Nat) (I : World → Prop) : Prop := ∀ (w : World) (g : Nat) (mv cv : Value) (msg : Bytes) (st : Nat) (c : Option CMap), w.heap[g]? = some (.cells bc.toArray T (0, 0)) → st ≤ msg.length → Own w mv msg → CompAt w cv c → CompOk c → msg.length + 1000 + LB ≤ 200000000000000 → Errs w → I w →
  Calls Tryd.prog F #[.pointer (some ⟨g, 0, none⟩), mv, cv, .int .i64 (st : Int)] w (PackPost w mv cv msg (body (msg.length - st) c))
end Go.Proofs.YtgkhfpkfjajdjaaDoor

/- Conversions of what is given: questions and headers of records; errors. -/
namespace Go.Proofs.YtgkhfpkfjajdjaaDoor
open Go.RowKit
set_option maxHeartbeats 2000000
set_option maxRecDepth 100000

theorem build_name (nm : Bytes) (h : nm.length ≤ 255) : buildL [(0, 256)] (List.replicate 256 (Value.int .u8 0)) [(0, .agg (nameCells nm))] = nameList nm := by
  simp only [buildL, over, List.getD_cons_zero, List.take_zero, List.nil_append, Value.cells, nameCells, Nat.zero_add]
  rw [List.drop_of_length_le (by simp [nameList_length nm h]), List.append_nil]
theorem over_name (nm : Bytes) (h : nm.length ≤ 255) (rest : List Value) : over (List.replicate 256 (Value.int .u8 0) ++ rest) 0 (nameList nm) = nameList nm ++ rest := by
  simp only [over, List.take_zero, List.nil_append, Nat.zero_add]
  rw [nameList_length nm h, List.drop_left' (by simp)]
theorem over_after (L rest : List Value) (n j : Nat) (hn : L.length = n) (x : List Value) : over (L ++ rest) (n + j) x = L ++ over rest j x := by
  subst hn
  simp only [over]
  rw [List.take_length_add_append, Nat.add_assoc, List.drop_length_add_append]
  simp
theorem build_q (nm : Bytes) (h : nm.length ≤ 255) (ty cl : Nat) : buildL [(0, 256), (256, 1), (257, 1)] (List.replicate 256 (Value.int .u8 0) ++ [Value.int .u16 0, Value.int .u16 0]) [(0, .agg (nameCells nm)), (1, .int .u16 (ty : Int)), (2, .int .u16 (cl : Int))] = qCells nm ty cl := by
  have hl := nameList_length nm h
  simp only [buildL, List.getD_cons_zero, List.getD_cons_succ, Value.cells, nameCells]
  rw [over_name nm h, show (256 : Nat) = 256 + 0 from rfl, over_after _ _ 256 0 hl, show (257 : Nat) = 256 + 1 from rfl, over_after _ _ 256 1 hl]
  rfl
theorem build_rh (nm : Bytes) (h : nm.length ≤ 255) (ty cl ttl len : Nat) : buildL [(0, 256), (256, 1), (257, 1), (258, 1), (259, 1)] (List.replicate 256 (Value.int .u8 0) ++ [Value.int .u16 0, Value.int .u16 0, Value.int .u32 0, Value.int .u16 0]) [(0, .agg (nameCells nm)), (1, .int .u16 (ty : Int)), (2, .int .u16 (cl : Int)), (3, .int .u32 (ttl : Int)), (4, .int .u16 (len : Int))] = rhCells nm ty cl ttl len := by
  have hl := nameList_length nm h
  simp only [buildL, List.getD_cons_zero, List.getD_cons_succ, Value.cells, nameCells]
  rw [over_name nm h, show (256 : Nat) = 256 + 0 from rfl, over_after _ _ 256 0 hl, show (257 : Nat) = 256 + 1 from rfl, over_after _ _ 256 1 hl, show (258 : Nat) = 256 + 2 from rfl, over_after _ _ 256 2 hl, show (259 : Nat) = 256 + 3 from rfl, over_after _ _ 256 3 hl]
  rfl
theorem impl_questionOf (w : World) (a : AskM) : Calls Tryd.prog 56 #[.agg (askCells a).toArray] w (RetV w (.agg (qCells (a.name.take 255) a.type a.cls).toArray)) := by
  have hnm : (a.name.take 255).length ≤ 255 := by simp; omega
  refine calls_of_WC Tryd.func56 rfl Tryd.ntmps56 rfl ?_
  refine GO ?_
  refine WL_box vv ?_
  intro b0 w0 hb0 h0 g0
  refine WL_alloc ?_
  intro b1 w1 hb1 h1 g1
  refine GO ?_
  refine WC_seq (WC_draws (fun w' => w'.heap[b0]? = some (.cells (askCells a).toArray 65 (0, 0))) (by kernel_rfl) (fun w1 g => g.kept (g1.kept h0)) ?_)
  intro w2 g2 hS2
  refine WT 0 ?_
  refine WT 1 ?_
  refine WT 3 ?_
  refine WT 4 ?_
  refine WT 5 ?_
  refine WT 6 ?_
  refine WD_one (c := 2) (by kernel_rfl) rfl ?_
  refine WL_fun rfl ((impl_nameOf _ (a.name.take 255) (by simp) w2).mono ?_)
  rintro e w3 ⟨rfl, g3⟩
  have g3 : Grows w2 w3 := g3
  refine ⟨_, rfl, WL_nil ⟨g3.kept hS2, ?_⟩⟩
  have hS3 := g3.kept hS2
  refine WD_one (c := 7) (by kernel_rfl) rfl ?_
  refine WL_build (vs := [(0, .agg (nameCells (a.name.take 255))), (1, .int .u16 (a.type : Int)), (2, .int .u16 (a.cls : Int))]) (l := qCells (a.name.take 255) a.type a.cls) (EvL.eq ⟨rfl, vv, rfl, vv, rfl, vv, trivial⟩) ⟨⟨0, by simp [Value.cells, nameCells, nameList_length _ hnm]⟩, ⟨_, rfl⟩, ⟨_, rfl⟩, trivial⟩ (build_q _ hnm _ _) ?_
  refine WL_nil ⟨hS3, ?_⟩
  refine WD_one (c := 8) (by kernel_rfl) rfl ?_
  refine WL_storeRow (new := (qCells (a.name.take 255) a.type a.cls).toArray) vv vv ((g2.trans g3).kept h1) (by simp [qCells, nameList_length _ hnm]) (by simp [Value.cells]) (by intro u hu; simp only [qCells, List.mem_append] at hu; rcases hu with hu | hu; (exact nameList_one _ u hu); (simp at hu; rcases hu with rfl | rfl <;> rfl)) ?_
  intro w4 hw4 h4
  have G4 := (g0.trans (g1.trans (g2.trans g3))).wrote hw4 (by have := g0.size; omega)
  refine WL_nil ⟨hw4.kept hS3 (by have := (Array.getElem?_eq_some_iff.1 h0).1; omega), ?_⟩
  refine WD_done (by kernel_rfl) ?_
  refine GO ?_
  exact retc Tryd.results56 rfl h4 Tryd.underlying121 rfl (by rw [show (qCells (a.name.take 255) a.type a.cls).toArray.size = 258 by simp [qCells, nameList_length _ hnm]]; kernel_rfl) ⟨rfl, G4⟩
theorem impl_resourceHeaderOf (w : World) (x : RecM × RecV) : Calls Tryd.prog 57 #[.agg (recCells x).toArray] w (RetV w (.agg (rhCells (x.1.name.take 255) x.1.type x.1.cls x.1.ttl x.1.len).toArray)) := by
  have hnm : (x.1.name.take 255).length ≤ 255 := by simp; omega
  refine calls_of_WC Tryd.func57 rfl Tryd.ntmps57 rfl ?_
  refine GO ?_
  refine WL_box vv ?_
  intro b0 w0 hb0 h0 g0
  refine WL_alloc ?_
  intro b1 w1 hb1 h1 g1
  refine GO ?_
  refine WC_seq (WC_draws (fun w' => w'.heap[b0]? = some (.cells (recCells x).toArray 30 (0, 0))) (by kernel_rfl) (fun w1 g => g.kept (g1.kept h0)) ?_)
  intro w2 g2 hS2
  refine WT 0 ?_
  refine WT 1 ?_
  refine WT 3 ?_
  refine WT 4 ?_
  refine WT 5 ?_
  refine WT 6 ?_
  refine WT 7 ?_
  refine WT 8 ?_
  refine WT 9 ?_
  refine WT 10 ?_
  refine WD_one (c := 2) (by kernel_rfl) rfl ?_
  refine WL_fun rfl ((impl_nameOf _ (x.1.name.take 255) (by simp) w2).mono ?_)
  rintro e w3 ⟨rfl, g3⟩
  have g3 : Grows w2 w3 := g3
  refine ⟨_, rfl, WL_nil ⟨g3.kept hS2, ?_⟩⟩
  have hS3 := g3.kept hS2
  refine WD_one (c := 11) (by kernel_rfl) rfl ?_
  refine WL_build (vs := [(0, .agg (nameCells (x.1.name.take 255))), (1, .int .u16 (x.1.type : Int)), (2, .int .u16 (x.1.cls : Int)), (3, .int .u32 (x.1.ttl : Int)), (4, .int .u16 (x.1.len : Int))]) (l := rhCells (x.1.name.take 255) x.1.type x.1.cls x.1.ttl x.1.len) (EvL.eq ⟨rfl, vv, rfl, vv, rfl, vv, rfl, vv, rfl, vv, trivial⟩) ⟨⟨0, by simp [Value.cells, nameCells, nameList_length _ hnm]⟩, ⟨_, rfl⟩, ⟨_, rfl⟩, ⟨_, rfl⟩, ⟨_, rfl⟩, trivial⟩ (build_rh _ hnm _ _ _ _) ?_
  refine WL_nil ⟨hS3, ?_⟩
  refine WD_one (c := 12) (by kernel_rfl) rfl ?_
  refine WL_storeRow (new := (rhCells (x.1.name.take 255) x.1.type x.1.cls x.1.ttl x.1.len).toArray) vv vv ((g2.trans g3).kept h1) (by simp [rhCells, nameList_length _ hnm]) (by simp [Value.cells]) (by intro u hu; simp only [rhCells, List.mem_append] at hu; rcases hu with hu | hu; (exact nameList_one _ u hu); (simp at hu; rcases hu with rfl | rfl | rfl | rfl <;> rfl)) ?_
  intro w4 hw4 h4
  have G4 := (g0.trans (g1.trans (g2.trans g3))).wrote hw4 (by have := g0.size; omega)
  refine WL_nil ⟨hw4.kept hS3 (by have := (Array.getElem?_eq_some_iff.1 h0).1; omega), ?_⟩
  refine WD_done (by kernel_rfl) ?_
  refine GO ?_
  exact retc Tryd.results57 rfl h4 Tryd.underlying76 rfl (by rw [show (rhCells (x.1.name.take 255) x.1.type x.1.cls x.1.ttl x.1.len).toArray.size = 260 by simp [rhCells, nameList_length _ hnm]]; kernel_rfl) ⟨rfl, G4⟩
end Go.Proofs.YtgkhfpkfjajdjaaDoor

/- What faultOf makes of an error. -/
namespace Go.Proofs.YtgkhfpkfjajdjaaDoor
open Go.RowKit
set_option maxHeartbeats 2000000
set_option maxRecDepth 100000

/-- the two errors that faultOf knows lie apart -/
def Known (w : World) : Prop := ∃ a0 a1 fr0 fr1, a0 ≠ a1 ∧ w.heap[0]? = some (.cells #[.iface 168 (.pointer (some a0))] 78 fr0) ∧ w.heap[1]? = some (.cells #[.iface 168 (.pointer (some a1))] 78 fr1) ∧ Solid w a0.block ∧ Solid w a1.block
theorem info_of {P : Program} {t : TypeId} {α : Type} {g : TypeInfo → α} {x : α} (h : (P.info? t).map g = some x) : ∃ i, P.info? t = some i ∧ g i = x := by
  cases e : P.info? t with
  | none => rw [e] at h; cases h
  | some i => rw [e] at h; cases h; exact ⟨i, rfl, rfl⟩
theorem eql_err (w : World) {v : Value} {a : Addr} (h : IsErr w v) (ha : Solid w a.block) : ∃ r : Bool, (binOp .eql 78 v (.iface 168 (.pointer (some a)))).run Tryd.prog w = .ok (.bool r) w ∧ (r = true ↔ v = .iface 168 (.pointer (some a))) := by
  obtain ⟨i, hi, hic⟩ : ∃ i, Tryd.prog.info? 168 = some i ∧ i.comparable = true := info_of (g := fun i : TypeInfo => i.comparable) (by kernel_rfl)
  obtain ⟨j, hj, hjs⟩ : ∃ j, Tryd.prog.info? 187 = some j ∧ j.size = 1 := info_of (g := fun i : TypeInfo => i.size) (by kernel_rfl)
  obtain ⟨b, ⟨rfl, c, t, hb⟩ | rfl⟩ := h
  · by_cases e : b = a
    · subst e
      exact ⟨true, run_eql_iface_ptr_same w b Tryd.underlying78 Tryd.underlying168 hi hic hj, by simp⟩
    · obtain ⟨c', t', ha⟩ := ha
      exact ⟨false, run_eql_iface_ptr_other w Tryd.underlying78 Tryd.underlying168 hi hic hj (by omega) e hb ha, by simp [e]⟩
  · have h : ∀ d : Nat, (Op.equalIn (d + 1) 78 (.iface 148 (.pointer (some b))) (.iface 168 (.pointer (some a)))).run Tryd.prog w = .ok false w := fun d => by simp [Op.equalIn, run_underlying Tryd.underlying78]
    refine ⟨false, ?_, by simp⟩
    simp only [binOp]
    simp [Op.equal, Op.maxDepth, h 9999]
theorem ErrV.is {w : World} {f : Flt} {v : Value} (h : ErrV w f v) (hn : f ≠ .none) (hK : Known w) : IsErr w v := by
  obtain ⟨a0, a1, fr0, fr1, hne, h0, h1, s0, s1⟩ := hK
  cases f with
  | none => exact absurd rfl hn
  | early => obtain ⟨fr, h⟩ := h; rw [h0] at h; cases h; exact ⟨a0, .inl ⟨rfl, s0⟩⟩
  | done => obtain ⟨fr, h⟩ := h; rw [h1] at h; cases h; exact ⟨a1, .inl ⟨rfl, s1⟩⟩
  | other => exact h
theorem impl_faultOf (w : World) (f : Flt) (v : Value) (h : ErrV w f v) (hK : Known w) :
    Calls Tryd.prog 50 #[v] w fun e w' => ∃ n, e = .returned (.int .i64 n) ∧ w = w' ∧ f.code n := by
  by_cases hn : f = .none
  · subst hn
    cases h
    refine calls_of_WC Tryd.func50 rfl Tryd.ntmps50 rfl ?_
    refine GO ?_
    refine WL_eqlNil0 vv ?_
    refine GO ?_
    first | refine WC_sif vv (fun hc => ?_) (fun hc => ?_) | refine WC_if vv (fun hc => ?_) (fun hc => ?_)
    · refine GO ?_
      exact ret1 (v := .int .i64 0) Tryd.results50 rfl ⟨_, rfl, rfl, rfl⟩
    · cases hc
  have hI := h.is hn hK
  obtain ⟨a0, a1, fr0, fr1, hne, h0, h1, s0, s1⟩ := hK
  obtain ⟨tv, p, rfl⟩ : ∃ tv p, v = .iface tv p := by obtain ⟨a, ⟨rfl, _⟩ | rfl⟩ := hI <;> exact ⟨_, _, rfl⟩
  obtain ⟨q0, r0, i0⟩ := eql_err w hI s0
  obtain ⟨q1, r1, i1⟩ := eql_err w hI s1
  refine calls_of_WC Tryd.func50 rfl Tryd.ntmps50 rfl ?_
  refine GO ?_
  refine WL_eqlNil vv ?_
  refine GO ?_
  first | refine WC_sif vv (fun hc => ?_) (fun hc => ?_) | refine WC_if vv (fun hc => ?_) (fun hc => ?_)
  · cases hc
  refine GO ?_
  refine WL_bin (v := .bool q0) vv vv (by simpa [eqGuard] using r0) ?_
  refine GO ?_
  first | refine WC_sif vv (fun hc => ?_) (fun hc => ?_) | refine WC_if vv (fun hc => ?_) (fun hc => ?_)
  · have e : (Value.iface tv p) = .iface 168 (.pointer (some a0)) := i0.1 (by simpa using hc)
    refine GO ?_
    refine ret1 (v := .int .i64 1) Tryd.results50 rfl ⟨_, rfl, rfl, ?_⟩
    cases f with
    | none => exact absurd rfl hn
    | early => rfl
    | done => obtain ⟨fr, h⟩ := h; rw [h1, e] at h; cases h; exact absurd rfl hne
    | other => show (1 : Int) ≠ 0; decide
  have e0 : ¬ (Value.iface tv p) = .iface 168 (.pointer (some a0)) := fun e => by have := i0.2 e; simp [this] at hc
  refine GO ?_
  refine WL_bin (v := .bool q1) vv vv (by simpa [eqGuard] using r1) ?_
  refine GO ?_
  first | refine WC_sif vv (fun hc => ?_) (fun hc => ?_) | refine WC_if vv (fun hc => ?_) (fun hc => ?_)
  · have e : (Value.iface tv p) = .iface 168 (.pointer (some a1)) := i1.1 (by simpa using hc)
    refine GO ?_
    refine ret1 (v := .int .i64 2) Tryd.results50 rfl ⟨_, rfl, rfl, ?_⟩
    cases f with
    | none => exact absurd rfl hn
    | early => obtain ⟨fr, h⟩ := h; rw [h0] at h; cases h; exact absurd rfl e0
    | done => rfl
    | other => show (2 : Int) ≠ 0; decide
  have e1 : ¬ (Value.iface tv p) = .iface 168 (.pointer (some a1)) := fun e => by have := i1.2 e; simp [this] at hc
  refine GO ?_
  refine ret1 (v := .int .i64 3) Tryd.results50 rfl ⟨_, rfl, rfl, ?_⟩
  cases f with
  | none => exact absurd rfl hn
  | early => obtain ⟨fr, h⟩ := h; rw [h0] at h; cases h; exact absurd rfl e0
  | done => obtain ⟨fr, h⟩ := h; rw [h1] at h; cases h; exact absurd rfl e1
  | other => show (3 : Int) ≠ 0; decide
end Go.Proofs.YtgkhfpkfjajdjaaDoor

/- How steps lie in memory, and what a Builder's run leaves. -/
namespace Go.Proofs.YtgkhfpkfjajdjaaDoor
open Go.RowKit

def stepCells (x : StepM × RecV) : List Value := .int .i64 x.1.act :: (askCells x.1.ask ++ recCells (x.1.rec_, x.2))
theorem stepCells_length (x : StepM × RecV) : (stepCells x).length = 20 := rfl
structure StepsIn (w : World) (v : Value) (l : List (StepM × RecV)) : Prop where
  at_ : ListAt w stepCells 20 v l
  asks : ∀ x ∈ l, AskOk x.1.ask
  recs : ∀ x ∈ l, RecAt w (x.1.rec_, x.2)
  len : l.length ≤ 1000000
theorem StepsIn.grow {w w' : World} {v : Value} {l : List (StepM × RecV)} (h : StepsIn w v l) (hg : Grows w w') : StepsIn w' v l := ⟨h.at_.grow hg, h.asks, fun x hx => (h.recs x hx).grow hg, h.len⟩
def stepsOf (l : List (StepM × RecV)) : List StepM := l.map (·.1)
/-- what a function that adds a record does with one record -/
def AddC (F : FuncId) (K : KindM) (LB : RecM → Nat) : Prop := ∀ (w : World) (b : Nat) (mv cv : Value) (pre : Bytes) (id bits : Nat) (m : MSt) (x : RecM × RecV), BM w b mv cv pre id bits m → RecAt w x → (pre ++ m.out).length + 2000 + LB x.1 ≤ 200000000000000 → Errs w →
  Calls Tryd.prog F #[.pointer (some ⟨b, 0, none⟩), .agg (rhCells (x.1.name.take 255) x.1.type x.1.cls x.1.ttl x.1.len).toArray, .agg (recCells x).toArray] w (fun e w' => ∃ v, e = .returned v ∧ ErrV w' (m.rec_ K x.1).1 v ∧ BTo w b mv cv pre id bits w' (m.rec_ K x.1).2)
/-- the numbers that tell faults -/
def Codes (fs : List Flt) (cs : List Int) : Prop := fs.length = cs.length ∧ ∀ (i : Nat) (f : Flt) (c : Int), fs[i]? = some f → cs[i]? = some c → f.code c
theorem Codes.nil : Codes [] [] := ⟨rfl, by simp⟩
theorem Codes.snoc {fs : List Flt} {cs : List Int} (h : Codes fs cs) {f : Flt} {c : Int} (hf : f.code c) : Codes (fs ++ [f]) (cs ++ [c]) := by
  refine ⟨by simp [h.1], fun i g d hg hd => ?_⟩
  by_cases hi : i < fs.length
  · rw [List.getElem?_append_left hi] at hg
    rw [List.getElem?_append_left (by rw [← h.1]; exact hi)] at hd
    exact h.2 i g d hg hd
  · rw [List.getElem?_append_right (by omega)] at hg
    rw [List.getElem?_append_right (by rw [← h.1]; omega)] at hd
    have h0 := (List.getElem?_eq_some_iff.1 hg).1
    simp only [List.length_singleton] at h0
    have e0 : i - fs.length = 0 := by omega
    rw [← h.1, e0] at hd
    rw [e0] at hg
    simp only [List.getElem?_cons_zero, Option.some.injEq] at hg hd
    subst hg hd
    exact hf
def iv (cs : List Int) : List Value := cs.map (Value.int .i64)
theorem iv_length (cs : List Int) : (iv cs).length = cs.length := by simp [iv]
/-- what is returned, of a Builder that went through steps behind bytes -/
structure BuiltIs (w w' : World) (buf : Bytes) (K : KindM) (h : HeadM) (ss : List StepM) (v fv dv : Value) (cs : List Int) : Prop where
  val : v = .agg #[fv, dv, .int .i64 0]
  codes : Codes (MSt.steps K .first ss).1 cs
  faults : Acc w.heap.size w' 3 1 fv cs.length (iv cs)
  data : AccB w.heap.size w' dv (buf ++ (MSt.steps K .first ss).2.final h)
  grows : Grows w w'
def BuiltP (w : World) (buf : Bytes) (K : KindM) (h : HeadM) (ss : List StepM) (e : Ending) (w' : World) : Prop := ∃ v fv dv cs, e = .returned v ∧ BuiltIs w w' buf K h ss v fv dv cs
/-! a step's bounds -/
theorem start_out (m : MSt) (k : Nat) : (m.start k).2.out = m.out := by unfold MSt.start; split <;> rfl
theorem counted_out (m : MSt) : m.counted.out = m.out := by unfold MSt.counted; split <;> (try split) <;> (try split) <;> rfl
theorem step_out (K : KindM) (m : MSt) (s : StepM) : m.out.length ≤ (m.step K s).2.out.length := by
  unfold MSt.step
  split
  · exact Nat.le_refl _
  split
  · rw [start_out]; exact Nat.le_refl _
  split
  · rw [start_out]; exact Nat.le_refl _
  split
  · rw [start_out]; exact Nat.le_refl _
  split
  · rw [start_out]; exact Nat.le_refl _
  split
  · unfold MSt.ask
    split
    · exact Nat.le_refl _
    split
    · exact Nat.le_refl _
    split
    · exact Nat.le_refl _
    split
    · exact Nat.le_refl _
    · simp only [List.length_append]; omega
  split
  · unfold MSt.rec_
    split
    · exact Nat.le_refl _
    split
    · exact Nat.le_refl _
    split
    · exact Nat.le_refl _
    split
    · exact Nat.le_refl _
    split
    · exact Nat.le_refl _
    split
    · exact Nat.le_refl _
    · simp only [List.length_append]; omega
  · exact Nat.le_refl _
theorem steps_out (K : KindM) : ∀ (ss : List StepM) (m : MSt), m.out.length ≤ (MSt.steps K m ss).2.out.length
  | [], m => Nat.le_refl _
  | s :: ss, m => Nat.le_trans (step_out K m s) (steps_out K ss _)
theorem steps_take (K : KindM) (m : MSt) (ss : List StepM) (i : Nat) (hi : i < ss.length) : MSt.steps K m (ss.take (i + 1)) = ((MSt.steps K m (ss.take i)).1 ++ [((MSt.steps K m (ss.take i)).2.step K ss[i]).1], ((MSt.steps K m (ss.take i)).2.step K ss[i]).2) := by
  rw [List.take_succ_eq_append_getElem hi, steps_append]
  rfl
theorem steps_take_out (K : KindM) (m : MSt) (ss : List StepM) (i : Nat) : (MSt.steps K m (ss.take i)).2.out.length ≤ (MSt.steps K m ss).2.out.length := by
  conv => rhs; rw [← List.take_append_drop i ss, steps_append]
  exact steps_out K _ _
theorem start_sec (m : MSt) (k : Nat) (h : 1 ≤ m.sec) (hk : 1 ≤ k) : 1 ≤ (m.start k).2.sec := by unfold MSt.start; split <;> simp [h, hk]
theorem counted_sec (m : MSt) : m.counted.sec = m.sec := by unfold MSt.counted; split <;> (try split) <;> (try split) <;> rfl
theorem step_sec (K : KindM) (m : MSt) (s : StepM) (h : 1 ≤ m.sec) : 1 ≤ (m.step K s).2.sec := by
  unfold MSt.step
  split
  · exact h
  split
  · exact start_sec m 2 h (by omega)
  split
  · exact start_sec m 3 h (by omega)
  split
  · exact start_sec m 4 h (by omega)
  split
  · exact start_sec m 5 h (by omega)
  split
  · unfold MSt.ask
    split
    · exact h
    split
    · exact h
    split
    · exact h
    split
    · exact h
    · simp only [counted_sec]; exact h
  split
  · unfold MSt.rec_
    split
    · exact h
    split
    · exact h
    split
    · exact h
    split
    · exact h
    split
    · exact h
    split
    · exact h
    · simp only [counted_sec]; exact h
  · exact h
theorem steps_sec (K : KindM) : ∀ (ss : List StepM) (m : MSt), 1 ≤ m.sec → 1 ≤ (MSt.steps K m ss).2.sec
  | [], m, h => h
  | s :: ss, m, h => steps_sec K ss _ (step_sec K m s h)
end Go.Proofs.YtgkhfpkfjajdjaaDoor
