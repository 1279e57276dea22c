/- The laws' own helpers: fine and steps. -/
import Derived.Test.YtgkhfpkfjajdjaaDoorG8
import Derived.Test.YtgkhfpkfjajdjaaDoorG4
import Derived.Test.YtgkhfpkfjajdjaaDoorG5
set_option linter.unusedVariables false
set_option linter.unusedSimpArgs false
namespace Go.Proofs.YtgkhfpkfjajdjaaDoor
open Go.RowKit
set_option maxHeartbeats 2000000
set_option maxRecDepth 100000

def allZero (cs : List Int) : Bool := cs.all (· == 0)
theorem iv_get (cs : List Int) (i : Nat) (hi : i < cs.length) : (iv cs)[i]? = some (.int .i64 cs[i]) := by simp [iv, hi]
theorem allZero_cut {cs : List Int} {i : Nat} (hi : i < cs.length) (h : cs[i] ≠ 0) : allZero cs = false := by
  cases e : allZero cs with
  | false => rfl
  | true => exact absurd (by simpa using List.all_eq_true.1 e cs[i] (by simp)) h
theorem codes_none {fs : List Flt} {cs : List Int} (h : Codes fs cs) (hn : noFlt fs) : allZero cs = true := by
  refine List.all_eq_true.2 fun c hc => ?_
  obtain ⟨i, hi⟩ := List.mem_iff_getElem?.1 hc
  have hl := (List.getElem?_eq_some_iff.1 hi).1
  rw [← h.1] at hl
  have := h.2 i fs[i] c (by simp [hl]) hi
  rw [hn fs[i] (by simp)] at this
  have e : c = 0 := this
  simpa using e
theorem laws_fine (w : World) (fv dv lv : Value) (cs : List Int) (n : Nat) (hf : ReadsAt w 1 fv cs.length (iv cs)) (hd : ∃ ao len cap, dv = .slice ao len cap) (ao : Option Addr) (cap : Nat) (hl : lv = .slice ao n cap) (hcl : cs.length ≤ 1000000) :
    Calls Tryd.prog 19 #[.agg #[fv, dv, .int .i64 0], lv] w (RetV w (.bool (allZero cs && (cs.length == n)))) := by
  subst hl
  obtain ⟨ad, ld, cd, rfl⟩ := hd
  obtain ⟨af, cf, rfl⟩ := hf.value
  refine calls_of_WC Tryd.func19 rfl Tryd.ntmps19 rfl ?_
  refine GO ?_
  refine WL_box vv ?_
  intro b2 w1 hb2 h2 g1
  refine GO ?_
  refine WC_loop (fun m f w' => ∃ (i : Nat), m = cs.length - i ∧ i ≤ cs.length ∧ EnvHas f [(1, .slice ao n cap), (2, .pointer (some ⟨b2, 0, none⟩)), (8, .slice af cs.length cf), (9, .int .i64 (cs.length : Int)), (10, .int .i64 (i : Int))] ∧ w' = w1 ∧ allZero (cs.take i) = true) cs.length ?_ ?_
  · exact ⟨0, rfl, Nat.zero_le _, ⟨rfl, rfl, rfl, rfl, rfl, trivial⟩, rfl, rfl⟩
  rintro m f' w2 ⟨i, rfl, hi, he, rfl, hz⟩
  obtain ⟨f, rfl⟩ := he.form
  refine GO ?_
  first | refine WC_sif vv (fun hc => ?_) (fun hc => ?_) | refine WC_if vv (fun hc => ?_) (fun hc => ?_)
  · have hlt : i < cs.length := by simpa using hc
    refine GO ?_
    obtain ⟨b, o, cap', hv, hcell⟩ := (ReadsAt.grow hf g1).form (by rw [iv_length]; omega)
    cases hv
    refine GO ?_
    refine WL_index vv vv hlt ?_
    refine WL_load_cell vv (by rw [Nat.mul_one]; exact hcell i _ (iv_get cs i hlt)) ?_
    refine GO ?_
    first | refine WC_sif vv (fun hc => ?_) (fun hc => ?_) | refine WC_if vv (fun hc => ?_) (fun hc => ?_)
    · have hne : cs[i] ≠ 0 := by simpa using hc
      refine GO ?_
      refine ret1 (v := .bool false) Tryd.results19 rfl ⟨?_, g1⟩
      rw [allZero_cut hlt hne]
      rfl
    have hez : cs[i] = 0 := by simpa using hc
    refine GO ?_
    refine WL_inc vv (by omega) ?_
    refine GO ?_
    refine ⟨cs.length - (i + 1), by omega, i + 1, rfl, hlt, ⟨rfl, rfl, rfl, rfl, rfl, trivial⟩, rfl, ?_⟩
    rw [List.take_succ_eq_append_getElem hlt]
    simp only [allZero, List.all_append, Bool.and_eq_true] at hz ⊢
    exact ⟨hz, by simp [hez]⟩
  have hge : i = cs.length := by have := of_decide_eq_false hc; omega
  subst hge
  rw [List.take_length] at hz
  refine GO ?_
  refine RUN ?_
  refine ret1 (v := .bool ((cs.length : Int) == (n : Int))) Tryd.results19 rfl ⟨?_, g1⟩
  rw [hz, Bool.true_and]
  congr 2
  by_cases e : cs.length = n
  · simp [e]
  · have e' : ¬ (cs.length : Int) = (n : Int) := by omega
    rw [beq_eq_false_iff_ne.2 e, beq_eq_false_iff_ne.2 e']
/-! steps -/
def rv0 : RecV := ⟨.slice none 0 0, .slice none 0 0, .slice none 0 0⟩
def sS (k : Int) : StepM × RecV := (stepS k, rv0)
def sA (a : AskM) : StepM × RecV := (stepA a, rv0)
def sR (x : RecM × RecV) : StepM × RecV := (stepR x.1, x.2)
def secsV : Nat → List (List (RecM × RecV)) → List (StepM × RecV)
  | _, [] => []
  | i, rs :: l => sS (3 + i) :: rs.map sR ++ secsV (i + 1) l
def stepsV (short : Bool) (asks : List AskM) (secs : List (List (RecM × RecV))) : List (StepM × RecV) :=
  (if short then [sS 1] else []) ++ sS 2 :: asks.map sA ++ secsV 0 secs
theorem secsV_of : ∀ (i : Nat) (secs : List (List (RecM × RecV))), stepsOf (secsV i secs) = secsM i (secs.map recsOf)
  | _, [] => rfl
  | i, rs :: l => by
    have ih := secsV_of (i + 1) l
    simp only [stepsOf] at ih
    simp only [secsV, secsM, stepsOf, List.map_append, List.map_cons, List.map_map, ih, recsOf]
    rfl
theorem stepsV_of (short : Bool) (asks : List AskM) (secs : List (List (RecM × RecV))) : stepsOf (stepsV short asks secs) = stepsM short asks (secs.map recsOf) := by
  have h := secsV_of 0 secs
  simp only [stepsOf] at h
  simp only [stepsV, stepsM, stepsOf, List.map_append, List.map_cons, List.map_map, h]
  cases short <;> rfl
theorem secsV_take (secs : List (List (RecM × RecV))) : ∀ (j i : Nat), (hj : j < secs.length) → secsV i (secs.take (j + 1)) = secsV i (secs.take j) ++ (sS (3 + ((i + j : Nat) : Int)) :: secs[j].map sR) := by
  induction secs with
  | nil => intro j i hj; simp at hj
  | cons rs l ih =>
    intro j i hj
    cases j with
    | zero => simp [secsV]
    | succ j =>
      simp only [List.take_succ_cons, secsV]
      rw [ih j (i + 1) (by simpa using hj)]
      simp only [List.getElem_cons_succ, List.append_assoc, List.cons_append]
      rw [show i + 1 + j = i + (j + 1) by omega]
theorem rec0_at (w : World) : RecAt w (rec0, rv0) := by
  refine ⟨⟨by simp [rec0], by simp [rec0], by simp [rec0], by simp [rec0], by decide, by decide, by decide, by decide, by decide, by decide, by decide, by decide, by decide, by simp [rec0], by simp [rec0]⟩, ReadsAt.nil w 1, ReadsAt.nil w 1, ⟨[], rfl, ⟨by simp, ReadsAt.nil w 2⟩, by simp⟩⟩
theorem ask0_ok : AskOk ask0 := ⟨by simp [ask0], by decide, by decide⟩
/-- sections of records, a slice of slices -/
structure SecsAt (w : World) (v : Value) (ls : List (List (RecM × RecV))) : Prop where
  at_ : ∃ vs, ReadsAt w 1 v ls.length vs ∧ ∀ (j : Nat) (u : Value) (l : List (RecM × RecV)), vs[j]? = some u → ls[j]? = some l → RecsAt w u l
theorem SecsAt.grow {w w' : World} {v : Value} {ls : List (List (RecM × RecV))} (h : SecsAt w v ls) (hg : Grows w w') : SecsAt w' v ls := by
  obtain ⟨vs, h1, h2⟩ := h.at_
  exact ⟨vs, h1.grow hg, fun j u l hu hl => (h2 j u l hu hl).grow hg⟩
theorem step_one {w : World} {x : StepM × RecV} (hr : RecAt w (x.1.rec_, x.2)) : ∀ u ∈ stepCells x, u.oneCell' = true := by
  intro u hu
  simp only [stepCells, List.mem_cons, List.mem_append] at hu
  rcases hu with rfl | hu | hu
  · rfl
  · simp only [askCells, List.mem_cons, List.not_mem_nil, or_false] at hu
    rcases hu with rfl | rfl | rfl <;> rfl
  · exact recCells_one hr u hu
theorem secsV_len : ∀ (i : Nat) (secs : List (List (RecM × RecV))), (secsV i secs).length = secs.length + (secs.map List.length).sum
  | _, [] => rfl
  | i, rs :: l => by simp [secsV, secsV_len (i + 1) l]; omega
theorem secsV_mem {x : StepM × RecV} : ∀ {i : Nat} {ls : List (List (RecM × RecV))}, x ∈ secsV i ls → (∃ k, x = sS k) ∨ ∃ l ∈ ls, ∃ r ∈ l, x = sR r
  | _, [], h => by simp [secsV] at h
  | i, l :: ls, h => by
    simp only [secsV, List.cons_append, List.mem_cons, List.mem_append, List.mem_map] at h
    rcases h with rfl | ⟨r, hr, rfl⟩ | h
    · exact .inl ⟨_, rfl⟩
    · exact .inr ⟨l, by simp, r, hr, rfl⟩
    · rcases secsV_mem h with ⟨k, e⟩ | ⟨l', hl', h'⟩
      · exact .inl ⟨k, e⟩
      · exact .inr ⟨l', by simp [hl'], h'⟩
theorem stepsV_mem {x : StepM × RecV} {short : Bool} {qs : List AskM} {ls : List (List (RecM × RecV))} (h : x ∈ stepsV short qs ls) : (∃ k, x = sS k) ∨ (∃ a ∈ qs, x = sA a) ∨ ∃ l ∈ ls, ∃ r ∈ l, x = sR r := by
  simp only [stepsV, List.mem_append, List.mem_cons, List.mem_map] at h
  rcases h with (h | rfl | ⟨a, ha, rfl⟩) | h
  · cases short with
    | false => simp at h
    | true => exact .inl ⟨1, by simpa using h⟩
  · exact .inl ⟨_, rfl⟩
  · exact .inr (.inl ⟨a, ha, rfl⟩)
  · rcases secsV_mem h with h | h
    · exact .inl h
    · exact .inr (.inr h)
theorem SecsAt.rec_at {w : World} {v : Value} {ls : List (List (RecM × RecV))} (h : SecsAt w v ls) {l : List (RecM × RecV)} (hl : l ∈ ls) {r : RecM × RecV} (hr : r ∈ l) : RecAt w r := by
  obtain ⟨vs, h1, h2⟩ := h.at_
  have hvl : vs.length = ls.length := by rw [h1.1, Nat.mul_one]
  obtain ⟨j, hj⟩ := List.mem_iff_getElem?.1 hl
  have hlt := (List.getElem?_eq_some_iff.1 hj).1
  exact (h2 j (vs[j]'(by omega)) l (by simp [hvl, hlt]) hj).recs r hr
theorem steps_in {w w0 : World} {short : Bool} {av sv v : Value} {qs : List AskM} {ls : List (List (RecM × RecV))} (ha : AsksAt w0 av qs) (hs : SecsAt w sv ls) (hl : ListAt w stepCells 20 v (stepsV short qs ls)) (hn : (stepsV short qs ls).length ≤ 1000000) : StepsIn w v (stepsV short qs ls) := by
  refine ⟨hl, fun x hx => ?_, fun x hx => ?_, hn⟩
  · rcases stepsV_mem hx with ⟨k, rfl⟩ | ⟨a, hm, rfl⟩ | ⟨l, hl, r, hr, rfl⟩
    · exact ask0_ok
    · exact ha.ok a hm
    · exact ask0_ok
  · rcases stepsV_mem hx with ⟨k, rfl⟩ | ⟨a, hm, rfl⟩ | ⟨l, hl, r, hr, rfl⟩
    · exact rec0_at w
    · exact rec0_at w
    · exact hs.rec_at hl hr
theorem laws_steps (w : World) (short : Bool) (av sv : Value) (qs : List AskM) (ls : List (List (RecM × RecV))) (ha : AsksAt w av qs) (hs : SecsAt w sv ls) (hq : qs.length < 60000) (hl3 : ls.length ≤ 3) (hl : ∀ l ∈ ls, l.length < 60000) :
    Calls Tryd.prog 18 #[.bool short, av, sv] w fun e w' => ∃ v, e = .returned v ∧ LAcc w.heap.size w' 67 stepCells 20 v (stepsV short qs ls) ∧ StepsIn w' v (stepsV short qs ls) ∧ Grows w w' := by
  obtain ⟨aa, acap, rfl⟩ := ha.at_.value
  obtain ⟨vs, hvs, hrs⟩ := hs.at_
  obtain ⟨asv, scap, rfl⟩ := hvs.value
  have hvl : vs.length = ls.length := by rw [hvs.1, Nat.mul_one]
  refine calls_of_WC Tryd.func18 rfl Tryd.ntmps18 rfl ?_
  refine GO ?_
  refine WL_slice0 ?_
  intro b1 w1 hb1 h1 g1
  have hA0 : LAcc w.heap.size w1 67 stepCells 20 (.slice (some ⟨b1, 0, none⟩) 0 0) [] := LAcc.nil (.inr trivial) h1 hb1
  refine GO ?_
  refine WC_stop (fun f w' => ∃ v, EnvHas f [(1, .slice aa qs.length acap), (2, .slice asv ls.length scap), (7, v)] ∧ LAcc w.heap.size w' 67 stepCells 20 v (if short then [sS 1] else []) ∧ Grows w w') ?_ ?_
  · first | refine WC_sif vv (fun hc => ?_) (fun hc => ?_) | refine WC_if vv (fun hc => ?_) (fun hc => ?_)
    · subst hc
      refine GO ?_
      refine WL_build (vs := [(0, .int .i64 1)]) (l := stepCells (sS 1)) rfl ⟨⟨_, rfl⟩, trivial⟩ (by kernel_rfl) ?_
      refine WL_push (w0 := w) (g := stepCells) (sS 1) vv (fun _ => vv) hA0 g1 rfl (step_one (rec0_at w)) (by decide) ⟨by decide, by decide, by decide⟩ ?_
      intro u v7 w7 a7 g7 _
      refine GO ?_
      exact ⟨v7, ⟨rfl, rfl, rfl, trivial⟩, a7, g7⟩
    · subst hc
      refine GO ?_
      exact ⟨_, ⟨rfl, rfl, rfl, trivial⟩, hA0, g1⟩
  rintro f2 w2 ⟨v2, he2, hA2, hg2⟩
  obtain ⟨f, rfl⟩ := he2.form
  have hPl : (if short then [sS 1] else [] : List (StepM × RecV)).length ≤ 1 := by cases short <;> simp
  have hSV : ∀ X, stepsV short qs ls = X → ((if short then [sS 1] else []) ++ [sS 2]) ++ qs.map sA ++ secsV 0 ls = X := by
    intro X h
    rw [← h]
    simp [stepsV]
  have hSV := hSV _ rfl
  generalize hP : (if short then [sS 1] else [] : List (StepM × RecV)) = P at *
  clear hA0 h1
  refine GO ?_
  refine WL_build (vs := [(0, .int .i64 2)]) (l := stepCells (sS 2)) rfl ⟨⟨_, rfl⟩, trivial⟩ (by kernel_rfl) ?_
  refine WL_push (w0 := w) (g := stepCells) (sS 2) vv (fun _ => vv) hA2 hg2 rfl (step_one (rec0_at w)) (by decide) ⟨by omega, by omega, by omega⟩ ?_
  intro u v3 w3 hA3 hg3 _
  generalize hP2 : P ++ [sS 2] = P2 at *
  have hP2l : P2.length ≤ 2 := by rw [← hP2, List.length_append]; simp; omega
  refine GON ?_
  refine WC_stop (fun f w' => ∃ v, EnvHas f [(2, .slice asv ls.length scap), (7, v)] ∧ LAcc w.heap.size w' 67 stepCells 20 v (P2 ++ qs.map sA) ∧ Grows w w') ?_ ?_
  · refine GO ?_
    refine WC_loop (fun m f w' => ∃ (i : Nat) (v : Value), m = qs.length - i ∧ i ≤ qs.length ∧ EnvHas f [(2, .slice asv ls.length scap), (7, v), (24, .slice aa qs.length acap), (25, .int .i64 (qs.length : Int)), (26, .int .i64 (i : Int))] ∧ LAcc w.heap.size w' 67 stepCells 20 v (P2 ++ (qs.take i).map sA) ∧ Grows w w') qs.length ?_ ?_
    · exact ⟨0, v3, rfl, Nat.zero_le _, ⟨rfl, rfl, rfl, rfl, rfl, trivial⟩, by simpa using hA3, hg3⟩
    rintro m f' w4 ⟨i, v, rfl, hi, he, hA, hg⟩
    obtain ⟨f, rfl⟩ := he.form
    refine GO ?_
    first | refine WC_sif vv (fun hc => ?_) (fun hc => ?_) | refine WC_if vv (fun hc => ?_) (fun hc => ?_)
    · have hlt : i < qs.length := by simpa using hc
      refine GO ?_
      obtain ⟨b2, o2, cap2, hv2, hcell⟩ := (ha.grow hg).at_.part (by decide) hlt
      cases hv2
      refine GO ?_
      refine WL_index vv vv hlt ?_
      refine WL_loadAgg (l := askCells qs[i]) vv rfl hcell ?_
      refine WL_alloc ?_
      intro b5 w5 hb5 h5 g5
      refine WL_storeRow (new := (askCells qs[i]).toArray) vv vv h5 rfl rfl (by simp [askCells, Value.oneCell']) ?_
      intro w6 hw6 h6
      have G6 : Grows w4 w6 := g5.wrote hw6 (by omega)
      refine GO ?_
      refine WL_loadRow vv h6 rfl ?_
      refine WL_build (vs := [(0, .int .i64 6), (1, .agg (askCells qs[i]).toArray)]) (l := stepCells (sA qs[i])) (EvL.eq ⟨rfl, vv, rfl, vv, trivial⟩) ⟨⟨_, rfl⟩, ⟨_, rfl⟩, trivial⟩ (by kernel_rfl) ?_
      refine WL_push (w0 := w) (g := stepCells) (sA qs[i]) vv (fun _ => vv) (hA.grow G6) (hg.trans G6) rfl (step_one (rec0_at w)) (by decide) ⟨by simp; omega, by omega, by omega⟩ ?_
      intro u v7 w7 a7 g7 _
      refine GO ?_
      refine WL_inc vv (by omega) ?_
      refine GO ?_
      refine ⟨qs.length - (i + 1), by omega, i + 1, v7, rfl, hlt, ⟨rfl, rfl, rfl, rfl, rfl, trivial⟩, ?_, g7⟩
      rw [List.take_succ_eq_append_getElem hlt, List.map_append, ← List.append_assoc]
      exact a7
    have hge : i = qs.length := by have := of_decide_eq_false hc; omega
    subst hge
    rw [List.take_length] at hA
    refine GO ?_
    exact ⟨v, ⟨rfl, rfl, trivial⟩, hA, hg⟩
  rintro f4 w4 ⟨v4, he4, hA4, hg4⟩
  obtain ⟨f, rfl⟩ := he4.form
  generalize hP3 : P2 ++ qs.map sA = P3 at *
  have hP3l : P3.length ≤ 60002 := by rw [← hP3, List.length_append, List.length_map]; omega
  clear hA3
  refine GO ?_
  have hsum : ∀ j, j ≤ ls.length → (secsV 0 (ls.take j)).length ≤ 60001 * j := by
    intro j
    induction j with
    | zero => intro _; simp [secsV]
    | succ j ih =>
      intro hj
      have := ih (by omega)
      have hlj := hl ls[j] (by simp)
      rw [secsV_take ls j 0 (by omega), List.length_append]
      simp only [List.length_cons, List.length_map]
      omega
  refine WC_loop (fun m f w' => ∃ (j : Nat) (v : Value), m = ls.length - j ∧ j ≤ ls.length ∧ EnvHas f [(7, v), (36, .slice asv ls.length scap), (37, .int .i64 (ls.length : Int)), (38, .int .i64 (j : Int))] ∧ LAcc w.heap.size w' 67 stepCells 20 v (P3 ++ secsV 0 (ls.take j)) ∧ Grows w w') ls.length ?_ ?_
  · exact ⟨0, v4, rfl, Nat.zero_le _, ⟨rfl, rfl, rfl, rfl, trivial⟩, by simpa [secsV] using hA4, hg4⟩
  rintro m f' w5 ⟨j, v5, rfl, hj, he5, hA5, hg5⟩
  obtain ⟨f, rfl⟩ := he5.form
  refine GO ?_
  first | refine WC_sif vv (fun hc => ?_) (fun hc => ?_) | refine WC_if vv (fun hc => ?_) (fun hc => ?_)
  · have hlt : j < ls.length := by simpa using hc
    have hjl : ls[j]? = some ls[j] := by simp [hlt]
    have hju : vs[j]? = some (vs[j]'(by omega)) := by simp [hvl, hlt]
    have hrj := hrs j _ ls[j] hju hjl
    have hlj := hl ls[j] (by simp)
    have hs5 := hsum j (by omega)
    have hs6 := hsum (j + 1) (by omega)
    have htk := secsV_take ls j 0 hlt
    rw [Nat.zero_add] at htk
    generalize hu : (vs[j]'(by omega)) = u at *
    generalize hl' : ls[j] = l at *
    generalize hQ : secsV 0 (ls.take j) = Q at *
    obtain ⟨b6, o6, cap6, hv6, hcell6⟩ := (hvs.grow hg5).form (by omega)
    cases hv6
    obtain ⟨al, lcap, rfl⟩ := hrj.at_.value
    refine GO ?_
    refine WL_index vv vv hlt ?_
    refine WL_load_cell vv (by rw [Nat.mul_one]; exact hcell6 j _ hju) ?_
    refine GO ?_
    refine WL_add (c := 3 + (j : Int)) vv vv (IntWalk.i64_in _ (by omega)) ?_
    refine GO ?_
    refine WL_build (vs := [(0, .int .i64 (3 + (j : Int)))]) (l := stepCells (sS (3 + (j : Int)))) rfl ⟨⟨_, rfl⟩, trivial⟩ (by kernel_rfl) ?_
    refine WL_push (w0 := w) (g := stepCells) (sS (3 + (j : Int))) vv (fun _ => vv) hA5 hg5 rfl (step_one (rec0_at w)) (by decide) ⟨by rw [List.length_append]; omega, by omega, by omega⟩ ?_
    intro u6 v6 w6 hA6 hg6 _
    refine GO ?_
    refine WC_loop (fun m f w' => ∃ (i : Nat) (v : Value), m = l.length - i ∧ i ≤ l.length ∧ EnvHas f [(7, v), (36, .slice (some ⟨b6, o6, none⟩) ls.length scap), (37, .int .i64 (ls.length : Int)), (38, .int .i64 (j : Int)), (49, .slice al l.length lcap), (50, .int .i64 (l.length : Int)), (51, .int .i64 (i : Int))] ∧ LAcc w.heap.size w' 67 stepCells 20 v (P3 ++ Q ++ [sS (3 + (j : Int))] ++ (l.take i).map sR) ∧ Grows w w') l.length ?_ ?_
    · exact ⟨0, v6, rfl, Nat.zero_le _, ⟨rfl, rfl, rfl, rfl, rfl, rfl, rfl, trivial⟩, by simpa using hA6, hg6⟩
    rintro m f' w7 ⟨i, v, rfl, hi, he, hA, hg⟩
    obtain ⟨f, rfl⟩ := he.form
    refine GO ?_
    first | refine WC_sif vv (fun hc => ?_) (fun hc => ?_) | refine WC_if vv (fun hc => ?_) (fun hc => ?_)
    · have hlti : i < l.length := by simpa using hc
      have hr7 := hrj.grow hg
      have hrec := hr7.recs l[i] (by simp)
      refine GO ?_
      obtain ⟨b2, o2, cap2, hv2, hcell⟩ := hr7.at_.part (by decide) hlti
      cases hv2
      refine GO ?_
      refine WL_index vv vv hlti ?_
      refine WL_loadAgg (l := recCells l[i]) vv rfl hcell ?_
      refine WL_alloc ?_
      intro b8 w8 hb8 h8 g8
      refine WL_storeRow (new := (recCells l[i]).toArray) vv vv h8 rfl rfl (recCells_one hrec) ?_
      intro w9 hw9 h9
      have G9 : Grows w7 w9 := g8.wrote hw9 (by omega)
      refine GO ?_
      refine WL_loadRow vv h9 rfl ?_
      refine WL_build (vs := [(0, .int .i64 7), (2, .agg (recCells l[i]).toArray)]) (l := stepCells (sR l[i])) (EvL.eq ⟨rfl, vv, rfl, vv, trivial⟩) ⟨⟨_, rfl⟩, ⟨_, rfl⟩, trivial⟩ (by kernel_rfl) ?_
      refine WL_push (w0 := w) (g := stepCells) (sR l[i]) vv (fun _ => vv) (hA.grow G9) (hg.trans G9) rfl (step_one (x := sR l[i]) hrec) (by decide) ⟨by simp only [List.length_append, List.length_map, List.length_take, List.length_singleton]; omega, by omega, by omega⟩ ?_
      intro u v10 w10 a10 g10 _
      refine GO ?_
      refine WL_inc vv (by omega) ?_
      refine GO ?_
      refine ⟨l.length - (i + 1), by omega, i + 1, v10, rfl, hlti, ⟨rfl, rfl, rfl, rfl, rfl, rfl, rfl, trivial⟩, ?_, g10⟩
      rw [List.take_succ_eq_append_getElem hlti, List.map_append, ← List.append_assoc]
      exact a10
    have hge : i = l.length := by have := of_decide_eq_false hc; omega
    subst hge
    rw [List.take_length] at hA
    refine GO ?_
    refine WL_inc vv (by omega) ?_
    refine GO ?_
    refine ⟨ls.length - (j + 1), by omega, j + 1, v, rfl, hlt, ⟨rfl, rfl, rfl, rfl, trivial⟩, ?_, hg⟩
    rw [htk]
    have e : P3 ++ (Q ++ (sS (3 + (j : Int)) :: l.map sR)) = P3 ++ Q ++ [sS (3 + (j : Int))] ++ l.map sR := by simp
    rw [e]
    exact hA
  have hge : j = ls.length := by have := of_decide_eq_false hc; omega
  subst hge
  have htot := hsum ls.length (Nat.le_refl _)
  rw [List.take_length] at hA5 htot
  rw [hSV] at hA5
  refine GO ?_
  refine ret1 (v := v5) Tryd.results18 rfl ⟨_, rfl, hA5, steps_in ha (hs.grow hg5) hA5.reads ?_, hg5⟩
  rw [← hSV, List.length_append]
  omega
end Go.Proofs.YtgkhfpkfjajdjaaDoor

/- The laws' own helpers: plain. -/
namespace Go.Proofs.YtgkhfpkfjajdjaaDoor
open Go.RowKit
set_option maxHeartbeats 2000000
set_option maxRecDepth 100000

theorem reads_lit {w : World} {b k n : Nat} {e : TypeId} {fr : Nat × Nat} {vs : List Value} (h : w.heap[b]? = some (.cells (vs.flatMap (·.cells.toList)).toArray e fr)) (hn : vs.length = n) (hs : ∀ v ∈ vs, v.cells.size = k) : ReadsAt w k (.slice (some ⟨b, 0, none⟩) n n) n (vs.flatMap (·.cells.toList)) := by
  subst hn
  refine ⟨flat_len _ k vs (fun v hv => by simpa using hs v hv), some ⟨b, 0, none⟩, _, rfl, by simp, fun j x hj => ⟨_, rfl, ?_⟩⟩
  rw [add_addr, cell_of_row w b (0 + j) _ _ _ h]
  simpa using hj
theorem agg_flat {α : Type} (g : α → List Value) : ∀ l : List α, (l.map fun x => Value.agg (g x).toArray).flatMap (·.cells.toList) = l.flatMap g
  | [] => rfl
  | x :: l => by rw [List.map_cons, List.flatMap_cons, agg_flat g l, List.flatMap_cons]; simp [Value.cells]
theorem AsksAt.nil (w : World) : AsksAt w (.slice none 0 0) [] := ⟨⟨by simp, ReadsAt.nil w 3⟩, by simp, by simp⟩
theorem RecsAt.nil (w : World) : RecsAt w (.slice none 0 0) [] := ⟨⟨by simp, ReadsAt.nil w 16⟩, by simp, by simp⟩
theorem RecsAt.lit {w : World} {b n : Nat} {e : TypeId} {fr : Nat × Nat} {l : List (RecM × RecV)} (h : w.heap[b]? = some (.cells ((l.map fun x => Value.agg (recCells x).toArray).flatMap (·.cells.toList)).toArray e fr)) (hn : l.length = n) (hn2 : n ≤ 1000) (hr : ∀ x ∈ l, RecAt w x) : RecsAt w (.slice (some ⟨b, 0, none⟩) n n) l := by
  subst hn
  have := reads_lit (k := 16) (n := l.length) h (by simp) (by intro v hv; obtain ⟨x, _, rfl⟩ := List.mem_map.1 hv; rfl)
  rw [agg_flat] at this
  exact ⟨⟨fun x _ => rfl, this⟩, hr, by simp only [lim]; omega⟩
theorem StepsIn.lit {w : World} {b n : Nat} {e : TypeId} {fr : Nat × Nat} {l : List (StepM × RecV)} (h : w.heap[b]? = some (.cells ((l.map fun x => Value.agg (stepCells x).toArray).flatMap (·.cells.toList)).toArray e fr)) (hn : l.length = n) (hn2 : n ≤ 1000) (ha : ∀ x ∈ l, AskOk x.1.ask) (hr : ∀ x ∈ l, RecAt w (x.1.rec_, x.2)) : StepsIn w (.slice (some ⟨b, 0, none⟩) n n) l := by
  subst hn
  have := reads_lit (k := 20) (n := l.length) h (by simp) (by intro v hv; obtain ⟨x, _, rfl⟩ := List.mem_map.1 hv; rfl)
  rw [agg_flat] at this
  exact ⟨⟨fun x _ => rfl, this⟩, ha, hr, by omega⟩
theorem SecsAt.lit {w : World} {b n : Nat} {e : TypeId} {fr : Nat × Nat} {vs : List Value} {ls : List (List (RecM × RecV))} (h : w.heap[b]? = some (.cells (vs.flatMap (·.cells.toList)).toArray e fr)) (hn : vs.length = n) (hl : ls.length = n) (hr : ∀ (j : Nat) (u : Value) (l : List (RecM × RecV)), vs[j]? = some u → ls[j]? = some l → RecsAt w u l) : SecsAt w (.slice (some ⟨b, 0, none⟩) n n) ls := by
  have hone : ∀ v ∈ vs, v.cells = #[v] := by
    intro v hv
    obtain ⟨j, hj⟩ := List.mem_iff_getElem?.1 hv
    have hlt := (List.getElem?_eq_some_iff.1 hj).1
    have hjl : ls[j]? = some (ls[j]'(by omega)) := by simp [hl, ← hn, hlt]
    obtain ⟨ao, cap, rfl⟩ := (hr j v _ hj hjl).at_.value
    rfl
  have := reads_lit (k := 1) h hn (by intro v hv; rw [hone v hv]; rfl)
  rw [flat_one vs hone] at this
  exact ⟨vs, by rw [hl]; exact this, hr⟩
/-! the kind that is written into each record does not matter -/
section
variable {k : Nat} {c : Int}
theorem all_kind (rs : List RecM) : (rs.map fun r => { r with kind := c }).all (recOk k) = rs.all (recOk k) := by rw [List.all_map]; rfl
theorem flat_kind (rs : List RecM) : (rs.map fun r => { r with kind := c }).flatMap (recWire k) = rs.flatMap (recWire k) := by rw [List.flatMap_map]; rfl
theorem sum_kind (rs : List RecM) : sumB k (rs.map fun r => { r with kind := c }) = sumB k rs := by unfold sumB; rw [List.map_map]; rfl
theorem MsgOk.kind {h : HeadM} {qs : List AskM} {r1 r2 r3 : List RecM} (hm : MsgOk k ⟨h, qs, r1.map fun r => { r with kind := c }, r2.map fun r => { r with kind := c }, r3.map fun r => { r with kind := c }⟩) : MsgOk k ⟨h, qs, r1, r2, r3⟩ := by
  refine ⟨hm.asks, ?_, ?_, ?_, hm.head, hm.na, ?_, ?_, ?_, ?_⟩
  · have := hm.one; simp only [all_kind] at this; exact this
  · have := hm.two; simp only [all_kind] at this; exact this
  · have := hm.three; simp only [all_kind] at this; exact this
  · have := hm.n1; simpa using this
  · have := hm.n2; simpa using this
  · have := hm.n3; simpa using this
  · have := hm.sum
    simp only [← List.map_append, sum_kind] at this
    exact this
theorem msgWire_kind (h : HeadM) (qs : List AskM) (r1 r2 r3 : List RecM) : msgWire k ⟨h, qs, r1.map fun r => { r with kind := c }, r2.map fun r => { r with kind := c }, r3.map fun r => { r with kind := c }⟩ = msgWire k ⟨h, qs, r1, r2, r3⟩ := by
  simp only [msgWire, ← List.map_append, flat_kind, List.length_map]
end
/-- what the laws ask of a function that builds records of a kind -/
structure KC (F : FuncId) (K : KindM) (LB : RecM → Nat) (k : Nat) : Prop where
  build : BuildC F K LB true
  call : Callable Tryd.prog F
  ok : KindOk K k
  body : BodyC k
  bodyOk : BodyOkC k
  lt : k < 14
  lb : ∀ r, recOk k r = true → LB r ≤ 100000
  lb0 : LB rec0 ≤ 100000
theorem lb_steps {LB : RecM → Nat} {B : Nat} {short : Bool} {qs : List AskM} {ls : List (List (RecM × RecV))} (h : ∀ l ∈ ls, ∀ r ∈ l, LB r.1 ≤ B) (h0 : LB rec0 ≤ B) : ∀ x ∈ stepsV short qs ls, LB x.1.rec_ ≤ B := by
  intro x hx
  rcases stepsV_mem hx with ⟨c, rfl⟩ | ⟨a, hm, rfl⟩ | ⟨l, hl, r, hr, rfl⟩
  · exact h0
  · exact h0
  · exact h l hl r hr
theorem final_length (K : KindM) (ss : List StepM) (h : HeadM) : (MSt.steps K .first ss).2.out.length = ((MSt.steps K .first ss).2.final h).length := by
  have h12 : 12 ≤ (MSt.steps K .first ss).2.out.length := steps_out K ss .first
  rw [MSt.final, put_length _ _ _ (by rw [hdr_length]; omega)]
theorem recs_lb {k : Nat} {LB : RecM → Nat} (h : ∀ r, recOk k r = true → LB r ≤ 100000) {l : List (RecM × RecV)} (hl : (recsOf l).all (recOk k) = true) : ∀ r ∈ l, LB r.1 ≤ 100000 := fun r hr => h _ (List.all_eq_true.1 hl _ (List.mem_map.2 ⟨r, hr, rfl⟩))
theorem head_of {k : Nat} {M : MsgM} (h : MsgOk k M) : M.head.op < 16 ∧ M.head.code < 16 := by
  have := h.head
  unfold headOk at this
  simp only [Bool.and_eq_true, decide_eq_true_eq] at this
  exact this
theorem body_of {k : Nat} {l : List (RecM × RecV)} (h : (recsOf l).all (recOk k) = true) : ∀ x ∈ l, (body k x.1).length < 65536 := fun x hx =>
  (recOk_parts (List.all_eq_true.1 h _ (List.mem_map.2 ⟨x, hx, rfl⟩))).2.2.1
theorem fine_true {cs : List Int} {n : Nat} (hz : allZero cs = true) (hn : cs.length = n) : (allZero cs && (cs.length == n)) = true := by rw [hz, hn]; simp
theorem laws_plain {F : FuncId} {K : KindM} {LB : RecM → Nat} {k : Nat} (hK : KC F K LB k) (w : World) (h : HeadM) (av v1 v2 v3 : Value) (qs : List AskM) (l1 l2 l3 : List (RecM × RecV)) (hid : h.id < 65536) (ha : AsksAt w av qs) (h1 : RecsAt w v1 l1) (h2 : RecsAt w v2 l2) (h3 : RecsAt w v3 l3) (hE : Errs w) (hKn : Known w) :
    Calls Tryd.prog 14 #[.func (.func F) #[] #[], .int .i64 (k : Int), .agg (hcells h), av, v1, v2, v3] w (RetV w (.bool true)) := by
  refine calls_of_WC Tryd.func14 rfl Tryd.ntmps14 rfl ?_
  refine GO ?_
  refine WL_box vv ?_
  intro b9 w1 hb9 h9 g1
  refine GO ?_
  refine WL_loadRow vv h9 rfl ?_
  refine GO ?_
  refine WL_fun rfl ((laws_message w1 k h av v1 v2 v3 qs l1 l2 l3 (ha.grow g1) (h1.grow g1) (h2.grow g1) (h3.grow g1)).mono ?_)
  rintro e w2 ⟨vs, rfl, hM, g2⟩
  refine ⟨_, rfl, ?_⟩
  obtain ⟨av', v1', v2', v3', l1', l2', l3', rfl, ha', s1, s2, s3, e1, e2, e3⟩ := hM.at_
  clear hM
  obtain ⟨ao0, cap0, rfl⟩ := ha'.at_.value
  obtain ⟨ao1, cap1, rfl⟩ := s1.at_.at_.value
  obtain ⟨ao2, cap2, rfl⟩ := s2.at_.at_.value
  obtain ⟨ao3, cap3, rfl⟩ := s3.at_.at_.value
  refine WL_alloc ?_
  intro b15 w3 hb15 h15 g3
  refine WL_storeRow (new := (msgCells h (.slice ao0 qs.length cap0) (.slice ao1 l1'.length cap1) (.slice ao2 l2'.length cap2) (.slice ao3 l3'.length cap3)).toArray) vv vv h15 rfl rfl (by simp [msgCells, Value.oneCell']) ?_
  intro w4 hw4 h15'
  have g4 : Grows w2 w4 := g3.wrote hw4 hb15
  have G4 := (g1.trans g2).trans g4
  refine GO ?_
  refine WL_loadRow vv h15' rfl ?_
  refine WL_fun rfl ((spec_Ok hK.body hK.bodyOk w4 h _ _ _ _ qs l1' l2' l3' (ha'.grow g4) (s1.grow g4) (s2.grow g4) (s3.grow g4)).mono ?_)
  rintro e w5 ⟨b, rfl, g5, hOk⟩
  refine ⟨_, rfl, ?_⟩
  have G5 := G4.trans g5
  refine WL_not vv ?_
  refine GO ?_
  first | refine WC_sif vv (fun hc => ?_) (fun hc => ?_) | refine WC_if vv (fun hc => ?_) (fun hc => ?_)
  · refine GO ?_
    exact ret1 (v := .bool true) Tryd.results14 rfl ⟨rfl, G5⟩
  have hMk := hOk (by simpa using hc)
  rw [e1, e2, e3] at hMk
  have hMo := hMk.kind
  have hhd := head_of hMo
  clear hOk
  refine GO ?_
  obtain ⟨aoa, capa, rfl⟩ := ha.at_.value
  obtain ⟨aox, capx, rfl⟩ := h1.at_.value
  obtain ⟨aoy, capy, rfl⟩ := h2.at_.value
  obtain ⟨aoz, capz, rfl⟩ := h3.at_.value
  refine WL_slice (vs := [.slice aox l1.length capx, .slice aoy l2.length capy, .slice aoz l3.length capz]) (EvL.eq ⟨rfl, vv, rfl, vv, rfl, vv, trivial⟩) (by simp) rfl (by simp [Value.cells]) rfl ?_
  intro b32 w6 hb32 h32 g6
  have G6 := G5.trans g6
  have hsec : SecsAt w6 (.slice (some ⟨b32, 0, none⟩) 3 3) [l1, l2, l3] := SecsAt.lit h32 rfl rfl (by
    intro j u l hu hl
    match j with
    | 0 => cases hu; cases hl; exact h1.grow G6
    | 1 => cases hu; cases hl; exact h2.grow G6
    | 2 => cases hu; cases hl; exact h3.grow G6
    | j + 3 => simp at hu)
  have hn1 : l1.length < 60000 := by have := hMo.n1; simpa [recsOf] using this
  have hn2 : l2.length < 60000 := by have := hMo.n2; simpa [recsOf] using this
  have hn3 : l3.length < 60000 := by have := hMo.n3; simpa [recsOf] using this
  refine WL_fun rfl ((laws_steps w6 false _ _ qs [l1, l2, l3] (ha.grow G6) hsec hMo.na (by simp) (by simp [hn1, hn2, hn3])).mono ?_)
  rintro e w7 ⟨lv, rfl, hA, hSt, g7⟩
  refine ⟨_, rfl, ?_⟩
  have G7 := G6.trans g7
  have hpl := plain_law hK.ok ⟨h, qs, recsOf l1, recsOf l2, recsOf l3⟩ hMo
  have hso : stepsOf (stepsV false qs [l1, l2, l3]) = stepsM false qs [recsOf l1, recsOf l2, recsOf l3] := stepsV_of _ _ _
  simp only at hpl
  rw [← hso] at hpl
  have hwl := msgWire_le hMo
  have hlen : (MSt.steps K .first (stepsOf (stepsV false qs [l1, l2, l3]))).2.out.length ≤ 100000000 := by rw [final_length K _ h, hpl.2]; exact hwl
  have hlb := lb_steps (LB := LB) (short := false) (qs := qs) (ls := [l1, l2, l3]) (by
    intro l hl
    simp only [List.mem_cons, List.not_mem_nil, or_false] at hl
    rcases hl with rfl | rfl | rfl
    · exact recs_lb hK.lb hMo.one
    · exact recs_lb hK.lb hMo.two
    · exact recs_lb hK.lb hMo.three) hK.lb0
  obtain ⟨aol, capl, rfl⟩ := hA.reads.value
  have hSn := hSt.len
  have h9' := (((g2.trans g4).trans (g5.trans (g6.trans g7))).kept h9)
  refine GO ?_
  refine WL_loadRow vv h9' rfl ?_
  refine GO ?_
  refine WL_funv hK.call vv rfl ((hK.build w7 (.slice none 0 0) [] h _ _ (ReadsAt.nil _ _) (by decide) hid hhd.1 hhd.2 hSt (fun e => by cases e) (fun x hx => by have := hlb x hx; simp only [List.length_nil]; omega) (hE.grow G7) (hKn.grow G7)).mono ?_)
  rintro e w8 ⟨v, fv, dv, cs, rfl, hb⟩
  refine ⟨_, rfl, ?_⟩
  obtain rfl := hb.val
  have g8 := hb.grows
  refine WL_alloc ?_
  intro b17 w9 hb17 h17 g9
  refine WL_storeRow (new := #[fv, dv, .int .i64 0]) vv vv h17 rfl rfl hb.one ?_
  intro w10 hw10 h17'
  have g10 : Grows w8 w10 := g9.wrote hw10 hb17
  have G10 := (G7.trans g8).trans g10
  have hcs : cs.length = (stepsV false qs [l1, l2, l3]).length := by rw [← hb.codes.1, steps_length]; simp [stepsOf]
  have hz := codes_none hb.codes hpl.1
  have hfl := hb.faults.reads.grow g10
  have hdt := hb.data.reads.grow g10
  have g4to10 : Grows w4 w10 := (g5.trans (g6.trans g7)).trans (g8.trans g10)
  refine GO ?_
  refine WC_seq (WC_draws (fun w' => w'.heap[b17]? = some (.cells #[fv, dv, .int .i64 0] 49 (0, 0)) ∧ w'.heap[b15]? = some (.cells (msgCells h (.slice ao0 qs.length cap0) (.slice ao1 l1'.length cap1) (.slice ao2 l2'.length cap2) (.slice ao3 l3'.length cap3)).toArray 42 (0, 0))) (by kernel_rfl) (fun w1 g => ⟨g.kept h17', g.kept (g4to10.kept h15')⟩) ?_)
  intro w11 g11 hS
  refine WD_take (i := 0) rfl rfl rfl rfl (by kernel_rfl) (by assumption) (fun w' hS => by exact Y_loadRow vv hS.1 rfl) ?_
  refine WT 1 ?_
  refine WD_one (c := 2) (by kernel_rfl) rfl ?_
  refine WL_fun rfl ((laws_fine w11 fv dv _ cs (stepsV false qs [l1, l2, l3]).length (hfl.grow g11) (by obtain ⟨a, c, e⟩ := ReadsAt.value hdt; exact ⟨a, _, c, e⟩) aol capl rfl (by omega)).mono ?_)
  rintro e w12 ⟨rfl, g12⟩
  have g12 : Grows w11 w12 := g12
  have hS12 := And.intro (g12.kept hS.1) (g12.kept hS.2)
  refine ⟨_, rfl, WL_nil ⟨hS12, ?_⟩⟩
  rw [fine_true hz hcs]
  refine WT 3 ?_
  refine WD_takeG (i := 4) (c := true) rfl rfl rfl rfl vv rfl rfl (by kernel_rfl) (by assumption) (fun _ w' hS => by first | exact Y_move vv | exact Y_assign vv | exact Y_nilCheck vv | exact Y_field vv | exact Y_load vv (by first | assumption | exact hS | exact hS.1 | exact hS.2 | exact hS.2.1 | exact hS.2.2) (by rfl) | exact Y_extract vv (by rfl) | exact Y_len vv | exact Y_lss vv vv | exact Y_leq vv vv | exact Y_gtr vv vv | exact Y_geq vv vv | exact Y_eql vv vv | exact Y_neq vv vv | exact Y_pick vv vv vv | exact Y_not vv) (fun h => absurd rfl h) ?_
  refine WD_takeG (i := 5) (c := true) rfl rfl rfl rfl vv rfl rfl (by kernel_rfl) (by assumption) (fun _ w' hS => by first | exact Y_move vv | exact Y_assign vv | exact Y_nilCheck vv | exact Y_field vv | exact Y_load vv (by first | assumption | exact hS | exact hS.1 | exact hS.2 | exact hS.2.1 | exact hS.2.2) (by rfl) | exact Y_extract vv (by rfl) | exact Y_len vv | exact Y_lss vv vv | exact Y_leq vv vv | exact Y_gtr vv vv | exact Y_geq vv vv | exact Y_eql vv vv | exact Y_neq vv vv | exact Y_pick vv vv vv | exact Y_not vv) (fun h => absurd rfl h) ?_
  refine WD_takeG (i := 6) (c := true) rfl rfl rfl rfl vv rfl rfl (by kernel_rfl) (by assumption) (fun _ w' hS => by exact Y_loadRow vv hS.2 rfl) (fun h => absurd rfl h) ?_
  refine WD_one (c := 7) (by kernel_rfl) rfl ?_
  refine WL_wanted rfl vv ?_
  have hbl : ∀ l ∈ [l1', l2', l3'], ∀ x ∈ l, (body k x.1).length < 65536 := by
    intro l hl
    simp only [List.mem_cons, List.not_mem_nil, or_false] at hl
    rcases hl with rfl | rfl | rfl
    · exact body_of (by rw [e1]; exact hMk.one)
    · exact body_of (by rw [e2]; exact hMk.two)
    · exact body_of (by rw [e3]; exact hMk.three)
  have G4x : Grows w2 w12 := (g4.trans g4to10).trans (g11.trans g12)
  refine WL_fun rfl ((spec_MessageWire hK.body hK.lt w12 h _ _ _ _ qs l1' l2' l3' hid hhd.1 hhd.2 (ha'.grow G4x) (s1.grow G4x) (s2.grow G4x) (s3.grow G4x) hbl (by rw [e1, e2, e3, msgWire_kind]; omega)).mono ?_)
  rintro e w13 ⟨v13, rfl, a13, g13⟩
  refine ⟨_, rfl, ?_⟩
  have hS13 := And.intro (g13.kept hS12.1) (g13.kept hS12.2)
  refine WL_nil ⟨hS13, ?_⟩
  refine WD_one (c := 8) (by kernel_rfl) rfl ?_
  refine WL_wanted rfl vv ?_
  refine WL_fun rfl ((laws_same w13 dv v13 _ _ (hdt.grow (g11.trans (g12.trans g13))) a13.reads).mono ?_)
  rintro e w14 ⟨rfl, rfl⟩
  refine ⟨_, rfl, WL_nil ⟨hS13, ?_⟩⟩
  rw [e1, e2, e3, msgWire_kind, hpl.2, List.nil_append, beq_self_eq_true]
  refine WT 9 ?_
  refine WD_one (c := 10) (by kernel_rfl) rfl ?_
  refine WL_assign vv (WL_nil ⟨hS13, ?_⟩)
  refine WD_done (by kernel_rfl) ?_
  refine GO ?_
  exact ret1 (v := .bool true) Tryd.results14 rfl ⟨rfl, G10.trans (g11.trans (g12.trans g13))⟩
end Go.Proofs.YtgkhfpkfjajdjaaDoor
