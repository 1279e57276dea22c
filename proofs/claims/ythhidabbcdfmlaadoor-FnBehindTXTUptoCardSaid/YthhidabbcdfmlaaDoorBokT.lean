/- The reference's BodyOk of records with texts. -/
import Derived.Test.YthhidabbcdfmlaaDoorG4
set_option linter.unusedVariables false
set_option linter.unusedSimpArgs false
namespace Go.Proofs.YthhidabbcdfmlaaDoor
open Go.RowKit
set_option maxHeartbeats 2000000
set_option maxRecDepth 100000

/-- an operation under a guard that was itself left out -/
theorem WL_unwantedU {n : Nat} {P : Program} {ops : Array Oper} {K : Env → World → Prop} {rest : List Oper} {f : Env} {w : World} {d : Nat} {op : Op} {ty : TypeId} {pos : String} {af : Array Edge} {j dj : Nat} {b : Bool} (hj : (ops[j]?).bind (·.dst) = some dj) (hf : f dj = undef)
    (h : WL n P ops K rest (upd f d undef) w) (hn : Nat.blt dj n = true := by rfl) (hd : Nat.blt d n = true := by rfl) : WL n P ops K (⟨some d, op, ty, pos, af, some (j, b)⟩ :: rest) f w := .mk fun a ha => by
  have hh := h.out _ (ha.put d undef hd)
  have hdn : dj < a.tmps.size := by rw [ha.size]; simpa [Nat.blt_eq] using hn
  have hy : yielded ops a.tmps j = none := by
    unfold yielded
    rw [hj]
    have hg := ha.get dj
    simp only [Array.getD, hdn, dite_true] at hg
    have : a.tmps[dj]? = some undef := by
      rw [Array.getElem?_eq_getElem hdn]
      exact congrArg some (hg.trans hf)
    simp [this, undef]
  unfold wpList
  rw [if_neg (by simp [Region.wanted, hy])]
  exact hh
theorem bodyOk7 (r : RecM) : bodyOk 7 r = ((r.texts.all fun s => decide (s.length ≤ 255)) && !r.texts.isEmpty && decide ((body 7 r).length < 65536)) := by simp [bodyOk, hostOk]
theorem spec_BodyOk7 (hB : BodyC 7) (hH : HostC 7) (w : World) (x : RecM × RecV) (hx : RecAt w x) (hk : x.1.kind = ((7 : Nat) : Int)) (hb : (body 7 x.1).length ≤ 140737488355328) : Calls Tryd.prog 32 #[.agg (recCells x).toArray] w (RetV w (.bool (bodyOk 7 x.1))) := by
  have htn := hx.ok.texts.1
  simp only [lim] at htn
  obtain ⟨ao, cap, htv⟩ := hx.texts.value
  refine calls_of_WC Tryd.func32 rfl Tryd.ntmps32 rfl ?_
  refine GO ?_
  refine WL_box vv ?_
  intro b0 w0 hb0 h0 g0
  refine GO ?_
  rw [htv]
  refine GO ?_
  refine WC_loop (fun m f w' => ∃ i : Nat, m = x.1.texts.length - i ∧ i ≤ x.1.texts.length ∧ EnvHas f [(1, .pointer (some ⟨b0, 0, none⟩)), (6, .slice ao x.1.texts.length cap), (7, .int .i64 (x.1.texts.length : Int)), (8, .int .i64 (i : Int))] ∧ w0 = w' ∧ ∀ s ∈ x.1.texts.take i, s.length ≤ 255) x.1.texts.length ?_ ?_
  · exact ⟨0, rfl, Nat.zero_le _, ⟨rfl, rfl, rfl, rfl, trivial⟩, rfl, by simp⟩
  · rintro m f w2 ⟨i, rfl, hi, he, rfl, hall⟩
    obtain ⟨f, rfl⟩ := he.form
    refine GO ?_
    first | refine WC_sif vv (fun hc => ?_) (fun hc => ?_) | refine WC_if vv (fun hc => ?_) (fun hc => ?_)
    · have hlt : i < x.1.texts.length := by simpa using hc
      refine GO ?_
      obtain ⟨b2, o2, cap2, hv2, hcell⟩ := (hx.texts.grow g0).form (by simp; omega)
      rw [htv] at hv2
      cases hv2
      refine GO ?_
      refine WL_index vv vv hlt ?_
      refine WL_load_cell (v := strOf x.1.texts[i]) vv (by rw [Nat.mul_one]; exact hcell i _ (by simp [hlt])) ?_
      refine GO ?_
      rw [hk]
      refine RUN ?_
      first | refine WC_sif vv (fun hc => ?_) (fun hc => ?_) | refine WC_if vv (fun hc => ?_) (fun hc => ?_)
      · have h255 : 255 < x.1.texts[i].length := by
          have h1 : (255 : Int) < (x.1.texts[i].length : Int) := of_decide_eq_true hc
          omega
        refine GO ?_
        refine ret1 (v := .bool false) Tryd.results32 rfl ⟨?_, g0⟩
        rw [bodyOk7]
        have hf : (x.1.texts.all fun s => decide (s.length ≤ 255)) = false := by
          cases e : (x.1.texts.all fun s => decide (s.length ≤ 255)) with
          | false => rfl
          | true =>
            have := List.all_eq_true.1 e x.1.texts[i] (by simp)
            simp only [decide_eq_true_eq] at this
            omega
        rw [hf]
        rfl
      have h255 : x.1.texts[i].length ≤ 255 := by
        have h1 : ¬ (255 : Int) < (x.1.texts[i].length : Int) := of_decide_eq_false hc
        omega
      refine GO ?_
      refine WL_inc vv (by omega) ?_
      refine GO ?_
      refine ⟨x.1.texts.length - (i + 1), by omega, i + 1, rfl, hlt, ⟨rfl, rfl, rfl, rfl, trivial⟩, rfl, fun s hs => ?_⟩
      rw [List.take_succ_eq_append_getElem hlt, List.mem_append, List.mem_singleton] at hs
      rcases hs with hs | rfl
      · exact hall s hs
      · exact h255
    · have hge : i = x.1.texts.length := by have := of_decide_eq_false hc; omega
      subst hge
      rw [List.take_length] at hall
      have ht : (x.1.texts.all fun s => decide (s.length ≤ 255)) = true := List.all_eq_true.2 fun s hs => decide_eq_true (hall s hs)
      refine GO ?_
      rw [hk]
      refine RUN ?_
      rw [htv]
      refine RUN ?_
      by_cases hn0 : x.1.texts.length = 0
      · rw [show ((x.1.texts.length : Int) == 0) = true by rw [hn0]; rfl]
        refine RUN ?_
        repeat (refine WL_unwantedU rfl rfl ?_)
        refine RUN ?_
        repeat (refine WL_unwantedU rfl rfl ?_)
        refine RUN ?_
        refine ret1 (v := .bool false) Tryd.results32 rfl ⟨?_, g0⟩
        rw [bodyOk7, List.eq_nil_of_length_eq_zero hn0]
        rfl
      rw [show ((x.1.texts.length : Int) == 0) = false from beq_eq_false_iff_ne.2 (by omega)]
      refine RUN ?_
      rw [hk]
      refine RUN ?_
      rw [hk]
      refine RUN ?_
      refine WL_loadRow vv h0 rfl ?_
      refine WL_fun rfl ((hH _ _ (hx.grow g0) hk).mono ?_)
      rintro e w3 ⟨rfl, g3⟩
      refine ⟨_, rfl, ?_⟩
      rw [show hostOk 7 x.1 = true from rfl]
      refine GO ?_
      refine WL_wanted rfl vv ?_
      refine WL_loadRow vv (g3.kept h0) rfl ?_
      refine WL_wanted rfl vv ?_
      refine WL_fun rfl ((hB _ _ ((hx.grow g0).grow g3) hk hb).mono ?_)
      rintro e w4 ⟨v4, rfl, a4, g4⟩
      refine ⟨_, rfl, ?_⟩
      obtain ⟨ao4, cap4, rfl⟩ := a4.reads.value
      refine RUN ?_
      have e63 : decide (((body 7 x.1).length : Int) < 65536) = decide ((body 7 x.1).length < 65536) := by apply decide_eq_decide.2; omega
      refine ret1 (v := .bool (decide (((body 7 x.1).length : Int) < 65536))) Tryd.results32 rfl ⟨?_, g0.trans (g3.trans g4)⟩
      have hne : x.1.texts.isEmpty = false := by
        cases e : x.1.texts with
        | nil => rw [e] at hn0; exact absurd rfl hn0
        | cons a l => rfl
      rw [bodyOk7, ht, hne, e63]
      rfl
end Go.Proofs.YthhidabbcdfmlaaDoor
