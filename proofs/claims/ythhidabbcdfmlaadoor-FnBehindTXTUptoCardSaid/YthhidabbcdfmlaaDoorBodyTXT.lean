/- TXT records: what the reference says of them, and what the laws ask of the function that builds them. Written by gen_kind.py. -/
import Derived.Test.YthhidabbcdfmlaaDoorG9
import Derived.Test.YthhidabbcdfmlaaDoorG1
import Derived.Test.YthhidabbcdfmlaaDoorBokT
import Derived.Test.YthhidabbcdfmlaaDoorAppS
set_option linter.unusedVariables false
set_option linter.unusedSimpArgs false
namespace Go.Proofs.YthhidabbcdfmlaaDoor
open Go.RowKit
set_option maxHeartbeats 2000000
set_option maxRecDepth 100000

theorem body_TXT : BodyC 7 := by
  intro w x hx hk hb
  have hok := hx.ok
  refine calls_of_WC Tryd.func33 rfl Tryd.ntmps33 rfl ?_
  refine GO ?_
  refine WL_box vv ?_
  intro b1 w0 hb1 h1 g0
  have h1 : w0.heap[b1]? = some (.cells (recCells x).toArray 90 (0, 0)) := h1
  refine GO ?_
  refine WL_conv (c := low x.1.n1) vv (by rw [wrap16]; simp only [low]; omega) ?_
  refine GO ?_
  refine WL_conv (c := low x.1.n2) vv (by rw [wrap16]; simp only [low]; omega) ?_
  refine GO ?_
  refine WL_conv (c := low x.1.n3) vv (by rw [wrap16]; simp only [low]; omega) ?_
  refine WL_slice (vs := [.int .u16 (low x.1.n1), .int .u16 (low x.1.n2), .int .u16 (low x.1.n3)]) (EvL.eq ⟨rfl, vv, rfl, vv, rfl, vv, trivial⟩) (by simp) rfl (by simp [Value.cells]) rfl ?_
  intro b16 w1 hb16 h16 g1
  have h11 := g1.kept h1
  have G1 := g0.trans g1
  refine GO ?_
  rw [hk]
  refine RUN ?_
  refine WL_slice0 ?_
  intro b4 w2 hb4 h4 g2
  obtain ⟨aot, capt, htv⟩ := ReadsAt.value hx.texts
  have hT : ReadsAt w1 1 (.slice aot x.1.texts.length capt) x.1.texts.length (x.1.texts.map strOf) := by rw [← htv]; exact ReadsAt.grow hx.texts G1
  have h12 := g2.kept h11
  have hb : (x.1.texts.flatMap textB).length ≤ 140737488355328 := hb
  have htn := hok.texts.1
  simp only [lim] at htn
  refine GO ?_
  rw [htv]
  refine GO ?_
  refine WC_loop (fun m f w' => ∃ i v4, m = x.1.texts.length - i ∧ i ≤ x.1.texts.length ∧ EnvHas f [(4, v4), (76, .slice aot x.1.texts.length capt), (77, .int .i64 (x.1.texts.length : Int)), (78, .int .i64 (i : Int))] ∧ AccB w1.heap.size w' v4 ((x.1.texts.take i).flatMap textB) ∧ Grows w1 w') x.1.texts.length ?_ ?_
  · exact ⟨0, _, rfl, Nat.zero_le _, ⟨rfl, rfl, rfl, rfl, trivial⟩, accB_cells h4 rfl rfl (by decide) hb4, g2⟩
  rintro m f w3 ⟨i, v4, rfl, hi, he, hA, hg⟩
  obtain ⟨f, rfl⟩ := he.form
  refine GO ?_
  first | refine WC_sif vv (fun hc => ?_) (fun hc => ?_) | refine WC_if vv (fun hc => ?_) (fun hc => ?_)
  · have hlt : i < x.1.texts.length := by simpa using hc
    have hmono : ((x.1.texts.take (i + 1)).flatMap textB).length ≤ 140737488355328 := Nat.le_trans (fm_le textB _ _) hb
    rw [fm_take textB _ i hlt, List.length_append, show (textB x.1.texts[i]).length = x.1.texts[i].length + 1 from rfl] at hmono
    obtain ⟨b, o, cap', hv, hcell⟩ := (hT.grow hg).form (by simp; omega)
    cases hv
    refine GO ?_
    refine WL_index vv vv hlt ?_
    refine WL_load_cell (v := strOf x.1.texts[i]) vv (by rw [Nat.mul_one]; exact hcell i _ (by simp [hlt])) ?_
    refine GO ?_
    refine WL_conv (c := ((UInt8.ofNat x.1.texts[i].length).toNat : Int)) vv (u8_wrap _) ?_
    refine WL_slice (vs := [.int .u8 ((UInt8.ofNat x.1.texts[i].length).toNat : Int)]) rfl (by simp) rfl (by simp [Value.cells]) rfl ?_
    intro b5 w4 hb5 h5 g4
    refine WL_appendB vv (hA.grow g4).own vv (bytes_cells (n := 1) (bs := [UInt8.ofNat x.1.texts[i].length]) h5 rfl rfl) (by simp only [List.length_singleton]; omega) (by simp) ?_
    intro v5 w5 g5
    refine GO ?_
    refine WL_appendS vv g5.own vv (by simp only [List.length_append, List.length_singleton]; omega) (by omega) ?_
    intro v6 w6 g6
    refine GO ?_
    refine WL_inc vv (by omega) ?_
    refine GO ?_
    have hA5 := (hA.grow g4).grew g5 (hg.trans g4).size
    have G5 := (hA.grow g4).grows g5 (hg.trans g4)
    have hA6 := hA5.grew g6 G5.size
    refine ⟨x.1.texts.length - (i + 1), by omega, i + 1, v6, rfl, hlt, ⟨rfl, rfl, rfl, rfl, trivial⟩, ?_, hA5.grows g6 G5⟩
    rw [fm_take textB _ i hlt]
    simpa [textB] using hA6
  have hge : i = x.1.texts.length := by have := of_decide_eq_false hc; omega
  subst hge
  rw [List.take_length] at hA
  refine GO ?_
  exact ret1 (v := v4) Tryd.results33 rfl ⟨v4, rfl, Acc.mono hA G1.size, G1.trans hg⟩
theorem host_TXT : HostC 7 := by
  intro w x hx hk
  have hok := hx.ok
  refine calls_of_WC Tryd.func61 rfl Tryd.ntmps61 rfl ?_
  refine GO ?_
  refine WL_box vv ?_
  intro b1 w0 hb1 h1 g0
  have h1 : w0.heap[b1]? = some (.cells (recCells x).toArray 90 (0, 0)) := h1
  refine GO ?_
  rw [hk]
  refine RUN ?_
  exact ret1 (v := .bool true) Tryd.results61 rfl ⟨rfl, g0⟩
theorem texts_le : ∀ (ts : List Bytes) (B : Nat), (∀ s ∈ ts, s.length ≤ B) → (ts.flatMap textB).length ≤ ts.length * (B + 1)
  | [], _, _ => by simp
  | s :: ts, B, h => by
    have ih := texts_le ts B (fun q hq => h q (by simp [hq]))
    have hs := h s (by simp)
    have e : ((s :: ts).flatMap textB).length = (s.length + 1) + (ts.flatMap textB).length := by
      rw [List.flatMap_cons, List.length_append]; rfl
    rw [e, List.length_cons, Nat.succ_mul]
    omega
/-- where arguments are small, no body is great -/
theorem small_TXT {x : RecM} (h : RecOkV x) : (body 7 x).length ≤ 140737488355328 := by
  have h1 := texts_le x.texts lim h.texts.2
  have h2 := h.texts.1
  have e : body 7 x = x.texts.flatMap textB := rfl
  rw [e]
  simp only [lim] at h1 h2
  omega
theorem bok_TXT : BodyOkC 7 := fun w x hx hk => spec_BodyOk7 body_TXT host_TXT w x hx hk (small_TXT hx.ok)
end Go.Proofs.YthhidabbcdfmlaaDoor
