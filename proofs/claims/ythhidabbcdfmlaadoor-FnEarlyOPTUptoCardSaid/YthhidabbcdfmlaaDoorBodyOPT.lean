/- OPT records: what the reference says of them, and what the laws ask of the function that builds them. Written by gen_kind.py. -/
import Derived.Test.YthhidabbcdfmlaaDoorG9
import Derived.Test.YthhidabbcdfmlaaDoorG1
import Derived.Test.YthhidabbcdfmlaaDoorPairs
set_option linter.unusedVariables false
set_option linter.unusedSimpArgs false
namespace Go.Proofs.YthhidabbcdfmlaaDoor
open Go.RowKit
set_option maxHeartbeats 2000000
set_option maxRecDepth 100000

theorem body_OPT : BodyC 10 := by
  intro w x hx hk hb
  have hok := hx.ok
  refine calls_of_WC Tryd.func33 rfl Tryd.ntmps33 rfl ?_
  refine GO ?_
  refine WL_box vv ?_
  intro b1 w0 hb1 h1 g0
  have h1 : w0.heap[b1]? = some (.cells (recCells x).toArray 90 (0, 0)) := h1
  refine GO ?_
  refine WL_conv (c := low x.1.n1) vv (by rw [wrap16]; simp only [low]; omega) ?_
  refine GO ?_
  refine WL_conv (c := low x.1.n2) vv (by rw [wrap16]; simp only [low]; omega) ?_
  refine GO ?_
  refine WL_conv (c := low x.1.n3) vv (by rw [wrap16]; simp only [low]; omega) ?_
  refine WL_slice (vs := [.int .u16 (low x.1.n1), .int .u16 (low x.1.n2), .int .u16 (low x.1.n3)]) (EvL.eq ⟨rfl, vv, rfl, vv, rfl, vv, trivial⟩) (by simp) rfl (by simp [Value.cells]) rfl ?_
  intro b16 w1 hb16 h16 g1
  have h11 := g1.kept h1
  have G1 := g0.trans g1
  refine GO ?_
  rw [hk]
  refine RUN ?_
  have hpn := hok.pairs.1
  simp only [lim] at hpn
  refine WL_fun rfl ((spec_pairs w1 _ _ (hx.pairs.grow G1) hb (by omega) (fun p hp => (hok.pairs.2 p hp).1)).mono ?_)
  rintro e w2 ⟨v2, rfl, a2, g2⟩
  refine ⟨_, rfl, ?_⟩
  refine RUN ?_
  exact ret1 (v := v2) Tryd.results33 rfl ⟨v2, rfl, Acc.mono a2 G1.size, G1.trans g2⟩
theorem host_OPT : HostC 10 := by
  intro w x hx hk
  have hok := hx.ok
  refine calls_of_WC Tryd.func61 rfl Tryd.ntmps61 rfl ?_
  refine GO ?_
  refine WL_box vv ?_
  intro b1 w0 hb1 h1 g0
  have h1 : w0.heap[b1]? = some (.cells (recCells x).toArray 90 (0, 0)) := h1
  refine GO ?_
  rw [hk]
  refine RUN ?_
  exact ret1 (v := .bool true) Tryd.results61 rfl ⟨rfl, g0⟩
/-- where arguments are small, no body is great -/
theorem small_OPT {x : RecM} (h : RecOkV x) : (body 10 x).length ≤ 140737488355328 := by
  have h1 := pairsB_le x.pairs lim (fun p hp => (h.pairs.2 p hp).2)
  have h2 := h.pairs.1
  have h3 := wire_le x.host
  have h4 := h.host
  have e : body 10 x = pairsB x.pairs := rfl
  rw [e]
  simp only [lim] at h1 h2 h4
  omega
theorem bok_OPT : BodyOkC 10 := fun w x hx hk => spec_BodyOk body_OPT host_OPT (by decide) w x hx hk (fun _ => small_OPT hx.ok)
end Go.Proofs.YthhidabbcdfmlaaDoor
