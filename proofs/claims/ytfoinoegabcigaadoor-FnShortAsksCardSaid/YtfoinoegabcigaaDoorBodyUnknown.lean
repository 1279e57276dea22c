/- Unknown records: what the reference says of them, and what the laws ask of the function that builds them. Written by gen_kind.py. -/
import Derived.Test.YtfoinoegabcigaaDoorG9
import Derived.Test.YtfoinoegabcigaaDoorG1
set_option linter.unusedVariables false
set_option linter.unusedSimpArgs false
namespace Go.Proofs.YtfoinoegabcigaaDoor
open Go.RowKit
set_option maxHeartbeats 2000000
set_option maxRecDepth 100000

theorem body_Unknown : BodyC 13 := by
  intro w x hx hk hb
  have hok := hx.ok
  refine calls_of_WC Tryd.func32 rfl Tryd.ntmps32 rfl ?_
  refine GO ?_
  refine WL_box vv ?_
  intro b1 w0 hb1 h1 g0
  have h1 : w0.heap[b1]? = some (.cells (recCells x).toArray 82 (0, 0)) := h1
  refine GO ?_
  refine WL_conv (c := low x.1.n1) vv (by rw [wrap16]; simp only [low]; omega) ?_
  refine GO ?_
  refine WL_conv (c := low x.1.n2) vv (by rw [wrap16]; simp only [low]; omega) ?_
  refine GO ?_
  refine WL_conv (c := low x.1.n3) vv (by rw [wrap16]; simp only [low]; omega) ?_
  refine WL_slice (vs := [.int .u16 (low x.1.n1), .int .u16 (low x.1.n2), .int .u16 (low x.1.n3)]) (EvL.eq ⟨rfl, vv, rfl, vv, rfl, vv, trivial⟩) (by simp) rfl (by simp [Value.cells]) rfl ?_
  intro b16 w1 hb16 h16 g1
  have h11 := g1.kept h1
  have G1 := g0.trans g1
  refine GO ?_
  rw [hk]
  refine RUN ?_
  refine WL_parts [(x.2.dv, x.1.data)] (EvL.eq ⟨rfl, vv, trivial⟩) (by simp) rfl rfl (by
    intro y hy
    rw [List.mem_singleton.1 hy]
    exact BytesAt.grow hx.data G1) ?_
  intro b5 w2 hb5 hps g2
  have hdl := hok.data
  simp only [lim] at hdl
  have hflat : (([(x.2.dv, x.1.data)] : List (Value × Bytes)).map (·.2)).flatten = x.1.data := by simp
  have hj := spec_Joined w2 _ _ hps (by simp) (by rw [hflat]; omega) (by
    intro y hy
    rw [List.mem_singleton.1 hy]
    simp only; omega)
  rw [hflat] at hj
  refine WL_fun rfl ((hj).mono ?_)
  rintro e w3 ⟨v3, rfl, a3, g3⟩
  refine ⟨_, rfl, ?_⟩
  refine RUN ?_
  exact ret1 (v := v3) Tryd.results32 rfl ⟨v3, rfl, Acc.mono a3 (Nat.le_trans G1.size g2.size), G1.trans (g2.trans g3)⟩
theorem host_Unknown : HostC 13 := by
  intro w x hx hk
  have hok := hx.ok
  refine calls_of_WC Tryd.func44 rfl Tryd.ntmps44 rfl ?_
  refine GO ?_
  refine WL_box vv ?_
  intro b1 w0 hb1 h1 g0
  have h1 : w0.heap[b1]? = some (.cells (recCells x).toArray 82 (0, 0)) := h1
  refine GO ?_
  rw [hk]
  refine RUN ?_
  exact ret1 (v := .bool true) Tryd.results44 rfl ⟨rfl, g0⟩
theorem bok_Unknown : BodyOkC 13 := fun w x hx hk => spec_BodyOk body_Unknown host_Unknown (by decide) w x hx hk (fun _ => by have := hx.ok.data; simp only [lim] at this; show x.1.data.length ≤ _; omega)
end Go.Proofs.YtfoinoegabcigaaDoor
