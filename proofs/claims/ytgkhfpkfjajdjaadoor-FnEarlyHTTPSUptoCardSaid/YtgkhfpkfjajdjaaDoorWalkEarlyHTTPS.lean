/- laws.FnEarlyHTTPS: the law returns true for each input that its row speaks of: its walk. -/
import Derived.Test.YtgkhfpkfjajdjaaDoorKHTTPS
import Derived.Test.YtgkhfpkfjajdjaaDoorG11
set_option linter.unusedVariables false
set_option linter.unusedSimpArgs false
namespace Go.Proofs.YtgkhfpkfjajdjaaDoor
open Go.RowKit
set_option maxHeartbeats 4000000
set_option maxRecDepth 100000

theorem laws_FnEarlyHTTPS (w : World) (h : HeadM) (hid : h.id < 65536) (x1 : RecM × RecV) (hx1 : RecAt w x1) (hE : Errs w) (hKn : Known w) : Calls Tryd.prog 3 #[.agg (hcells h), .agg (recCells x1).toArray] w (RetV w (.bool true)) := by
  refine calls_of_WC Tryd.func3 rfl Tryd.ntmps3 rfl ?_
  refine GO ?_
  refine WL_box vv ?_
  intro b1 w1 hb1 h1 g1
  refine WL_box vv ?_
  intro b2 w2 hb2 h2 g2
  have h1 := g2.kept h1
  have h2 : w2.heap[b2]? = some (.cells (recCells x1).toArray 30 (0, 0)) := h2
  have G2 := g1.trans g2
  refine GO ?_
  refine WL_loadRow vv h1 rfl ?_
  refine WL_loadRow vv h2 rfl ?_
  refine GO ?_
  refine WL_fun rfl ((laws_early kc_HTTPS w2 h x1 hid (hx1.grow G2) (hE.grow G2) (hKn.grow G2)).mono ?_)
  rintro e w3 ⟨rfl, g3⟩
  refine ⟨_, rfl, ?_⟩
  have g3 : Grows w2 w3 := g3
  refine GO ?_
  exact ret1 (v := .bool true) Tryd.results3 rfl ⟨rfl, G2.trans g3⟩
end Go.Proofs.YtgkhfpkfjajdjaaDoor
