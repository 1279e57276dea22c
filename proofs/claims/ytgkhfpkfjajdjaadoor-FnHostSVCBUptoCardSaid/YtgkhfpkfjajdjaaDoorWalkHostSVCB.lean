/- laws.FnHostSVCB: the law returns true for each input that its row speaks of: its walk. -/
import Derived.Test.YtgkhfpkfjajdjaaDoorKSVCB
import Derived.Test.YtgkhfpkfjajdjaaDoorG17
import Derived.Test.YtgkhfpkfjajdjaaDoorG15
set_option linter.unusedVariables false
set_option linter.unusedSimpArgs false
namespace Go.Proofs.YtgkhfpkfjajdjaaDoor
open Go.RowKit
set_option maxHeartbeats 4000000
set_option maxRecDepth 100000

theorem laws_FnHostSVCB (w : World) (h : HeadM) (hid : h.id < 65536) (x1 : RecM × RecV) (hx1 : RecAt w x1) (x2 : RecM × RecV) (hx2 : RecAt w x2) (hE : Errs w) (hKn : Known w) : Calls Tryd.prog 8 #[.agg (hcells h), .agg (recCells x1).toArray, .agg (recCells x2).toArray] w (RetV w (.bool true)) := by
  refine calls_of_WC Tryd.func8 rfl Tryd.ntmps8 rfl ?_
  refine GO ?_
  refine WL_box vv ?_
  intro b1 w1 hb1 h1 g1
  refine WL_box vv ?_
  intro b2 w2 hb2 h2 g2
  refine WL_box vv ?_
  intro b3 w3 hb3 h3 g3
  have h1 := g3.kept (g2.kept h1)
  have h2 : w3.heap[b2]? = some (.cells (recCells x1).toArray 30 (0, 0)) := g3.kept h2
  have h3 : w3.heap[b3]? = some (.cells (recCells x2).toArray 30 (0, 0)) := h3
  have G3 := g1.trans (g2.trans g3)
  refine GO ?_
  refine WL_fun rfl ((spec_LongLabel w3 x1.1.host hx1.ok.host).mono ?_)
  rintro e w4 ⟨rfl, rfl⟩
  refine ⟨_, rfl, ?_⟩
  cases hlong : longLabel x1.1.host with
  | false =>
    refine RUN ?_
    exact ret1 (v := .bool true) Tryd.results8 rfl ⟨rfl, G3⟩
  | true =>
    refine RUN ?_
    refine WL_fun rfl ((spec_NameOk w3 x1.1.name hx1.ok.name).mono ?_)
    rintro e w4 ⟨rfl, rfl⟩
    refine ⟨_, rfl, ?_⟩
    cases hnm : nameOk x1.1.name with
    | false =>
      refine RUN ?_
      exact ret1 (v := .bool true) Tryd.results8 rfl ⟨rfl, G3⟩
    | true =>
      refine RUN ?_
      refine WL_loadRow vv h1 rfl ?_
      refine WL_loadRow vv h2 rfl ?_
      refine WL_loadRow vv h3 rfl ?_
      refine WL_fun rfl ((laws_refused kc_SVCB w3 h x1 x2 hid (hx1.grow G3) (hx2.grow G3) (badSVCBv hnm hlong) (by have hp := hx1.ok.pairs; simp only [lim] at hp; have h2 := pairsB_le x1.1.pairs 16777216 (fun p hq => (hp.2 p hq).2); have h3 := Nat.mul_le_mul_right (16777216 + 4) (show x1.1.pairs.length ≤ 524288 by omega); show 700 + (pairsB x1.1.pairs).length ≤ 150000000000000; omega) (hE.grow G3) (hKn.grow G3)).mono ?_)
      rintro e w5 ⟨rfl, g5⟩
      refine ⟨_, rfl, ?_⟩
      have g5 : Grows w3 w5 := g5
      refine GO ?_
      exact ret1 (v := .bool true) Tryd.results8 rfl ⟨rfl, G3.trans g5⟩
end Go.Proofs.YtgkhfpkfjajdjaaDoor
