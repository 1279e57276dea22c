/- laws.FnPlainHTTPS: the law returns true for each input that its row speaks of: its walk. -/
import Derived.Test.YtgkhfpkfjajdjaaDoorKHTTPS
import Derived.Test.YtgkhfpkfjajdjaaDoorG9
set_option linter.unusedVariables false
set_option linter.unusedSimpArgs false
namespace Go.Proofs.YtgkhfpkfjajdjaaDoor
open Go.RowKit
set_option maxHeartbeats 4000000
set_option maxRecDepth 100000

theorem laws_FnPlainHTTPS (w : World) (h : HeadM) (hid : h.id < 65536) (u1 : Value) (x1 : List AskM) (hx1 : AsksAt w u1 x1) (u2 : Value) (x2 : List (RecM × RecV)) (hx2 : RecsAt w u2 x2) (u3 : Value) (x3 : List (RecM × RecV)) (hx3 : RecsAt w u3 x3) (u4 : Value) (x4 : List (RecM × RecV)) (hx4 : RecsAt w u4 x4) (hE : Errs w) (hKn : Known w) : Calls Tryd.prog 4 #[.agg (hcells h), u1, u2, u3, u4] w (RetV w (.bool true)) := by
  refine calls_of_WC Tryd.func4 rfl Tryd.ntmps4 rfl ?_
  refine GO ?_
  refine WL_box vv ?_
  intro b1 w1 hb1 h1 g1
  refine GO ?_
  refine WL_loadRow vv h1 rfl ?_
  refine GO ?_
  refine WL_fun rfl ((laws_plain kc_HTTPS w1 h _ _ _ _ x1 x2 x3 x4 hid (hx1.grow g1) (hx2.grow g1) (hx3.grow g1) (hx4.grow g1) (hE.grow g1) (hKn.grow g1)).mono ?_)
  rintro e w2 ⟨rfl, g2⟩
  refine ⟨_, rfl, ?_⟩
  have g2 : Grows w1 w2 := g2
  refine GO ?_
  exact ret1 (v := .bool true) Tryd.results4 rfl ⟨rfl, g1.trans g2⟩
end Go.Proofs.YtgkhfpkfjajdjaaDoor
