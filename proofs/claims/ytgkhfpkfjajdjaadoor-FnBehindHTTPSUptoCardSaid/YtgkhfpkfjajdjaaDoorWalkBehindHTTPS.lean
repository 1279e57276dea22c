/- laws.FnBehindHTTPS: the law returns true for each input that its row speaks of: its walk. -/
import Derived.Test.YtgkhfpkfjajdjaaDoorKHTTPS
import Derived.Test.YtgkhfpkfjajdjaaDoorG10
set_option linter.unusedVariables false
set_option linter.unusedSimpArgs false
namespace Go.Proofs.YtgkhfpkfjajdjaaDoor
open Go.RowKit
set_option maxHeartbeats 4000000
set_option maxRecDepth 100000

theorem laws_FnBehindHTTPS (w : World) (u0 : Value) (x0 : Bytes) (hx0 : BytesAt w u0 x0) (hl0 : x0.length ≤ lim) (x1 : Bool) (h : HeadM) (hid : h.id < 65536) (u3 : Value) (x3 : List AskM) (hx3 : AsksAt w u3 x3) (u4 : Value) (x4 : List (RecM × RecV)) (hx4 : RecsAt w u4 x4) (u5 : Value) (x5 : List (RecM × RecV)) (hx5 : RecsAt w u5 x5) (hE : Errs w) (hKn : Known w) : Calls Tryd.prog 11 #[u0, .bool x1, .agg (hcells h), u3, u4, u5] w (RetV w (.bool true)) := by
  refine calls_of_WC Tryd.func11 rfl Tryd.ntmps11 rfl ?_
  refine GO ?_
  refine WL_box vv ?_
  intro b1 w1 hb1 h1 g1
  refine GO ?_
  refine WL_loadRow vv h1 rfl ?_
  refine GO ?_
  refine WL_fun rfl ((laws_behind kc_HTTPS w1 _ x0 x1 h _ _ _ x3 x4 x5 (hx0.grow g1) hl0 hid (hx3.grow g1) (hx4.grow g1) (hx5.grow g1) (hE.grow g1) (hKn.grow g1)).mono ?_)
  rintro e w2 ⟨rfl, g2⟩
  refine ⟨_, rfl, ?_⟩
  have g2 : Grows w1 w2 := g2
  refine GO ?_
  exact ret1 (v := .bool true) Tryd.results11 rfl ⟨rfl, g1.trans g2⟩
end Go.Proofs.YtgkhfpkfjajdjaaDoor
