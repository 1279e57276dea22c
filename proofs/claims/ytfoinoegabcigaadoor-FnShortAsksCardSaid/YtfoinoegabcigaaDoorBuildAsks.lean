/- impl.BuildAsks. -/
import Derived.Test.YtfoinoegabcigaaDoorG8
set_option linter.unusedVariables false
set_option linter.unusedSimpArgs false
namespace Go.Proofs.YtfoinoegabcigaaDoor
open Go.RowKit
set_option maxHeartbeats 2000000
set_option maxRecDepth 100000

theorem build_Asks : BuildC 16 kNone (fun _ => 0) false := by
  intro w bufv buf h sv ss hbuf hbl hid hop hcode hss hrec hlen hE hK
  refine calls_of_WC Tryd.func16 rfl Tryd.ntmps16 rfl ?_
  refine GO ?_
  refine WL_box vv ?_
  intro b4 w1 hb4 h4 g1
  refine WL_alloc ?_
  intro b6 w2 hb6 h6 g2
  have G2 := g1.trans g2
  refine GO ?_
  refine WL_loadRow vv (g2.kept h4) rfl ?_
  refine GO ?_
  refine WL_fun rfl ((impl_run kNone (fun _ => 0) 37 (CanCall.c (P := Tryd.prog)) w2 bufv buf h sv ss (hbuf.grow G2) hbl hid hop hcode (hss.grow G2) (.inl (hrec rfl)) hlen (hE.grow G2) (hK.grow G2)).mono ?_)
  rintro e w3 ⟨v, fv, dv, cs, rfl, hb⟩
  refine ⟨_, rfl, ?_⟩
  have hv := hb.val
  subst hv
  have h63 := hb.grows.kept h6
  have hz : w.heap.size ≤ b6 := by have := g1.size; omega
  refine WL_storeRow (new := #[fv, dv, .int .i64 0]) vv vv h63 rfl rfl hb.one ?_
  intro w4 hw4 h4'
  refine GO ?_
  exact retc Tryd.results16 rfl h4' Tryd.underlying45 rfl (by kernel_rfl) ⟨_, fv, dv, cs, rfl, (hb.mono G2).wrote hw4 h63 (by decide) (by decide) hz⟩
end Go.Proofs.YtfoinoegabcigaaDoor
