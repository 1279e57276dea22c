/- Unknown records: the body and its conversion. Written by gen_fix.py. -/
import Derived.Test.YtgnogcijdkoonaaDoorRUnknown
import Derived.Test.YtgnogcijdkoonaaDoorPackB
import Derived.Test.YtgnogcijdkoonaaDoorG8
import Derived.Test.YtgnogcijdkoonaaDoorG9
import Derived.Test.YtgnogcijdkoonaaDoorG1
set_option linter.unusedVariables false
set_option linter.unusedSimpArgs false
namespace Go.Proofs.YtgnogcijdkoonaaDoor
open Go.RowKit
set_option maxHeartbeats 2000000
set_option maxRecDepth 100000

theorem real_Unknown (ty : Nat) (dv : Value) (w : World) (g : Nat) (hg : w.heap[g]? = some (.cells [.int .u16 (ty : Int), dv].toArray 112 (0, 0))) : Calls Tryd.prog 85 #[.pointer (some ⟨g, 0, none⟩)] w fun e w' => e = .returned (.int .u16 (ty : Int)) ∧ w = w' := by
  refine calls_of_WC Tryd.func85 rfl Tryd.ntmps85 rfl ?_
  refine GO ?_
  exact ret1 (v := .int .u16 (ty : Int)) Tryd.results85 rfl ⟨rfl, rfl⟩
theorem pack_Unknown (ty : Nat) (dv : Value) (d : Bytes) (hd : d.length ≤ 140737488355328) : BodyP 87 112 [.int .u16 (ty : Int), dv] (fun _ c => .ok d c) d.length (fun w => BytesAt w dv d) := by
  intro w g mv cv msg st c hg hst hown hcomp hck hlen hE hI
  obtain ⟨ao, cap, rfl⟩ := ReadsAt.value hI
  refine calls_of_WC Tryd.func87 rfl Tryd.ntmps87 rfl ?_
  refine GO ?_
  refine WL_y (Y_sliceAll vv) ?_
  refine WL_fun rfl ((dns_packBytes w mv _ msg d hown hI (by omega) hd).mono ?_)
  rintro e w1 ⟨v1, rfl, hg1⟩
  refine ⟨_, rfl, ?_⟩
  refine GO ?_
  exact ret2 (v1 := v1) (v2 := .nilIface) Tryd.results87 rfl rfl (packPost_ok rfl _ ((Pk.refl hown hcomp).grew hg1 (List.prefix_refl _)))
theorem impl_unknownOf (w : World) (x : RecM × RecV) (hx : RecAt w x) : Calls Tryd.prog 57 #[.agg (recCells x).toArray] w fun e w' => ∃ dv, e = .returned (.agg [.int .u16 (x.1.type : Int), dv].toArray) ∧ AccB w.heap.size w' dv x.1.data ∧ Grows w w' := by
  have hdl := hx.ok.data
  simp only [lim] at hdl
  refine calls_of_WC Tryd.func57 rfl Tryd.ntmps57 rfl ?_
  refine GO ?_
  refine WL_box vv ?_
  intro b1 w1 hb1 h1 g1
  have h1 : w1.heap[b1]? = some (.cells (recCells x).toArray 43 (0, 0)) := h1
  refine WL_alloc ?_
  intro b2 w2 hb2 h2 g2
  have h12 := g2.kept h1
  have G2 := g1.trans g2
  refine GO ?_
  refine WC_seq (WC_draws (fun w' => w'.heap[b1]? = some (.cells (recCells x).toArray 43 (0, 0))) (by kernel_rfl) (fun w1 g => g.kept h12) ?_)
  intro w3 g3 hS
  refine WT 0 ?_
  refine WT 1 ?_
  refine WT 3 ?_
  refine WT 4 ?_
  refine WD_one (c := 2) (by kernel_rfl) rfl ?_
  refine WL_slice0 ?_
  intro b5 w4 hb5 h5 g4
  have hS4 := g4.kept hS
  refine WL_nil ⟨hS4, ?_⟩
  refine WD_one (c := 5) (by kernel_rfl) rfl ?_
  have hz : w.heap.size ≤ w3.heap.size := Nat.le_trans G2.size g3.size
  have hA : AccB w3.heap.size w4 (.slice (some ⟨b5, 0, none⟩) 0 0) [] := Acc.block h5 hb5 (by decide) (by simp)
  refine WL_appendB (bs := []) vv hA.own vv (BytesAt.grow hx.data ((G2.trans g3).trans g4)) (by simp; omega) (by omega) ?_
  intro dv w5 hgr
  have hA5 : AccB w3.heap.size w5 dv x.1.data := by have := AccB.grew hA hgr g4.size; simpa using this
  have g5 : Grows w3 w5 := Acc.below hA hgr g4.size g4
  have hS5 := g5.kept hS
  refine WL_nil ⟨hS5, ?_⟩
  refine WD_one (c := 6) (by kernel_rfl) rfl ?_
  obtain ⟨aod, capd, hdv⟩ := ReadsAt.value hA5.reads
  refine WL_build (vs := [(0, .int .u16 (x.1.type : Int)), (1, dv)]) (l := [.int .u16 (x.1.type : Int), dv]) (EvL.eq ⟨rfl, vv, rfl, vv, trivial⟩) ⟨⟨_, rfl⟩, ⟨1, by rw [hdv]; rfl⟩, trivial⟩ (by rw [hdv]; rfl) ?_
  refine WL_nil ⟨hS5, ?_⟩
  refine WD_one (c := 7) (by kernel_rfl) rfl ?_
  have h25 := g5.kept (g3.kept h2)
  refine WL_storeRow (new := [.int .u16 (x.1.type : Int), dv].toArray) vv vv h25 rfl rfl (by rw [hdv]; simp [Value.oneCell']) ?_
  intro w6 hw6 h6
  have hn : b1 ≠ b2 := by have := (Array.getElem?_eq_some_iff.1 h1).1; omega
  refine WL_nil ⟨hw6.kept hS5 hn, ?_⟩
  refine WD_done (by kernel_rfl) ?_
  refine GO ?_
  exact retc Tryd.results57 rfl h6 Tryd.underlying112 rfl (by kernel_rfl) ⟨dv, rfl, (Acc.mono hA5 hz).wrote_ hw6 (own_ne hA5.own h25 (by decide)), ((G2.trans g3).trans g5).wrote hw6 (by have := g1.size; omega)⟩
end Go.Proofs.YtgnogcijdkoonaaDoor

/- Unknown records: the function that adds one, and the one that builds. Written by gen_fix.py. -/
namespace Go.Proofs.YtgnogcijdkoonaaDoor
open Go.RowKit
set_option maxHeartbeats 2000000
set_option maxRecDepth 100000

theorem add_Unknown : AddC 55 kUnknown (fun r => r.data.length) := by
  intro w b mv cv pre id bits m x hB hR hlen hE
  have hnm : (x.1.name.take 255).length ≤ 255 := by simp; omega
  have hok := hR.ok
  have hlen' : (pre ++ m.out).length + 2000 + x.1.data.length ≤ 200000000000000 := hlen
  refine calls_of_WC Tryd.func55 rfl Tryd.ntmps55 rfl ?_
  refine GO ?_
  refine WL_box vv ?_
  intro b4 w1 hb4 h4 g1
  refine WL_box vv ?_
  intro b5 w2 hb5 h5 g2
  have h42 := g2.kept h4
  have G2 := g1.trans g2
  refine GO ?_
  refine WC_seq (WC_draws (fun w' => w'.heap[b4]? = some (.cells (rhCells (x.1.name.take 255) x.1.type x.1.cls x.1.ttl x.1.len).toArray 109 (0, 0)) ∧ w'.heap[b5]? = some (.cells (recCells x).toArray 43 (0, 0))) (by kernel_rfl) (fun w1 g => ⟨g.kept h42, g.kept h5⟩) ?_)
  intro w3 g3 hS3
  have G3 := G2.trans g3
  refine WT 0 ?_
  refine WD_take (i := 1) rfl rfl rfl rfl (by kernel_rfl) (by assumption) (fun w' hS => by exact Y_loadRow vv hS.1 (by simp [rhCells, nameList_length _ hnm])) ?_
  refine WD_take (i := 2) rfl rfl rfl rfl (by kernel_rfl) (by assumption) (fun w' hS => by exact Y_loadRow vv hS.2 rfl) ?_
  refine WD_one (c := 3) (by kernel_rfl) rfl ?_
  refine WL_fun rfl ((impl_unknownOf w3 x (hR.grow G3)).mono ?_)
  rintro e w4 ⟨dv, rfl, hdv, g4⟩
  obtain ⟨aod, capd, hdvv⟩ := ReadsAt.value hdv.reads
  have hS4 := And.intro (g4.kept hS3.1) (g4.kept hS3.2)
  have G4 := G3.trans g4
  have B3 := hB.grow G3
  have B4 := hB.grow G4
  refine ⟨_, rfl, WL_nil ⟨hS4, ?_⟩⟩
  refine WD_one (c := 4) (by kernel_rfl) rfl ?_
  refine WL_fun rfl ((dns_UnknownResource kUnknown w4 b mv cv pre id bits m B4 x.1 x.1.type hok.type hok.cls hok.ttl hok.len [.int .u16 (x.1.type : Int), dv] (by intro u hu; simp only [List.mem_cons, List.not_mem_nil, or_false] at hu; rcases hu with rfl | rfl; (rfl); (rw [hdvv]; rfl)) x.1.data.length (fun w => BytesAt w dv x.1.data) (fun w g hg => real_Unknown x.1.type dv w g hg) (pack_Unknown x.1.type dv x.1.data (by have := hok.data; simp only [lim] at this; omega)) (fun pos c o c' e => by cases e; exact Nat.le_refl _) (fun _ _ h => h) (fun w' hc => hdv.away hc (foot2_lt B3.own B3.comp)) hlen' (hE.grow G4)).mono ?_)
  rintro e w5 ⟨v, rfl, hv, hto⟩
  obtain ⟨mv5, cv5, hB5, hC5, hF5⟩ := hto
  have hS5 := And.intro (hC5.kept hS4.1 (B4.at_.far hS4.1 (by decide) (by decide))) (hC5.kept hS4.2 (B4.at_.far hS4.2 (by decide) (by decide)))
  refine ⟨_, rfl, WL_nil ⟨hS5, ?_⟩⟩
  refine WD_one (c := 5) (by kernel_rfl) rfl ?_
  refine WL_assign vv (WL_nil ⟨hS5, ?_⟩)
  refine WD_done (by kernel_rfl) ?_
  refine GO ?_
  exact ret1 (v := v) Tryd.results55 rfl ⟨_, rfl, hv, BTo.of_grow G4 ⟨mv5, cv5, hB5, hC5, hF5⟩⟩
theorem build_Unknown : BuildC 30 kUnknown (fun r => r.data.length) true := by
  intro w bufv buf h sv ss hbuf hbl hid hop hcode hss hrec hlen hE hK
  refine calls_of_WC Tryd.func30 rfl Tryd.ntmps30 rfl ?_
  refine GO ?_
  refine WL_box vv ?_
  intro b4 w1 hb4 h4 g1
  refine WL_alloc ?_
  intro b6 w2 hb6 h6 g2
  have G2 := g1.trans g2
  refine GO ?_
  refine WL_loadRow vv (g2.kept h4) rfl ?_
  refine GO ?_
  refine WL_fun rfl ((impl_run kUnknown (fun r => r.data.length) 55 (CanCall.c (P := Tryd.prog)) w2 bufv buf h sv ss (hbuf.grow G2) hbl hid hop hcode (hss.grow G2) (.inr add_Unknown) hlen (hE.grow G2) (hK.grow G2)).mono ?_)
  rintro e w3 ⟨v, fv, dv, cs, rfl, hb⟩
  refine ⟨_, rfl, ?_⟩
  have hv := hb.val
  subst hv
  have h63 := hb.grows.kept h6
  have hz : w.heap.size ≤ b6 := by have := g1.size; omega
  refine WL_storeRow (new := #[fv, dv, .int .i64 0]) vv vv h63 rfl rfl hb.one ?_
  intro w4 hw4 h4'
  refine GO ?_
  exact retc Tryd.results30 rfl h4' Tryd.underlying35 rfl (by kernel_rfl) ⟨_, fv, dv, cs, rfl, (hb.mono G2).wrote hw4 h63 (by decide) (by decide) hz⟩
end Go.Proofs.YtgnogcijdkoonaaDoor

/- Unknown records: what the reference says of them, and what the laws ask of the function that builds them. Written by gen_kind.py. -/
namespace Go.Proofs.YtgnogcijdkoonaaDoor
open Go.RowKit
set_option maxHeartbeats 2000000
set_option maxRecDepth 100000

theorem body_Unknown : BodyC 13 := by
  intro w x hx hk hb
  have hok := hx.ok
  refine calls_of_WC Tryd.func52 rfl Tryd.ntmps52 rfl ?_
  refine GO ?_
  refine WL_box vv ?_
  intro b1 w0 hb1 h1 g0
  have h1 : w0.heap[b1]? = some (.cells (recCells x).toArray 97 (0, 0)) := h1
  refine GO ?_
  refine WL_conv (c := low x.1.n1) vv (by rw [wrap16]; simp only [low]; omega) ?_
  refine GO ?_
  refine WL_conv (c := low x.1.n2) vv (by rw [wrap16]; simp only [low]; omega) ?_
  refine GO ?_
  refine WL_conv (c := low x.1.n3) vv (by rw [wrap16]; simp only [low]; omega) ?_
  refine WL_slice (vs := [.int .u16 (low x.1.n1), .int .u16 (low x.1.n2), .int .u16 (low x.1.n3)]) (EvL.eq ⟨rfl, vv, rfl, vv, rfl, vv, trivial⟩) (by simp) rfl (by simp [Value.cells]) rfl ?_
  intro b16 w1 hb16 h16 g1
  have h11 := g1.kept h1
  have G1 := g0.trans g1
  refine GO ?_
  rw [hk]
  refine RUN ?_
  refine WL_parts [(x.2.dv, x.1.data)] (EvL.eq ⟨rfl, vv, trivial⟩) (by simp) rfl rfl (by
    intro y hy
    rw [List.mem_singleton.1 hy]
    exact BytesAt.grow hx.data G1) ?_
  intro b5 w2 hb5 hps g2
  have hdl := hok.data
  simp only [lim] at hdl
  have hflat : (([(x.2.dv, x.1.data)] : List (Value × Bytes)).map (·.2)).flatten = x.1.data := by simp
  have hj := spec_Joined w2 _ _ hps (by simp) (by rw [hflat]; omega) (by
    intro y hy
    rw [List.mem_singleton.1 hy]
    simp only; omega)
  rw [hflat] at hj
  refine WL_fun rfl ((hj).mono ?_)
  rintro e w3 ⟨v3, rfl, a3, g3⟩
  refine ⟨_, rfl, ?_⟩
  refine RUN ?_
  exact ret1 (v := v3) Tryd.results52 rfl ⟨v3, rfl, Acc.mono a3 (Nat.le_trans G1.size g2.size), G1.trans (g2.trans g3)⟩
theorem host_Unknown : HostC 13 := by
  intro w x hx hk
  have hok := hx.ok
  refine calls_of_WC Tryd.func81 rfl Tryd.ntmps81 rfl ?_
  refine GO ?_
  refine WL_box vv ?_
  intro b1 w0 hb1 h1 g0
  have h1 : w0.heap[b1]? = some (.cells (recCells x).toArray 97 (0, 0)) := h1
  refine GO ?_
  rw [hk]
  refine RUN ?_
  exact ret1 (v := .bool true) Tryd.results81 rfl ⟨rfl, g0⟩
theorem bok_Unknown : BodyOkC 13 := fun w x hx hk => spec_BodyOk body_Unknown host_Unknown (by decide) w x hx hk (fun _ => by have := hx.ok.data; simp only [lim] at this; show x.1.data.length ≤ _; omega)
theorem kc_Unknown : KC 30 kUnknown (fun r => r.data.length) 13 := ⟨build_Unknown, CanCall.c (P := Tryd.prog), okUnknown, body_Unknown, bok_Unknown, by decide, fun r h => by have h1 : r.data.length < 65536 := (recOk_parts h).2.2.1; omega, by decide⟩
end Go.Proofs.YtgnogcijdkoonaaDoor
