/- AAAA records: the body and its conversion. Written by gen_fix.py. -/
import Derived.Test.YtcbjfjifnnpfpaaDoorRAAAA
import Derived.Test.YtcbjfjifnnpfpaaDoorPackB
import Derived.Test.YtcbjfjifnnpfpaaDoorG8
import Derived.Test.YtcbjfjifnnpfpaaDoorG9
import Derived.Test.YtcbjfjifnnpfpaaDoorG1
import Derived.Test.YtcbjfjifnnpfpaaDoorFixed
set_option linter.unusedVariables false
set_option linter.unusedSimpArgs false
namespace Go.Proofs.YtcbjfjifnnpfpaaDoor
open Go.RowKit
set_option maxHeartbeats 2000000
set_option maxRecDepth 100000

theorem real_AAAA (w : World) (g : Nat) : Calls Tryd.prog 89 #[.pointer (some ⟨g, 0, none⟩)] w fun e w' => e = .returned (.int .u16 ((28 : Nat) : Int)) ∧ w = w' := by
  refine calls_of_WC Tryd.func89 rfl Tryd.ntmps89 rfl ?_
  refine GO ?_
  exact ret1 (v := .int .u16 28) Tryd.results89 rfl ⟨rfl, rfl⟩
theorem pack_AAAA (d : Bytes) : BodyP 90 114 (bv (fixedB d 16)) (fun _ c => .ok (fixedB d 16) c) 100 (fun _ => True) := by
  intro w g mv cv msg st c hg hst hown hcomp hck hlen hE _
  have hb : BytesAt w (.slice (some ⟨g, 0, none⟩) 16 16) (fixedB d 16) := bytes_cells hg (by simp) (fixed_len d 16).symm
  refine calls_of_WC Tryd.func90 rfl Tryd.ntmps90 rfl ?_
  refine GO ?_
  refine WL_y (Y_arrAll vv (by decide)) ?_
  refine WL_fun rfl ((dns_packBytes w mv _ msg (fixedB d 16) hown hb (by rw [fixed_len]; omega) (by rw [fixed_len]; omega)).mono ?_)
  rintro e w1 ⟨v1, rfl, hg1⟩
  refine ⟨_, rfl, ?_⟩
  refine GO ?_
  exact ret2 (v1 := v1) (v2 := .nilIface) Tryd.results90 rfl rfl (packPost_ok rfl _ ((Pk.refl hown hcomp).grew hg1 (List.prefix_refl _)))
theorem impl_aaaaOf (w : World) (x : RecM × RecV) (hx : RecAt w x) : Calls Tryd.prog 55 #[.agg (recCells x).toArray] w (RetV w (.agg (bv (fixedB x.1.data 16)).toArray)) := by
  refine calls_of_WC Tryd.func55 rfl Tryd.ntmps55 rfl ?_
  refine GO ?_
  refine WL_box vv ?_
  intro b1 w1 hb1 h1 g1
  have h1 : w1.heap[b1]? = some (.cells (recCells x).toArray 35 (0, 0)) := h1
  refine WL_alloc ?_
  intro b2 w2 hb2 h2 g2
  refine GO ?_
  refine WL_build (vs := []) (l := List.replicate 16 (.int .u8 0)) rfl trivial (by kernel_rfl) ?_
  refine WL_alloc ?_
  intro b3 w3 hb3 h3 g3
  refine WL_storeRow (new := (List.replicate 16 (Value.int .u8 0)).toArray) vv vv h3 rfl rfl (by simp [Value.oneCell']) ?_
  intro w4 hw4 h4
  have g4 : Grows w2 w4 := g3.wrote hw4 hb3
  have G4 := (g1.trans g2).trans g4
  have h14 := (g2.trans g4).kept h1
  have h24 := g4.kept h2
  obtain ⟨aod, capd, hdv⟩ := ReadsAt.value hx.data
  refine GO ?_
  refine WC_cut (fun f w' => EnvHas f [(2, .pointer (some ⟨b2, 0, none⟩)), (3, .pointer (some ⟨b3, 0, none⟩))] ∧ w'.heap[b3]? = some (.cells (bv (fixedB x.1.data 16)).toArray 114 (0, 0)) ∧ w'.heap[b2]? = some (.cells (List.replicate 16 (Value.int .u8 0)).toArray 114 (0, 0)) ∧ Grows w w') ?_ ?_
  · refine WC_draws (fun w' => w'.heap[b1]? = some (.cells (recCells x).toArray 35 (0, 0))) (by kernel_rfl) (fun w1 g => g.kept h14) ?_
    intro w5 g5 hS
    refine WT 0 ?_
    refine WD_take (i := 1) rfl rfl rfl rfl (by kernel_rfl) (by assumption) (fun w' hS => by exact Y_arrAll vv (by decide)) ?_
    refine WT 2 ?_
    refine WT 3 ?_
    refine WD_one (c := 4) (by kernel_rfl) rfl ?_
    refine WL_copyB vv vv (BytesAt.grow hx.data (G4.trans g5)) (g5.kept h4) (by simp) ?_
    intro u w6 hw6 h6
    rw [List.toList_toArray, copied_cells] at h6
    have hn1 : b1 ≠ b3 := row_ne hS (g5.kept h4) (by decide)
    have hn2 : b2 ≠ b3 := by have := (Array.getElem?_eq_some_iff.1 h2).1; omega
    refine WL_nil ⟨hw6.kept hS hn1, ?_⟩
    refine WD_done (by kernel_rfl) ?_
    exact then_norm ⟨⟨rfl, rfl, trivial⟩, h6, hw6.kept (g5.kept h24) hn2, (G4.trans g5).wrote hw6 (by have := g1.size; have := g2.size; omega)⟩
  rintro f2 w7 ⟨he, h37, h27, G7⟩
  obtain ⟨f, rfl⟩ := he.form
  refine GO ?_
  refine WL_loadRow vv h37 (by simp [bv, fixed_len]) ?_
  refine WL_storeRow (new := (bv (fixedB x.1.data 16)).toArray) vv vv h27 (by simp [bv, fixed_len]) rfl (by
    intro u hu
    simp only [bv, List.mem_map] at hu
    obtain ⟨q, _, rfl⟩ := hu
    rfl) ?_
  intro w8 hw8 h8
  refine GO ?_
  exact retc Tryd.results55 rfl h8 Tryd.underlying114 rfl (by rw [show (bv (fixedB x.1.data 16)).toArray.size = 16 by simp [bv, fixed_len]]; kernel_rfl) ⟨rfl, G7.wrote hw8 (by have := g1.size; omega)⟩
end Go.Proofs.YtcbjfjifnnpfpaaDoor

/- AAAA records: the function that adds one, and the one that builds. Written by gen_fix.py. -/
namespace Go.Proofs.YtcbjfjifnnpfpaaDoor
open Go.RowKit
set_option maxHeartbeats 2000000
set_option maxRecDepth 100000

theorem add_AAAA : AddC 53 kAAAA (fun _ => 100) := by
  intro w b mv cv pre id bits m x hB hR hlen hE
  have hnm : (x.1.name.take 255).length ≤ 255 := by simp; omega
  have hok := hR.ok
  have hlen' : (pre ++ m.out).length + 2000 + 100 ≤ 200000000000000 := hlen
  refine calls_of_WC Tryd.func53 rfl Tryd.ntmps53 rfl ?_
  refine GO ?_
  refine WL_box vv ?_
  intro b4 w1 hb4 h4 g1
  refine WL_box vv ?_
  intro b5 w2 hb5 h5 g2
  have h42 := g2.kept h4
  have G2 := g1.trans g2
  refine GO ?_
  refine WC_seq (WC_draws (fun w' => w'.heap[b4]? = some (.cells (rhCells (x.1.name.take 255) x.1.type x.1.cls x.1.ttl x.1.len).toArray 71 (0, 0)) ∧ w'.heap[b5]? = some (.cells (recCells x).toArray 35 (0, 0))) (by kernel_rfl) (fun w1 g => ⟨g.kept h42, g.kept h5⟩) ?_)
  intro w3 g3 hS3
  have G3 := G2.trans g3
  refine WT 0 ?_
  refine WD_take (i := 1) rfl rfl rfl rfl (by kernel_rfl) (by assumption) (fun w' hS => by exact Y_loadRow vv hS.1 (by simp [rhCells, nameList_length _ hnm])) ?_
  refine WD_take (i := 2) rfl rfl rfl rfl (by kernel_rfl) (by assumption) (fun w' hS => by exact Y_loadRow vv hS.2 rfl) ?_
  refine WD_one (c := 3) (by kernel_rfl) rfl ?_
  refine WL_fun rfl ((impl_aaaaOf w3 x (hR.grow G3)).mono ?_)
  rintro e w4 ⟨rfl, g4⟩
  have g4 : Grows w3 w4 := g4
  have hS4 := And.intro (g4.kept hS3.1) (g4.kept hS3.2)
  have G4 := G3.trans g4
  have B3 := hB.grow G3
  have B4 := hB.grow G4
  refine ⟨_, rfl, WL_nil ⟨hS4, ?_⟩⟩
  refine WD_one (c := 4) (by kernel_rfl) rfl ?_
  refine WL_fun rfl ((dns_AAAAResource kAAAA w4 b mv cv pre id bits m B4 x.1 x.1.type (by simp [kAAAA]) hok.cls hok.ttl hok.len (bv (fixedB x.1.data 16)) (by intro u hu; simp only [bv, List.mem_map] at hu; obtain ⟨q, _, rfl⟩ := hu; rfl) 100 (fun _ => True) (fun w g _ => real_AAAA w g) (pack_AAAA x.1.data) (fun pos c o c' e => by cases e; rw [fixed_len]; omega) (fun _ _ h => h) (fun _ _ => trivial) hlen' (hE.grow G4)).mono ?_)
  rintro e w5 ⟨v, rfl, hv, hto⟩
  obtain ⟨mv5, cv5, hB5, hC5, hF5⟩ := hto
  have hS5 := And.intro (hC5.kept hS4.1 (B4.at_.far hS4.1 (by decide) (by decide))) (hC5.kept hS4.2 (B4.at_.far hS4.2 (by decide) (by decide)))
  refine ⟨_, rfl, WL_nil ⟨hS5, ?_⟩⟩
  refine WD_one (c := 5) (by kernel_rfl) rfl ?_
  refine WL_assign vv (WL_nil ⟨hS5, ?_⟩)
  refine WD_done (by kernel_rfl) ?_
  refine GO ?_
  exact ret1 (v := v) Tryd.results53 rfl ⟨_, rfl, hv, BTo.of_grow G4 ⟨mv5, cv5, hB5, hC5, hF5⟩⟩
theorem build_AAAA : BuildC 30 kAAAA (fun _ => 100) true := by
  intro w bufv buf h sv ss hbuf hbl hid hop hcode hss hrec hlen hE hK
  refine calls_of_WC Tryd.func30 rfl Tryd.ntmps30 rfl ?_
  refine GO ?_
  refine WL_box vv ?_
  intro b4 w1 hb4 h4 g1
  refine WL_alloc ?_
  intro b6 w2 hb6 h6 g2
  have G2 := g1.trans g2
  refine GO ?_
  refine WL_loadRow vv (g2.kept h4) rfl ?_
  refine GO ?_
  refine WL_fun rfl ((impl_run kAAAA (fun _ => 100) 53 (CanCall.c (P := Tryd.prog)) w2 bufv buf h sv ss (hbuf.grow G2) hbl hid hop hcode (hss.grow G2) (.inr add_AAAA) hlen (hE.grow G2) (hK.grow G2)).mono ?_)
  rintro e w3 ⟨v, fv, dv, cs, rfl, hb⟩
  refine ⟨_, rfl, ?_⟩
  have hv := hb.val
  subst hv
  have h63 := hb.grows.kept h6
  have hz : w.heap.size ≤ b6 := by have := g1.size; omega
  refine WL_storeRow (new := #[fv, dv, .int .i64 0]) vv vv h63 rfl rfl hb.one ?_
  intro w4 hw4 h4'
  refine GO ?_
  exact retc Tryd.results30 rfl h4' Tryd.underlying49 rfl (by kernel_rfl) ⟨_, fv, dv, cs, rfl, (hb.mono G2).wrote hw4 h63 (by decide) (by decide) hz⟩
end Go.Proofs.YtcbjfjifnnpfpaaDoor

/- AAAA records: what the reference says of them, and what the laws ask of the function that builds them. Written by gen_kind.py. -/
namespace Go.Proofs.YtcbjfjifnnpfpaaDoor
open Go.RowKit
set_option maxHeartbeats 2000000
set_option maxRecDepth 100000

theorem body_AAAA : BodyC 8 := by
  intro w x hx hk hb
  have hok := hx.ok
  refine calls_of_WC Tryd.func40 rfl Tryd.ntmps40 rfl ?_
  refine GO ?_
  refine WL_box vv ?_
  intro b1 w0 hb1 h1 g0
  have h1 : w0.heap[b1]? = some (.cells (recCells x).toArray 90 (0, 0)) := h1
  refine GO ?_
  refine WL_conv (c := low x.1.n1) vv (by rw [wrap16]; simp only [low]; omega) ?_
  refine GO ?_
  refine WL_conv (c := low x.1.n2) vv (by rw [wrap16]; simp only [low]; omega) ?_
  refine GO ?_
  refine WL_conv (c := low x.1.n3) vv (by rw [wrap16]; simp only [low]; omega) ?_
  refine WL_slice (vs := [.int .u16 (low x.1.n1), .int .u16 (low x.1.n2), .int .u16 (low x.1.n3)]) (EvL.eq ⟨rfl, vv, rfl, vv, rfl, vv, trivial⟩) (by simp) rfl (by simp [Value.cells]) rfl ?_
  intro b16 w1 hb16 h16 g1
  have h11 := g1.kept h1
  have G1 := g0.trans g1
  refine GO ?_
  rw [hk]
  refine RUN ?_
  refine WL_fun rfl ((spec_fixed w1 _ _ 16 (BytesAt.grow hx.data G1) (by omega)).mono ?_)
  rintro e w2 ⟨v2, rfl, a2, g2⟩
  refine ⟨_, rfl, ?_⟩
  refine RUN ?_
  exact ret1 (v := v2) Tryd.results40 rfl ⟨v2, rfl, Acc.mono a2 G1.size, G1.trans g2⟩
theorem host_AAAA : HostC 8 := by
  intro w x hx hk
  have hok := hx.ok
  refine calls_of_WC Tryd.func76 rfl Tryd.ntmps76 rfl ?_
  refine GO ?_
  refine WL_box vv ?_
  intro b1 w0 hb1 h1 g0
  have h1 : w0.heap[b1]? = some (.cells (recCells x).toArray 90 (0, 0)) := h1
  refine GO ?_
  rw [hk]
  refine RUN ?_
  exact ret1 (v := .bool true) Tryd.results76 rfl ⟨rfl, g0⟩
theorem bok_AAAA : BodyOkC 8 := fun w x hx hk => spec_BodyOk body_AAAA host_AAAA (by decide) w x hx hk (fun _ => by rw [show body 8 x.1 = fixedB x.1.data 16 from rfl, fixedB_length]; omega)
theorem kc_AAAA : KC 30 kAAAA (fun _ => 100) 8 := ⟨build_AAAA, CanCall.c (P := Tryd.prog), okAAAA, body_AAAA, bok_AAAA, by decide, fun _ _ => by decide, by decide⟩
end Go.Proofs.YtcbjfjifnnpfpaaDoor
