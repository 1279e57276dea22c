/- CNAME records: the body, its conversion, and the function that adds one. -/
import Derived.Test.YthdjgcegpkjhmaaDoorRCNAME
import Derived.Test.YthdjgcegpkjhmaaDoorG7
import Derived.Test.YthdjgcegpkjhmaaDoorG8
import Derived.Test.YthdjgcegpkjhmaaDoorG9
import Derived.Test.YthdjgcegpkjhmaaDoorG1
set_option linter.unusedVariables false
set_option linter.unusedSimpArgs false
namespace Go.Proofs.YthdjgcegpkjhmaaDoor
open Go.RowKit
set_option maxHeartbeats 2000000
set_option maxRecDepth 100000

theorem real_CNAME (w : World) (g : Nat) : Calls Tryd.prog 83 #[.pointer (some ⟨g, 0, none⟩)] w fun e w' => e = .returned (.int .u16 ((5 : Nat) : Int)) ∧ w = w' := by
  refine calls_of_WC Tryd.func83 rfl Tryd.ntmps83 rfl ?_
  refine GO ?_
  exact ret1 (v := .int .u16 5) Tryd.results83 rfl ⟨rfl, rfl⟩
theorem pack_CNAME (nm : Bytes) (hnm : nm.length ≤ 255) : BodyP 85 91 (nameList nm) (packN nm) 600 (fun _ => True) := by
  intro w g mv cv msg st c hg hst hown hcomp hck hlen hE _
  have hN : NameIn (nameList nm).toArray 0 nm := by have := nameIn_of hnm [] [] 0 rfl; simpa using this
  refine calls_of_WC Tryd.func85 rfl Tryd.ntmps85 rfl ?_
  refine GO ?_
  refine WL_fun rfl ((dns_Name_pack w g 0 _ _ _ nm hN hg (by decide) mv cv msg st hst hown c hcomp hck (by omega) hE).mono ?_)
  intro e w1 hP
  cases hpk : packN nm (msg.length - st) c with
  | bad c' =>
    rw [hpk] at hP
    obtain ⟨v, tv, p, rfl, hI, P1⟩ := hP
    refine ⟨_, rfl, ?_⟩
    refine GO ?_
    exact ret2 (v1 := v) (v2 := .iface tv p) Tryd.results85 rfl rfl (packPost_bad rfl _ _ _ hI P1)
  | ok out c' =>
    rw [hpk] at hP
    obtain ⟨mv1, rfl, P1⟩ := hP
    refine ⟨_, rfl, ?_⟩
    refine GO ?_
    exact ret2 (v1 := mv1) (v2 := .nilIface) Tryd.results85 rfl rfl (packPost_ok rfl _ P1)
theorem impl_cnameOf (w : World) (x : RecM × RecV) : Calls Tryd.prog 44 #[.agg (recCells x).toArray] w (RetV w (.agg (nameList (x.1.host.take 255)).toArray)) := by
  have hnm : (x.1.host.take 255).length ≤ 255 := by simp; omega
  refine calls_of_WC Tryd.func44 rfl Tryd.ntmps44 rfl ?_
  refine GO ?_
  refine WL_box vv ?_
  intro b0 w0 hb0 h0 g0
  refine WL_alloc ?_
  intro b1 w1 hb1 h1 g1
  refine GO ?_
  refine WL_fun rfl ((impl_nameOf _ (x.1.host.take 255) (by simp) w1).mono ?_)
  rintro e w2 ⟨rfl, g2⟩
  have g2 : Grows w1 w2 := g2
  refine ⟨_, rfl, ?_⟩
  refine WL_build (vs := [(0, .agg (nameCells (x.1.host.take 255)))]) (l := nameList (x.1.host.take 255)) (EvL.eq ⟨rfl, vv, trivial⟩) ⟨⟨0, by simp [Value.cells, nameCells, nameList_length _ hnm]⟩, trivial⟩ (build_name _ hnm) ?_
  refine WL_storeRow (new := (nameList (x.1.host.take 255)).toArray) vv vv (g2.kept h1) (by simp [nameList_length _ hnm]) (by simp [Value.cells]) (by simpa using nameList_one _) ?_
  intro w3 hw3 h3
  have G3 := (g0.trans (g1.trans g2)).wrote hw3 (by have := g0.size; omega)
  refine GO ?_
  exact retc Tryd.results44 rfl h3 Tryd.underlying91 rfl (by rw [show (nameList (x.1.host.take 255)).toArray.size = 256 by simp [nameList_length _ hnm]]; kernel_rfl) ⟨rfl, G3⟩
end Go.Proofs.YthdjgcegpkjhmaaDoor

/- CNAME records: the function that adds one, and the one that builds. -/
namespace Go.Proofs.YthdjgcegpkjhmaaDoor
open Go.RowKit
set_option maxHeartbeats 2000000
set_option maxRecDepth 100000

theorem add_CNAME : AddC 42 kCNAME (fun _ => 600) := by
  intro w b mv cv pre id bits m x hB hR hlen hE
  have hnm : (x.1.name.take 255).length ≤ 255 := by simp; omega
  have hhm : (x.1.host.take 255).length ≤ 255 := by simp; omega
  have hok := hR.ok
  have hlen' : (pre ++ m.out).length + 2000 + 600 ≤ 200000000000000 := hlen
  refine calls_of_WC Tryd.func42 rfl Tryd.ntmps42 rfl ?_
  refine GO ?_
  refine WL_box vv ?_
  intro b4 w1 hb4 h4 g1
  refine WL_box vv ?_
  intro b5 w2 hb5 h5 g2
  have h42 := g2.kept h4
  have G2 := g1.trans g2
  refine GO ?_
  refine WC_seq (WC_draws (fun w' => w'.heap[b4]? = some (.cells (rhCells (x.1.name.take 255) x.1.type x.1.cls x.1.ttl x.1.len).toArray 86 (0, 0)) ∧ w'.heap[b5]? = some (.cells (recCells x).toArray 30 (0, 0))) (by kernel_rfl) (fun w1 g => ⟨g.kept h42, g.kept h5⟩) ?_)
  intro w3 g3 hS3
  have G3 := G2.trans g3
  refine WT 0 ?_
  refine WD_take (i := 1) rfl rfl rfl rfl (by kernel_rfl) (by assumption) (fun w' hS => by exact Y_loadRow vv hS.1 (by simp [rhCells, nameList_length _ hnm])) ?_
  refine WD_take (i := 2) rfl rfl rfl rfl (by kernel_rfl) (by assumption) (fun w' hS => by exact Y_loadRow vv hS.2 rfl) ?_
  refine WD_one (c := 3) (by kernel_rfl) rfl ?_
  refine WL_fun rfl ((impl_cnameOf w3 x).mono ?_)
  rintro e w4 ⟨rfl, g4⟩
  have g4 : Grows w3 w4 := g4
  have hS4 := And.intro (g4.kept hS3.1) (g4.kept hS3.2)
  have G4 := G3.trans g4
  have B4 := hB.grow G4
  refine ⟨_, rfl, WL_nil ⟨hS4, ?_⟩⟩
  refine WD_one (c := 4) (by kernel_rfl) rfl ?_
  refine WL_fun rfl ((dns_CNAMEResource kCNAME w4 b mv cv pre id bits m B4 x.1 x.1.type (by simp [kCNAME]) hok.cls hok.ttl hok.len (nameList (x.1.host.take 255)) (nameList_one _) 600 (fun _ => True) (fun w g _ => real_CNAME w g) (pack_CNAME _ hhm) (fun pos c o c' e => by have := packN_length _ _ _ _ _ e; omega) (fun pos c h => packN_comp _ pos c h) (fun _ _ => trivial) hlen' (hE.grow G4)).mono ?_)
  rintro e w5 ⟨v, rfl, hv, hto⟩
  obtain ⟨mv5, cv5, hB5, hC5, hF5⟩ := hto
  have hS5 := And.intro (hC5.kept hS4.1 (B4.at_.far hS4.1 (by decide) (by decide))) (hC5.kept hS4.2 (B4.at_.far hS4.2 (by decide) (by decide)))
  refine ⟨_, rfl, WL_nil ⟨hS5, ?_⟩⟩
  refine WD_one (c := 5) (by kernel_rfl) rfl ?_
  refine WL_assign vv (WL_nil ⟨hS5, ?_⟩)
  refine WD_done (by kernel_rfl) ?_
  refine GO ?_
  exact ret1 (v := v) Tryd.results42 rfl ⟨_, rfl, hv, BTo.of_grow G4 ⟨mv5, cv5, hB5, hC5, hF5⟩⟩
theorem build_CNAME : BuildC 19 kCNAME (fun _ => 600) true := by
  intro w bufv buf h sv ss hbuf hbl hid hop hcode hss hrec hlen hE hK
  refine calls_of_WC Tryd.func19 rfl Tryd.ntmps19 rfl ?_
  refine GO ?_
  refine WL_box vv ?_
  intro b4 w1 hb4 h4 g1
  refine WL_alloc ?_
  intro b6 w2 hb6 h6 g2
  have G2 := g1.trans g2
  refine GO ?_
  refine WL_loadRow vv (g2.kept h4) rfl ?_
  refine GO ?_
  refine WL_fun rfl ((impl_run kCNAME (fun _ => 600) 42 (CanCall.c (P := Tryd.prog)) w2 bufv buf h sv ss (hbuf.grow G2) hbl hid hop hcode (hss.grow G2) (.inr add_CNAME) hlen (hE.grow G2) (hK.grow G2)).mono ?_)
  rintro e w3 ⟨v, fv, dv, cs, rfl, hb⟩
  refine ⟨_, rfl, ?_⟩
  have hv := hb.val
  subst hv
  have h63 := hb.grows.kept h6
  have hz : w.heap.size ≤ b6 := by have := g1.size; omega
  refine WL_storeRow (new := #[fv, dv, .int .i64 0]) vv vv h63 rfl rfl hb.one ?_
  intro w4 hw4 h4'
  refine GO ?_
  exact retc Tryd.results19 rfl h4' Tryd.underlying43 rfl (by kernel_rfl) ⟨_, fv, dv, cs, rfl, (hb.mono G2).wrote hw4 h63 (by decide) (by decide) hz⟩
end Go.Proofs.YthdjgcegpkjhmaaDoor

/- CNAME records: what the reference says of them, and what the laws ask of the function that builds them. Written by gen_kind.py. -/
namespace Go.Proofs.YthdjgcegpkjhmaaDoor
open Go.RowKit
set_option maxHeartbeats 2000000
set_option maxRecDepth 100000

theorem body_CNAME : BodyC 3 := by
  intro w x hx hk hb
  have hok := hx.ok
  refine calls_of_WC Tryd.func38 rfl Tryd.ntmps38 rfl ?_
  refine GO ?_
  refine WL_box vv ?_
  intro b1 w0 hb1 h1 g0
  have h1 : w0.heap[b1]? = some (.cells (recCells x).toArray 70 (0, 0)) := h1
  refine GO ?_
  refine WL_conv (c := low x.1.n1) vv (by rw [wrap16]; simp only [low]; omega) ?_
  refine GO ?_
  refine WL_conv (c := low x.1.n2) vv (by rw [wrap16]; simp only [low]; omega) ?_
  refine GO ?_
  refine WL_conv (c := low x.1.n3) vv (by rw [wrap16]; simp only [low]; omega) ?_
  refine WL_slice (vs := [.int .u16 (low x.1.n1), .int .u16 (low x.1.n2), .int .u16 (low x.1.n3)]) (EvL.eq ⟨rfl, vv, rfl, vv, rfl, vv, trivial⟩) (by simp) rfl (by simp [Value.cells]) rfl ?_
  intro b16 w1 hb16 h16 g1
  have h11 := g1.kept h1
  have G1 := g0.trans g1
  refine GO ?_
  rw [hk]
  refine RUN ?_
  refine WL_fun rfl ((spec_Wire w1 _ hok.host).mono ?_)
  rintro e w2 ⟨v2, rfl, a2, g2⟩
  refine ⟨_, rfl, ?_⟩
  refine RUN ?_
  exact ret1 (v := v2) Tryd.results38 rfl ⟨v2, rfl, Acc.mono a2 G1.size, G1.trans g2⟩
theorem host_CNAME : HostC 3 := by
  intro w x hx hk
  have hok := hx.ok
  refine calls_of_WC Tryd.func64 rfl Tryd.ntmps64 rfl ?_
  refine GO ?_
  refine WL_box vv ?_
  intro b1 w0 hb1 h1 g0
  have h1 : w0.heap[b1]? = some (.cells (recCells x).toArray 70 (0, 0)) := h1
  refine GO ?_
  rw [hk]
  refine RUN ?_
  refine WL_fun rfl ((spec_NameOk w0 _ hok.host).mono ?_)
  rintro e w2 ⟨rfl, rfl⟩
  refine ⟨_, rfl, ?_⟩
  refine RUN ?_
  exact ret1 (v := .bool (nameOk x.1.host)) Tryd.results64 rfl ⟨rfl, g0⟩
theorem bok_CNAME : BodyOkC 3 := fun w x hx hk => spec_BodyOk body_CNAME host_CNAME (by decide) w x hx hk (fun h => by have h1 : nameOk x.1.host = true := h; have h2 := (wire_length h1).1; have h3 := nameOk_len h1; have h4 : (body 3 x.1).length = (wire x.1.host).length := rfl; omega)
theorem kc_CNAME : KC 19 kCNAME (fun _ => 600) 3 := ⟨build_CNAME, CanCall.c (P := Tryd.prog), okCNAME, body_CNAME, bok_CNAME, by decide, fun _ _ => by decide, by decide⟩
end Go.Proofs.YthdjgcegpkjhmaaDoor
