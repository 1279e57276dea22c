/- MX records: the body and its conversion. Written by gen_host2.py. -/
import Derived.Test.YthdjgcegpkjhmaaDoorRMX
import Derived.Test.YthdjgcegpkjhmaaDoorG7
import Derived.Test.YthdjgcegpkjhmaaDoorG8
import Derived.Test.YthdjgcegpkjhmaaDoorG9
import Derived.Test.YthdjgcegpkjhmaaDoorG1
set_option linter.unusedVariables false
set_option linter.unusedSimpArgs false
namespace Go.Proofs.YthdjgcegpkjhmaaDoor
open Go.RowKit
set_option maxHeartbeats 2000000
set_option maxRecDepth 100000

theorem real_MX (w : World) (g : Nat) : Calls Tryd.prog 96 #[.pointer (some ⟨g, 0, none⟩)] w fun e w' => e = .returned (.int .u16 ((15 : Nat) : Int)) ∧ w = w' := by
  refine calls_of_WC Tryd.func96 rfl Tryd.ntmps96 rfl ?_
  refine GO ?_
  exact ret1 (v := .int .u16 15) Tryd.results96 rfl ⟨rfl, rfl⟩
/-- bodies with bytes ahead -/
theorem pre_comp (a : Bytes) (r : PR) : (r.pre a).comp = r.comp := by cases r <;> rfl
theorem pre_ok {a o : Bytes} {r : PR} {c : Option CMap} (h : r.pre a = .ok o c) : ∃ o', r = .ok o' c ∧ o = a ++ o' := by
  cases r with
  | bad _ => cases h
  | ok o' c' => cases h; exact ⟨o', rfl, rfl⟩
theorem packW_comp (nm : Bytes) (pos : Nat) (c : Option CMap) : (packW nm pos c).comp = c := by
  unfold packW
  cases packN nm pos none <;> rfl
theorem packW_ok {nm o : Bytes} {pos : Nat} {c c' : Option CMap} (h : packW nm pos c = .ok o c') : ∃ c1, packN nm pos none = .ok o c1 := by
  unfold packW at h
  cases e : packN nm pos none with
  | bad _ => rw [e] at h; cases h
  | ok o' c1 => rw [e] at h; cases h; exact ⟨c1, rfl⟩
theorem pack_MX (n : Nat) (hn : n < 65536) (nm : Bytes) (hnm : nm.length ≤ 255) : BodyP 97 113 (.int .u16 (n : Int) :: nameList nm) (fun pos c => (packN nm (pos + 2) c).pre (two (n : Int))) 700 (fun _ => True) := by
  intro w g mv cv msg st c hg hst hown hcomp hck hlen hE _
  have hN : NameIn (.int .u16 (n : Int) :: nameList nm).toArray 1 nm := by have := nameIn_of hnm [Value.int .u16 (n : Int)] [] 1 rfl; simpa using this
  refine calls_of_WC Tryd.func97 rfl Tryd.ntmps97 rfl ?_
  refine GO ?_
  refine WL_fun rfl ((dns_packUint16 w mv _ n (by omega) (by omega) hown (by first | omega | (simp only [List.length_append, two_length]; omega))).mono ?_)
  rintro e w1 ⟨mv1, rfl, g1⟩
  refine ⟨_, rfl, ?_⟩
  have P1 := (Pk.refl hown hcomp).grew g1 (List.prefix_refl _)
  have hg1 := P1.kept hcomp hg (by decide)
  refine GO ?_
  have hln : (msg ++ two (n : Int)).length = msg.length + 2 := by simp only [List.length_append, two_length]
  refine WL_fun rfl ((dns_Name_pack w1 g 1 _ _ _ nm hN hg1 (by decide) mv1 cv _ st (by rw [hln]; omega) P1.own c P1.comp hck (by rw [hln]; omega) (hE.pk P1 hcomp)).mono ?_)
  intro e wn hP
  rw [hln, show msg.length + 2 - st = msg.length - st + 2 by omega] at hP
  cases hpk : packN nm (msg.length - st + 2) c with
  | bad c' =>
    rw [hpk] at hP
    obtain ⟨v, tv, p, rfl, hI, P2⟩ := hP
    have PB := (P1.trans P2 hcomp (by first | exact List.prefix_append _ _ | (simp only [List.append_assoc]; exact List.prefix_append _ _))).back
    refine ⟨_, rfl, ?_⟩
    refine GO ?_
    refine WL_neqNil vv ?_
    refine RUN ?_
    refine WL_build (vs := [(0, .string ⟨#[77, 88, 82, 101, 115, 111, 117, 114, 99, 101, 46, 77, 88]⟩), (1, .iface tv p)]) (l := [.string ⟨#[77, 88, 82, 101, 115, 111, 117, 114, 99, 101, 46, 77, 88]⟩, .iface tv p]) (EvL.eq ⟨rfl, vv, rfl, vv, trivial⟩) ⟨⟨_, rfl⟩, ⟨_, rfl⟩, trivial⟩ (by kernel_rfl) ?_
    refine WL_box vv ?_
    intro b2 w2 hb2 h2 g2
    refine WL_y (Y_iface Tryd.underlying152 rfl vv) ?_
    refine GO ?_
    exact ret2 (v1 := mv) (v2 := .iface 152 (.pointer (some ⟨b2, 0, none⟩))) Tryd.results97 rfl rfl (packPost_bad (r := (packN nm (msg.length - st + 2) c).pre (two (n : Int))) (c' := c') (by rw [hpk]; rfl) _ _ _ ⟨_, .inr rfl⟩ (PB.grow g2))
  | ok out c' =>
    rw [hpk] at hP
    obtain ⟨mv2, rfl, P2⟩ := hP
    have PA := P1.trans P2 hcomp (by first | exact List.prefix_append _ _ | (simp only [List.append_assoc]; exact List.prefix_append _ _))
    refine ⟨_, rfl, ?_⟩
    refine GO ?_
    refine WL_neqNil0 vv ?_
    refine RUN ?_
    refine ret2 (v1 := mv2) (v2 := .nilIface) Tryd.results97 rfl rfl (packPost_ok (r := (packN nm (msg.length - st + 2) c).pre (two (n : Int))) (o := two (n : Int) ++ out) (c' := c') (by rw [hpk]; rfl) mv2 ?_)
    simpa only [List.append_assoc] using PA
theorem build_MXR (nm : Bytes) (h : nm.length ≤ 255) (k0 : Nat) : buildL [(0, 1), (1, 256)] (Value.int .u16 0 :: List.replicate 256 (Value.int .u8 0)) [(0, .int .u16 (k0 : Int)), (1, .agg (nameCells nm))] = Value.int .u16 (k0 : Int) :: nameList nm := by
  have e := over_after [Value.int .u16 (k0 : Int)] (List.replicate 256 (Value.int .u8 0) ++ []) 1 0 rfl (nameList nm)
  rw [over_name nm h, List.append_nil, List.append_nil] at e
  simp only [buildL, List.getD_cons_zero, List.getD_cons_succ, Value.cells, nameCells]
  exact e
theorem impl_mxOf (w : World) (x : RecM × RecV) : Calls Tryd.prog 58 #[.agg (recCells x).toArray] w (RetV w (.agg (.int .u16 ((x.1.n1 % 65536 : Nat) : Int) :: nameList (x.1.host.take 255)).toArray)) := by
  have hnm : (x.1.host.take 255).length ≤ 255 := by simp; omega
  refine calls_of_WC Tryd.func58 rfl Tryd.ntmps58 rfl ?_
  refine GO ?_
  refine WL_box vv ?_
  intro b0 w0 hb0 h0 g0
  refine WL_alloc ?_
  intro b1 w1 hb1 h1 g1
  refine GO ?_
  refine WC_seq (WC_draws (fun w' => w'.heap[b0]? = some (.cells (recCells x).toArray 30 (0, 0))) (by kernel_rfl) (fun w1 g => g.kept (g1.kept h0)) ?_)
  intro w2 g2 hS2
  refine WT 0 ?_
  refine WT 1 ?_
  refine WD_take (i := 2) rfl rfl rfl rfl (by kernel_rfl) (by assumption) (fun w' hS => by exact Y_conv (c := ((x.1.n1 % 65536 : Nat) : Int)) vv (by rw [wrap16]; omega)) ?_
  refine WT 3 ?_
  refine WT 4 ?_
  refine WD_one (c := 5) (by kernel_rfl) rfl ?_
  refine WL_fun rfl ((impl_nameOf _ (x.1.host.take 255) (by simp) w2).mono ?_)
  rintro e w3 ⟨rfl, g3⟩
  have g3 : Grows w2 w3 := g3
  refine ⟨_, rfl, WL_nil ⟨g3.kept hS2, ?_⟩⟩
  have hS3 := g3.kept hS2
  refine WD_one (c := 6) (by kernel_rfl) rfl ?_
  refine WL_build (vs := [(0, .int .u16 ((x.1.n1 % 65536 : Nat) : Int)), (1, .agg (nameCells (x.1.host.take 255)))]) (l := .int .u16 ((x.1.n1 % 65536 : Nat) : Int) :: nameList (x.1.host.take 255)) (EvL.eq ⟨rfl, vv, rfl, vv, trivial⟩) ⟨⟨_, rfl⟩, ⟨1, by simp [Value.cells, nameCells, nameList_length _ hnm]⟩, trivial⟩ (build_MXR _ hnm _) ?_
  refine WL_nil ⟨hS3, ?_⟩
  refine WD_one (c := 7) (by kernel_rfl) rfl ?_
  refine WL_storeRow (new := (.int .u16 ((x.1.n1 % 65536 : Nat) : Int) :: nameList (x.1.host.take 255)).toArray) vv vv ((g2.trans g3).kept h1) (by simp [nameList_length _ hnm]) (by simp [Value.cells]) (by intro u hu; simp only [List.mem_toArray, List.mem_cons] at hu; rcases hu with rfl | hu; (rfl); exact nameList_one _ u hu) ?_
  intro w4 hw4 h4
  have G4 := (g0.trans (g1.trans (g2.trans g3))).wrote hw4 (by have := g0.size; omega)
  refine WL_nil ⟨hw4.kept hS3 (by have := (Array.getElem?_eq_some_iff.1 h0).1; omega), ?_⟩
  refine WD_done (by kernel_rfl) ?_
  refine GO ?_
  exact retc Tryd.results58 rfl h4 Tryd.underlying113 rfl (by rw [show (.int .u16 ((x.1.n1 % 65536 : Nat) : Int) :: nameList (x.1.host.take 255)).toArray.size = 257 by simp [nameList_length _ hnm]]; kernel_rfl) ⟨rfl, G4⟩
end Go.Proofs.YthdjgcegpkjhmaaDoor

/- MX records: the function that adds one, and the one that builds. Written by gen_fix.py. -/
namespace Go.Proofs.YthdjgcegpkjhmaaDoor
open Go.RowKit
set_option maxHeartbeats 2000000
set_option maxRecDepth 100000

theorem add_MX : AddC 56 kMX (fun _ => 700) := by
  intro w b mv cv pre id bits m x hB hR hlen hE
  have hnm : (x.1.name.take 255).length ≤ 255 := by simp; omega
  have hok := hR.ok
  have hhm : (x.1.host.take 255).length ≤ 255 := by simp; omega
  have hlen' : (pre ++ m.out).length + 2000 + 700 ≤ 200000000000000 := hlen
  refine calls_of_WC Tryd.func56 rfl Tryd.ntmps56 rfl ?_
  refine GO ?_
  refine WL_box vv ?_
  intro b4 w1 hb4 h4 g1
  refine WL_box vv ?_
  intro b5 w2 hb5 h5 g2
  have h42 := g2.kept h4
  have G2 := g1.trans g2
  refine GO ?_
  refine WC_seq (WC_draws (fun w' => w'.heap[b4]? = some (.cells (rhCells (x.1.name.take 255) x.1.type x.1.cls x.1.ttl x.1.len).toArray 86 (0, 0)) ∧ w'.heap[b5]? = some (.cells (recCells x).toArray 30 (0, 0))) (by kernel_rfl) (fun w1 g => ⟨g.kept h42, g.kept h5⟩) ?_)
  intro w3 g3 hS3
  have G3 := G2.trans g3
  refine WT 0 ?_
  refine WD_take (i := 1) rfl rfl rfl rfl (by kernel_rfl) (by assumption) (fun w' hS => by exact Y_loadRow vv hS.1 (by simp [rhCells, nameList_length _ hnm])) ?_
  refine WD_take (i := 2) rfl rfl rfl rfl (by kernel_rfl) (by assumption) (fun w' hS => by exact Y_loadRow vv hS.2 rfl) ?_
  refine WD_one (c := 3) (by kernel_rfl) rfl ?_
  refine WL_fun rfl ((impl_mxOf w3 x).mono ?_)
  rintro e w4 ⟨rfl, g4⟩
  have g4 : Grows w3 w4 := g4
  have hS4 := And.intro (g4.kept hS3.1) (g4.kept hS3.2)
  have G4 := G3.trans g4
  have B3 := hB.grow G3
  have B4 := hB.grow G4
  refine ⟨_, rfl, WL_nil ⟨hS4, ?_⟩⟩
  refine WD_one (c := 4) (by kernel_rfl) rfl ?_
  refine WL_fun rfl ((dns_MXResource kMX w4 b mv cv pre id bits m B4 x.1 x.1.type (by simp [kMX]) hok.cls hok.ttl hok.len (.int .u16 ((x.1.n1 % 65536 : Nat) : Int) :: nameList (x.1.host.take 255)) (by intro u hu; simp only [List.mem_cons] at hu; rcases hu with rfl | hu; (rfl); exact nameList_one _ u hu) 700 (fun _ => True) (fun w g _ => real_MX w g) (pack_MX (x.1.n1 % 65536) (by omega) _ hhm) (fun pos c o c' e => by obtain ⟨o', e', rfl⟩ := pre_ok e; have := packN_length _ _ _ _ _ e'; simp only [List.length_append, two_length]; omega) (fun pos c h => by show CompOk (PR.comp (PR.pre _ _)); rw [pre_comp]; exact packN_comp _ _ c h) (fun _ _ => trivial) hlen' (hE.grow G4)).mono ?_)
  rintro e w5 ⟨v, rfl, hv, hto⟩
  obtain ⟨mv5, cv5, hB5, hC5, hF5⟩ := hto
  have hS5 := And.intro (hC5.kept hS4.1 (B4.at_.far hS4.1 (by decide) (by decide))) (hC5.kept hS4.2 (B4.at_.far hS4.2 (by decide) (by decide)))
  refine ⟨_, rfl, WL_nil ⟨hS5, ?_⟩⟩
  refine WD_one (c := 5) (by kernel_rfl) rfl ?_
  refine WL_assign vv (WL_nil ⟨hS5, ?_⟩)
  refine WD_done (by kernel_rfl) ?_
  refine GO ?_
  exact ret1 (v := v) Tryd.results56 rfl ⟨_, rfl, hv, BTo.of_grow G4 ⟨mv5, cv5, hB5, hC5, hF5⟩⟩
theorem build_MX : BuildC 29 kMX (fun _ => 700) true := by
  intro w bufv buf h sv ss hbuf hbl hid hop hcode hss hrec hlen hE hK
  refine calls_of_WC Tryd.func29 rfl Tryd.ntmps29 rfl ?_
  refine GO ?_
  refine WL_box vv ?_
  intro b4 w1 hb4 h4 g1
  refine WL_alloc ?_
  intro b6 w2 hb6 h6 g2
  have G2 := g1.trans g2
  refine GO ?_
  refine WL_loadRow vv (g2.kept h4) rfl ?_
  refine GO ?_
  refine WL_fun rfl ((impl_run kMX (fun _ => 700) 56 (CanCall.c (P := Tryd.prog)) w2 bufv buf h sv ss (hbuf.grow G2) hbl hid hop hcode (hss.grow G2) (.inr add_MX) hlen (hE.grow G2) (hK.grow G2)).mono ?_)
  rintro e w3 ⟨v, fv, dv, cs, rfl, hb⟩
  refine ⟨_, rfl, ?_⟩
  have hv := hb.val
  subst hv
  have h63 := hb.grows.kept h6
  have hz : w.heap.size ≤ b6 := by have := g1.size; omega
  refine WL_storeRow (new := #[fv, dv, .int .i64 0]) vv vv h63 rfl rfl hb.one ?_
  intro w4 hw4 h4'
  refine GO ?_
  exact retc Tryd.results29 rfl h4' Tryd.underlying43 rfl (by kernel_rfl) ⟨_, fv, dv, cs, rfl, (hb.mono G2).wrote hw4 h63 (by decide) (by decide) hz⟩
end Go.Proofs.YthdjgcegpkjhmaaDoor

/- MX records: what the reference says of them, and what the laws ask of the function that builds them. Written by gen_kind.py. -/
namespace Go.Proofs.YthdjgcegpkjhmaaDoor
open Go.RowKit
set_option maxHeartbeats 2000000
set_option maxRecDepth 100000

theorem low_in (n : Nat) : 0 ≤ low n ∧ low n < 65536 := by unfold low; omega
theorem body_MX : BodyC 6 := by
  intro w x hx hk hb
  have hok := hx.ok
  refine calls_of_WC Tryd.func38 rfl Tryd.ntmps38 rfl ?_
  refine GO ?_
  refine WL_box vv ?_
  intro b1 w0 hb1 h1 g0
  have h1 : w0.heap[b1]? = some (.cells (recCells x).toArray 70 (0, 0)) := h1
  refine GO ?_
  refine WL_conv (c := low x.1.n1) vv (by rw [wrap16]; simp only [low]; omega) ?_
  refine GO ?_
  refine WL_conv (c := low x.1.n2) vv (by rw [wrap16]; simp only [low]; omega) ?_
  refine GO ?_
  refine WL_conv (c := low x.1.n3) vv (by rw [wrap16]; simp only [low]; omega) ?_
  refine WL_slice (vs := [.int .u16 (low x.1.n1), .int .u16 (low x.1.n2), .int .u16 (low x.1.n3)]) (EvL.eq ⟨rfl, vv, rfl, vv, rfl, vv, trivial⟩) (by simp) rfl (by simp [Value.cells]) rfl ?_
  intro b16 w1 hb16 h16 g1
  have h11 := g1.kept h1
  have G1 := g0.trans g1
  refine GO ?_
  rw [hk]
  refine RUN ?_
  have h16 : w1.heap[b16]? = some (.cells [.int .u16 (low x.1.n1), .int .u16 (low x.1.n2), .int .u16 (low x.1.n3)].toArray 22 (0, 0)) := h16
  refine WC_seq (WC_draws (fun w' => w'.heap[b1]? = some (.cells (recCells x).toArray 70 (0, 0)) ∧ w'.heap[b16]? = some (.cells [.int .u16 (low x.1.n1), .int .u16 (low x.1.n2), .int .u16 (low x.1.n3)].toArray 22 (0, 0))) (by kernel_rfl) (fun w1 g => ⟨g.kept h11, g.kept h16⟩) ?_)
  intro w2 g2 hS2
  refine WT 0 ?_
  refine WD_take (i := 1) rfl rfl rfl rfl (by kernel_rfl) (by assumption) (fun w' hS => by exact Y_index (i := 0) vv rfl (by decide)) ?_
  refine WT 2 ?_
  refine WT 4 ?_
  refine WT 5 ?_
  refine WD_one (c := 3) (by kernel_rfl) rfl ?_
  refine WL_fun rfl ((spec_Two w2 (low x.1.n1) (low_in _).1 (low_in _).2).mono ?_)
  rintro e w3 ⟨v3, rfl, a3, g3⟩
  refine ⟨_, rfl, ?_⟩
  have hS3 := And.intro (g3.kept hS2.1) (g3.kept hS2.2)
  refine WL_nil ⟨hS3, ?_⟩
  refine WD_one (c := 6) (by kernel_rfl) rfl ?_
  refine WL_fun rfl ((spec_Wire w3 _ hok.host).mono ?_)
  rintro e w4 ⟨v4, rfl, a4, g4⟩
  refine ⟨_, rfl, ?_⟩
  have hS4 := And.intro (g4.kept hS3.1) (g4.kept hS3.2)
  refine WL_nil ⟨hS4, ?_⟩
  refine WD_one (c := 7) (by kernel_rfl) rfl ?_
  refine WL_parts [(v3, two (low x.1.n1)), (v4, wire x.1.host)] rfl (by simp) rfl rfl (by intro p hp; simp only [List.mem_cons, List.not_mem_nil, or_false] at hp; rcases hp with rfl | rfl; exact (a3.reads.grow g4); exact a4.reads) ?_
  intro b5 w5 hb5 p5 g5
  have hS5 := And.intro (g5.kept hS4.1) (g5.kept hS4.2)
  refine WL_nil ⟨hS5, ?_⟩
  have hl1 := wire_le x.1.host
  have hn1 := hok.host
  have hl2 := wire_le x.1.box
  have hn2 := hok.box
  simp only [lim] at hn1 hn2
  have hflat : (([(v3, two (low x.1.n1)), (v4, wire x.1.host)] : List (Value × Bytes)).map (·.2)).flatten = body 6 x.1 := by simp [body]
  have hj := spec_Joined w5 _ _ p5 (by simp) (by rw [hflat]; omega) (by intro p hp; simp only [List.mem_cons, List.not_mem_nil, or_false] at hp; rcases hp with rfl | rfl <;> simp only [two_length, four_length] <;> omega)
  rw [hflat] at hj
  refine WD_one (c := 8) (by kernel_rfl) rfl ?_
  refine WL_fun rfl ((hj).mono ?_)
  rintro e w6 ⟨v6, rfl, a6, g6⟩
  refine ⟨_, rfl, ?_⟩
  have hS6 := And.intro (g6.kept hS5.1) (g6.kept hS5.2)
  refine WL_nil ⟨hS6, ?_⟩
  refine WT 9 ?_
  refine WD_done (by kernel_rfl) ?_
  refine GO ?_
  exact ret1 (v := v6) Tryd.results38 rfl ⟨v6, rfl, Acc.mono a6 ((((G1.trans g2).trans g3).trans g4).trans g5).size, (((((G1.trans g2).trans g3).trans g4).trans g5).trans g6)⟩
theorem host_MX : HostC 6 := by
  intro w x hx hk
  have hok := hx.ok
  refine calls_of_WC Tryd.func64 rfl Tryd.ntmps64 rfl ?_
  refine GO ?_
  refine WL_box vv ?_
  intro b1 w0 hb1 h1 g0
  have h1 : w0.heap[b1]? = some (.cells (recCells x).toArray 70 (0, 0)) := h1
  refine GO ?_
  rw [hk]
  refine RUN ?_
  refine WL_fun rfl ((spec_NameOk w0 _ hok.host).mono ?_)
  rintro e w2 ⟨rfl, rfl⟩
  refine ⟨_, rfl, ?_⟩
  refine RUN ?_
  exact ret1 (v := .bool (nameOk x.1.host)) Tryd.results64 rfl ⟨rfl, g0⟩
theorem bok_MX : BodyOkC 6 := fun w x hx hk => spec_BodyOk body_MX host_MX (by decide) w x hx hk (fun h => by have h1 : nameOk x.1.host = true := h; have h2 := (wire_length h1).1; have h3 := nameOk_len h1; have h4 : body 6 x.1 = two (low x.1.n1) ++ wire x.1.host := rfl; rw [h4]; simp only [List.length_append, two_length]; omega)
theorem kc_MX : KC 29 kMX (fun _ => 700) 6 := ⟨build_MX, CanCall.c (P := Tryd.prog), okMX, body_MX, bok_MX, by decide, fun _ _ => by decide, by decide⟩
end Go.Proofs.YthdjgcegpkjhmaaDoor
