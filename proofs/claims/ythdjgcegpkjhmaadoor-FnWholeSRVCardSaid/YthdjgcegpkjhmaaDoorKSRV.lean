/- SRV records: the body and its conversion. Written by gen_host2.py. -/
import Derived.Test.YthdjgcegpkjhmaaDoorRSRV
import Derived.Test.YthdjgcegpkjhmaaDoorG7
import Derived.Test.YthdjgcegpkjhmaaDoorG8
import Derived.Test.YthdjgcegpkjhmaaDoorG9
import Derived.Test.YthdjgcegpkjhmaaDoorG1
set_option linter.unusedVariables false
set_option linter.unusedSimpArgs false
namespace Go.Proofs.YthdjgcegpkjhmaaDoor
open Go.RowKit
set_option maxHeartbeats 2000000
set_option maxRecDepth 100000

theorem real_SRV (w : World) (g : Nat) : Calls Tryd.prog 98 #[.pointer (some ⟨g, 0, none⟩)] w fun e w' => e = .returned (.int .u16 ((33 : Nat) : Int)) ∧ w = w' := by
  refine calls_of_WC Tryd.func98 rfl Tryd.ntmps98 rfl ?_
  refine GO ?_
  exact ret1 (v := .int .u16 33) Tryd.results98 rfl ⟨rfl, rfl⟩
/-- bodies with bytes ahead -/
theorem pre_comp (a : Bytes) (r : PR) : (r.pre a).comp = r.comp := by cases r <;> rfl
theorem pre_ok {a o : Bytes} {r : PR} {c : Option CMap} (h : r.pre a = .ok o c) : ∃ o', r = .ok o' c ∧ o = a ++ o' := by
  cases r with
  | bad _ => cases h
  | ok o' c' => cases h; exact ⟨o', rfl, rfl⟩
theorem packW_comp (nm : Bytes) (pos : Nat) (c : Option CMap) : (packW nm pos c).comp = c := by
  unfold packW
  cases packN nm pos none <;> rfl
theorem packW_ok {nm o : Bytes} {pos : Nat} {c c' : Option CMap} (h : packW nm pos c = .ok o c') : ∃ c1, packN nm pos none = .ok o c1 := by
  unfold packW at h
  cases e : packN nm pos none with
  | bad _ => rw [e] at h; cases h
  | ok o' c1 => rw [e] at h; cases h; exact ⟨c1, rfl⟩
/-- packed without a map: the map that lies there is left alone -/
theorem Pk.nomap {w w' : World} {mv cv mv' : Value} {msg msg' : Bytes} {c1 c : Option CMap} (h : Pk w mv (.map none) msg w' mv' msg' c1) (hc : CompAt w cv c) : Pk w mv cv msg w' mv' msg' c := by
  refine ⟨h.was, h.own, h.old, hc.kept fun r hr => h.chg.block r (hc.lt hr) ?_, h.chg.mono ?_, h.at_⟩
  · rintro (e | e)
    · exact hc.apart h.was r hr e
    · cases e
  · rintro k _ (e | e)
    · exact .inl e
    · cases e
theorem pack_SRV (n1 : Nat) (n2 : Nat) (n3 : Nat) (hn1 : n1 < 65536) (hn2 : n2 < 65536) (hn3 : n3 < 65536) (nm : Bytes) (hnm : nm.length ≤ 255) : BodyP 99 117 (.int .u16 (n1 : Int) :: .int .u16 (n2 : Int) :: .int .u16 (n3 : Int) :: nameList nm) (fun pos c => (packW nm (pos + 6) c).pre (two (n1 : Int) ++ two (n2 : Int) ++ two (n3 : Int))) 700 (fun _ => True) := by
  intro w g mv cv msg st c hg hst hown hcomp hck hlen hE _
  have hN : NameIn (.int .u16 (n1 : Int) :: .int .u16 (n2 : Int) :: .int .u16 (n3 : Int) :: nameList nm).toArray 3 nm := by have := nameIn_of hnm [Value.int .u16 (n1 : Int), Value.int .u16 (n2 : Int), Value.int .u16 (n3 : Int)] [] 3 rfl; simpa using this
  refine calls_of_WC Tryd.func99 rfl Tryd.ntmps99 rfl ?_
  refine GO ?_
  refine WL_fun rfl ((dns_packUint16 w mv _ n1 (by omega) (by omega) hown (by first | omega | (simp only [List.length_append, two_length]; omega))).mono ?_)
  rintro e w1 ⟨mv1, rfl, g1⟩
  refine ⟨_, rfl, ?_⟩
  have P1 := (Pk.refl hown hcomp).grew g1 (List.prefix_refl _)
  have hg1 := P1.kept hcomp hg (by decide)
  refine GO ?_
  refine WL_fun rfl ((dns_packUint16 w1 mv1 _ n2 (by omega) (by omega) P1.own (by first | omega | (simp only [List.length_append, two_length]; omega))).mono ?_)
  rintro e w2 ⟨mv2, rfl, g2⟩
  refine ⟨_, rfl, ?_⟩
  have P2 := P1.grew g2 (by first | exact List.prefix_append _ _ | (simp only [List.append_assoc]; exact List.prefix_append _ _))
  have hg2 := P2.kept hcomp hg (by decide)
  refine GO ?_
  refine WL_fun rfl ((dns_packUint16 w2 mv2 _ n3 (by omega) (by omega) P2.own (by first | omega | (simp only [List.length_append, two_length]; omega))).mono ?_)
  rintro e w3 ⟨mv3, rfl, g3⟩
  refine ⟨_, rfl, ?_⟩
  have P3 := P2.grew g3 (by first | exact List.prefix_append _ _ | (simp only [List.append_assoc]; exact List.prefix_append _ _))
  have hg3 := P3.kept hcomp hg (by decide)
  refine GO ?_
  have hln : (msg ++ two (n1 : Int) ++ two (n2 : Int) ++ two (n3 : Int)).length = msg.length + 6 := by simp only [List.length_append, two_length]
  refine WL_fun rfl ((dns_Name_pack w3 g 3 _ _ _ nm hN hg3 (by decide) mv3 (.map none) _ st (by rw [hln]; omega) P3.own none rfl CompOk.none (by rw [hln]; omega) (hE.pk P3 hcomp)).mono ?_)
  intro e wn hP
  rw [hln, show msg.length + 6 - st = msg.length - st + 6 by omega] at hP
  cases hpk : packN nm (msg.length - st + 6) none with
  | bad c' =>
    rw [hpk] at hP
    obtain ⟨v, tv, p, rfl, hI, P2⟩ := hP
    have PB := (P3.trans (P2.nomap P3.comp) hcomp (by first | exact List.prefix_append _ _ | (simp only [List.append_assoc]; exact List.prefix_append _ _))).back
    refine ⟨_, rfl, ?_⟩
    refine GO ?_
    refine WL_neqNil vv ?_
    refine RUN ?_
    refine WL_build (vs := [(0, .string ⟨#[83, 82, 86, 82, 101, 115, 111, 117, 114, 99, 101, 46, 84, 97, 114, 103, 101, 116]⟩), (1, .iface tv p)]) (l := [.string ⟨#[83, 82, 86, 82, 101, 115, 111, 117, 114, 99, 101, 46, 84, 97, 114, 103, 101, 116]⟩, .iface tv p]) (EvL.eq ⟨rfl, vv, rfl, vv, trivial⟩) ⟨⟨_, rfl⟩, ⟨_, rfl⟩, trivial⟩ (by kernel_rfl) ?_
    refine WL_box vv ?_
    intro b2 w2 hb2 h2 g2
    refine WL_y (Y_iface Tryd.underlying152 rfl vv) ?_
    refine GO ?_
    exact ret2 (v1 := mv) (v2 := .iface 152 (.pointer (some ⟨b2, 0, none⟩))) Tryd.results99 rfl rfl (packPost_bad (r := (packW nm (msg.length - st + 6) c).pre (two (n1 : Int) ++ two (n2 : Int) ++ two (n3 : Int))) (c' := c) (by rw [packW, hpk]; rfl) _ _ _ ⟨_, .inr rfl⟩ (PB.grow g2))
  | ok out c' =>
    rw [hpk] at hP
    obtain ⟨mv2, rfl, P2⟩ := hP
    have PA := P3.trans (P2.nomap P3.comp) hcomp (by first | exact List.prefix_append _ _ | (simp only [List.append_assoc]; exact List.prefix_append _ _))
    refine ⟨_, rfl, ?_⟩
    refine GO ?_
    refine WL_neqNil0 vv ?_
    refine RUN ?_
    refine ret2 (v1 := mv2) (v2 := .nilIface) Tryd.results99 rfl rfl (packPost_ok (r := (packW nm (msg.length - st + 6) c).pre (two (n1 : Int) ++ two (n2 : Int) ++ two (n3 : Int))) (o := two (n1 : Int) ++ two (n2 : Int) ++ two (n3 : Int) ++ out) (c' := c) (by rw [packW, hpk]; rfl) mv2 ?_)
    simpa only [List.append_assoc] using PA
theorem build_SRVR (nm : Bytes) (h : nm.length ≤ 255) (k0 k1 k2 : Nat) : buildL [(0, 1), (1, 1), (2, 1), (3, 256)] (Value.int .u16 0 :: Value.int .u16 0 :: Value.int .u16 0 :: List.replicate 256 (Value.int .u8 0)) [(0, .int .u16 (k0 : Int)), (1, .int .u16 (k1 : Int)), (2, .int .u16 (k2 : Int)), (3, .agg (nameCells nm))] = Value.int .u16 (k0 : Int) :: Value.int .u16 (k1 : Int) :: Value.int .u16 (k2 : Int) :: nameList nm := by
  have e := over_after [Value.int .u16 (k0 : Int), Value.int .u16 (k1 : Int), Value.int .u16 (k2 : Int)] (List.replicate 256 (Value.int .u8 0) ++ []) 3 0 rfl (nameList nm)
  rw [over_name nm h, List.append_nil, List.append_nil] at e
  simp only [buildL, List.getD_cons_zero, List.getD_cons_succ, Value.cells, nameCells]
  exact e
theorem impl_srvOf (w : World) (x : RecM × RecV) : Calls Tryd.prog 61 #[.agg (recCells x).toArray] w (RetV w (.agg (.int .u16 ((x.1.n1 % 65536 : Nat) : Int) :: .int .u16 ((x.1.n2 % 65536 : Nat) : Int) :: .int .u16 ((x.1.n3 % 65536 : Nat) : Int) :: nameList (x.1.host.take 255)).toArray)) := by
  have hnm : (x.1.host.take 255).length ≤ 255 := by simp; omega
  refine calls_of_WC Tryd.func61 rfl Tryd.ntmps61 rfl ?_
  refine GO ?_
  refine WL_box vv ?_
  intro b0 w0 hb0 h0 g0
  refine WL_alloc ?_
  intro b1 w1 hb1 h1 g1
  refine GO ?_
  refine WC_seq (WC_draws (fun w' => w'.heap[b0]? = some (.cells (recCells x).toArray 30 (0, 0))) (by kernel_rfl) (fun w1 g => g.kept (g1.kept h0)) ?_)
  intro w2 g2 hS2
  refine WT 0 ?_
  refine WT 1 ?_
  refine WD_take (i := 2) rfl rfl rfl rfl (by kernel_rfl) (by assumption) (fun w' hS => by exact Y_conv (c := ((x.1.n1 % 65536 : Nat) : Int)) vv (by rw [wrap16]; omega)) ?_
  refine WT 3 ?_
  refine WT 4 ?_
  refine WD_take (i := 5) rfl rfl rfl rfl (by kernel_rfl) (by assumption) (fun w' hS => by exact Y_conv (c := ((x.1.n2 % 65536 : Nat) : Int)) vv (by rw [wrap16]; omega)) ?_
  refine WT 6 ?_
  refine WT 7 ?_
  refine WD_take (i := 8) rfl rfl rfl rfl (by kernel_rfl) (by assumption) (fun w' hS => by exact Y_conv (c := ((x.1.n3 % 65536 : Nat) : Int)) vv (by rw [wrap16]; omega)) ?_
  refine WT 9 ?_
  refine WT 10 ?_
  refine WD_one (c := 11) (by kernel_rfl) rfl ?_
  refine WL_fun rfl ((impl_nameOf _ (x.1.host.take 255) (by simp) w2).mono ?_)
  rintro e w3 ⟨rfl, g3⟩
  have g3 : Grows w2 w3 := g3
  refine ⟨_, rfl, WL_nil ⟨g3.kept hS2, ?_⟩⟩
  have hS3 := g3.kept hS2
  refine WD_one (c := 12) (by kernel_rfl) rfl ?_
  refine WL_build (vs := [(0, .int .u16 ((x.1.n1 % 65536 : Nat) : Int)), (1, .int .u16 ((x.1.n2 % 65536 : Nat) : Int)), (2, .int .u16 ((x.1.n3 % 65536 : Nat) : Int)), (3, .agg (nameCells (x.1.host.take 255)))]) (l := .int .u16 ((x.1.n1 % 65536 : Nat) : Int) :: .int .u16 ((x.1.n2 % 65536 : Nat) : Int) :: .int .u16 ((x.1.n3 % 65536 : Nat) : Int) :: nameList (x.1.host.take 255)) (EvL.eq ⟨rfl, vv, rfl, vv, rfl, vv, rfl, vv, trivial⟩) ⟨⟨_, rfl⟩, ⟨_, rfl⟩, ⟨_, rfl⟩, ⟨3, by simp [Value.cells, nameCells, nameList_length _ hnm]⟩, trivial⟩ (build_SRVR _ hnm _ _ _) ?_
  refine WL_nil ⟨hS3, ?_⟩
  refine WD_one (c := 13) (by kernel_rfl) rfl ?_
  refine WL_storeRow (new := (.int .u16 ((x.1.n1 % 65536 : Nat) : Int) :: .int .u16 ((x.1.n2 % 65536 : Nat) : Int) :: .int .u16 ((x.1.n3 % 65536 : Nat) : Int) :: nameList (x.1.host.take 255)).toArray) vv vv ((g2.trans g3).kept h1) (by simp [nameList_length _ hnm]) (by simp [Value.cells]) (by intro u hu; simp only [List.mem_toArray, List.mem_cons] at hu; rcases hu with rfl | rfl | rfl | hu; (rfl); (rfl); (rfl); exact nameList_one _ u hu) ?_
  intro w4 hw4 h4
  have G4 := (g0.trans (g1.trans (g2.trans g3))).wrote hw4 (by have := g0.size; omega)
  refine WL_nil ⟨hw4.kept hS3 (by have := (Array.getElem?_eq_some_iff.1 h0).1; omega), ?_⟩
  refine WD_done (by kernel_rfl) ?_
  refine GO ?_
  exact retc Tryd.results61 rfl h4 Tryd.underlying117 rfl (by rw [show (.int .u16 ((x.1.n1 % 65536 : Nat) : Int) :: .int .u16 ((x.1.n2 % 65536 : Nat) : Int) :: .int .u16 ((x.1.n3 % 65536 : Nat) : Int) :: nameList (x.1.host.take 255)).toArray.size = 259 by simp [nameList_length _ hnm]]; kernel_rfl) ⟨rfl, G4⟩
end Go.Proofs.YthdjgcegpkjhmaaDoor

/- SRV records: the function that adds one, and the one that builds. Written by gen_fix.py. -/
namespace Go.Proofs.YthdjgcegpkjhmaaDoor
open Go.RowKit
set_option maxHeartbeats 2000000
set_option maxRecDepth 100000

theorem add_SRV : AddC 59 kSRV (fun _ => 700) := by
  intro w b mv cv pre id bits m x hB hR hlen hE
  have hnm : (x.1.name.take 255).length ≤ 255 := by simp; omega
  have hok := hR.ok
  have hhm : (x.1.host.take 255).length ≤ 255 := by simp; omega
  have hlen' : (pre ++ m.out).length + 2000 + 700 ≤ 200000000000000 := hlen
  refine calls_of_WC Tryd.func59 rfl Tryd.ntmps59 rfl ?_
  refine GO ?_
  refine WL_box vv ?_
  intro b4 w1 hb4 h4 g1
  refine WL_box vv ?_
  intro b5 w2 hb5 h5 g2
  have h42 := g2.kept h4
  have G2 := g1.trans g2
  refine GO ?_
  refine WC_seq (WC_draws (fun w' => w'.heap[b4]? = some (.cells (rhCells (x.1.name.take 255) x.1.type x.1.cls x.1.ttl x.1.len).toArray 86 (0, 0)) ∧ w'.heap[b5]? = some (.cells (recCells x).toArray 30 (0, 0))) (by kernel_rfl) (fun w1 g => ⟨g.kept h42, g.kept h5⟩) ?_)
  intro w3 g3 hS3
  have G3 := G2.trans g3
  refine WT 0 ?_
  refine WD_take (i := 1) rfl rfl rfl rfl (by kernel_rfl) (by assumption) (fun w' hS => by exact Y_loadRow vv hS.1 (by simp [rhCells, nameList_length _ hnm])) ?_
  refine WD_take (i := 2) rfl rfl rfl rfl (by kernel_rfl) (by assumption) (fun w' hS => by exact Y_loadRow vv hS.2 rfl) ?_
  refine WD_one (c := 3) (by kernel_rfl) rfl ?_
  refine WL_fun rfl ((impl_srvOf w3 x).mono ?_)
  rintro e w4 ⟨rfl, g4⟩
  have g4 : Grows w3 w4 := g4
  have hS4 := And.intro (g4.kept hS3.1) (g4.kept hS3.2)
  have G4 := G3.trans g4
  have B3 := hB.grow G3
  have B4 := hB.grow G4
  refine ⟨_, rfl, WL_nil ⟨hS4, ?_⟩⟩
  refine WD_one (c := 4) (by kernel_rfl) rfl ?_
  refine WL_fun rfl ((dns_SRVResource kSRV w4 b mv cv pre id bits m B4 x.1 x.1.type (by simp [kSRV]) hok.cls hok.ttl hok.len (.int .u16 ((x.1.n1 % 65536 : Nat) : Int) :: .int .u16 ((x.1.n2 % 65536 : Nat) : Int) :: .int .u16 ((x.1.n3 % 65536 : Nat) : Int) :: nameList (x.1.host.take 255)) (by intro u hu; simp only [List.mem_cons] at hu; rcases hu with rfl | rfl | rfl | hu; (rfl); (rfl); (rfl); exact nameList_one _ u hu) 700 (fun _ => True) (fun w g _ => real_SRV w g) (pack_SRV (x.1.n1 % 65536) (x.1.n2 % 65536) (x.1.n3 % 65536) (by omega) (by omega) (by omega) _ hhm) (fun pos c o c' e => by obtain ⟨o', e', rfl⟩ := pre_ok e; obtain ⟨c1, e1⟩ := packW_ok e'; have := packN_length _ _ _ _ _ e1; simp only [List.length_append, two_length]; omega) (fun pos c h => by show CompOk (PR.comp (PR.pre _ _)); rw [pre_comp, packW_comp]; exact h) (fun _ _ => trivial) hlen' (hE.grow G4)).mono ?_)
  rintro e w5 ⟨v, rfl, hv, hto⟩
  obtain ⟨mv5, cv5, hB5, hC5, hF5⟩ := hto
  have hS5 := And.intro (hC5.kept hS4.1 (B4.at_.far hS4.1 (by decide) (by decide))) (hC5.kept hS4.2 (B4.at_.far hS4.2 (by decide) (by decide)))
  refine ⟨_, rfl, WL_nil ⟨hS5, ?_⟩⟩
  refine WD_one (c := 5) (by kernel_rfl) rfl ?_
  refine WL_assign vv (WL_nil ⟨hS5, ?_⟩)
  refine WD_done (by kernel_rfl) ?_
  refine GO ?_
  exact ret1 (v := v) Tryd.results59 rfl ⟨_, rfl, hv, BTo.of_grow G4 ⟨mv5, cv5, hB5, hC5, hF5⟩⟩
theorem build_SRV : BuildC 33 kSRV (fun _ => 700) true := by
  intro w bufv buf h sv ss hbuf hbl hid hop hcode hss hrec hlen hE hK
  refine calls_of_WC Tryd.func33 rfl Tryd.ntmps33 rfl ?_
  refine GO ?_
  refine WL_box vv ?_
  intro b4 w1 hb4 h4 g1
  refine WL_alloc ?_
  intro b6 w2 hb6 h6 g2
  have G2 := g1.trans g2
  refine GO ?_
  refine WL_loadRow vv (g2.kept h4) rfl ?_
  refine GO ?_
  refine WL_fun rfl ((impl_run kSRV (fun _ => 700) 59 (CanCall.c (P := Tryd.prog)) w2 bufv buf h sv ss (hbuf.grow G2) hbl hid hop hcode (hss.grow G2) (.inr add_SRV) hlen (hE.grow G2) (hK.grow G2)).mono ?_)
  rintro e w3 ⟨v, fv, dv, cs, rfl, hb⟩
  refine ⟨_, rfl, ?_⟩
  have hv := hb.val
  subst hv
  have h63 := hb.grows.kept h6
  have hz : w.heap.size ≤ b6 := by have := g1.size; omega
  refine WL_storeRow (new := #[fv, dv, .int .i64 0]) vv vv h63 rfl rfl hb.one ?_
  intro w4 hw4 h4'
  refine GO ?_
  exact retc Tryd.results33 rfl h4' Tryd.underlying43 rfl (by kernel_rfl) ⟨_, fv, dv, cs, rfl, (hb.mono G2).wrote hw4 h63 (by decide) (by decide) hz⟩
end Go.Proofs.YthdjgcegpkjhmaaDoor

/- SRV records: what the reference says of them, and what the laws ask of the function that builds them. Written by gen_kind.py. -/
namespace Go.Proofs.YthdjgcegpkjhmaaDoor
open Go.RowKit
set_option maxHeartbeats 2000000
set_option maxRecDepth 100000

theorem low_in (n : Nat) : 0 ≤ low n ∧ low n < 65536 := by unfold low; omega
theorem body_SRV : BodyC 9 := by
  intro w x hx hk hb
  have hok := hx.ok
  refine calls_of_WC Tryd.func38 rfl Tryd.ntmps38 rfl ?_
  refine GO ?_
  refine WL_box vv ?_
  intro b1 w0 hb1 h1 g0
  have h1 : w0.heap[b1]? = some (.cells (recCells x).toArray 70 (0, 0)) := h1
  refine GO ?_
  refine WL_conv (c := low x.1.n1) vv (by rw [wrap16]; simp only [low]; omega) ?_
  refine GO ?_
  refine WL_conv (c := low x.1.n2) vv (by rw [wrap16]; simp only [low]; omega) ?_
  refine GO ?_
  refine WL_conv (c := low x.1.n3) vv (by rw [wrap16]; simp only [low]; omega) ?_
  refine WL_slice (vs := [.int .u16 (low x.1.n1), .int .u16 (low x.1.n2), .int .u16 (low x.1.n3)]) (EvL.eq ⟨rfl, vv, rfl, vv, rfl, vv, trivial⟩) (by simp) rfl (by simp [Value.cells]) rfl ?_
  intro b16 w1 hb16 h16 g1
  have h11 := g1.kept h1
  have G1 := g0.trans g1
  refine GO ?_
  rw [hk]
  refine RUN ?_
  have h16 : w1.heap[b16]? = some (.cells [.int .u16 (low x.1.n1), .int .u16 (low x.1.n2), .int .u16 (low x.1.n3)].toArray 22 (0, 0)) := h16
  refine WC_seq (WC_draws (fun w' => w'.heap[b1]? = some (.cells (recCells x).toArray 70 (0, 0)) ∧ w'.heap[b16]? = some (.cells [.int .u16 (low x.1.n1), .int .u16 (low x.1.n2), .int .u16 (low x.1.n3)].toArray 22 (0, 0))) (by kernel_rfl) (fun w1 g => ⟨g.kept h11, g.kept h16⟩) ?_)
  intro w2 g2 hS2
  refine WT 0 ?_
  refine WD_take (i := 1) rfl rfl rfl rfl (by kernel_rfl) (by assumption) (fun w' hS => by exact Y_index (i := 0) vv rfl (by decide)) ?_
  refine WT 2 ?_
  refine WT 4 ?_
  refine WD_take (i := 5) rfl rfl rfl rfl (by kernel_rfl) (by assumption) (fun w' hS => by exact Y_index (i := 1) vv rfl (by decide)) ?_
  refine WT 6 ?_
  refine WT 8 ?_
  refine WD_take (i := 9) rfl rfl rfl rfl (by kernel_rfl) (by assumption) (fun w' hS => by exact Y_index (i := 2) vv rfl (by decide)) ?_
  refine WT 10 ?_
  refine WT 12 ?_
  refine WT 13 ?_
  refine WD_one (c := 3) (by kernel_rfl) rfl ?_
  refine WL_fun rfl ((spec_Two w2 (low x.1.n1) (low_in _).1 (low_in _).2).mono ?_)
  rintro e w3 ⟨v3, rfl, a3, g3⟩
  refine ⟨_, rfl, ?_⟩
  have hS3 := And.intro (g3.kept hS2.1) (g3.kept hS2.2)
  refine WL_nil ⟨hS3, ?_⟩
  refine WD_one (c := 7) (by kernel_rfl) rfl ?_
  refine WL_fun rfl ((spec_Two w3 (low x.1.n2) (low_in _).1 (low_in _).2).mono ?_)
  rintro e w4 ⟨v4, rfl, a4, g4⟩
  refine ⟨_, rfl, ?_⟩
  have hS4 := And.intro (g4.kept hS3.1) (g4.kept hS3.2)
  refine WL_nil ⟨hS4, ?_⟩
  refine WD_one (c := 11) (by kernel_rfl) rfl ?_
  refine WL_fun rfl ((spec_Two w4 (low x.1.n3) (low_in _).1 (low_in _).2).mono ?_)
  rintro e w5 ⟨v5, rfl, a5, g5⟩
  refine ⟨_, rfl, ?_⟩
  have hS5 := And.intro (g5.kept hS4.1) (g5.kept hS4.2)
  refine WL_nil ⟨hS5, ?_⟩
  refine WD_one (c := 14) (by kernel_rfl) rfl ?_
  refine WL_fun rfl ((spec_Wire w5 _ hok.host).mono ?_)
  rintro e w6 ⟨v6, rfl, a6, g6⟩
  refine ⟨_, rfl, ?_⟩
  have hS6 := And.intro (g6.kept hS5.1) (g6.kept hS5.2)
  refine WL_nil ⟨hS6, ?_⟩
  refine WD_one (c := 15) (by kernel_rfl) rfl ?_
  refine WL_parts [(v3, two (low x.1.n1)), (v4, two (low x.1.n2)), (v5, two (low x.1.n3)), (v6, wire x.1.host)] rfl (by simp) rfl rfl (by intro p hp; simp only [List.mem_cons, List.not_mem_nil, or_false] at hp; rcases hp with rfl | rfl | rfl | rfl; exact (((a3.reads.grow g4).grow g5).grow g6); exact ((a4.reads.grow g5).grow g6); exact (a5.reads.grow g6); exact a6.reads) ?_
  intro b5 w7 hb5 p7 g7
  have hS7 := And.intro (g7.kept hS6.1) (g7.kept hS6.2)
  refine WL_nil ⟨hS7, ?_⟩
  have hl1 := wire_le x.1.host
  have hn1 := hok.host
  have hl2 := wire_le x.1.box
  have hn2 := hok.box
  simp only [lim] at hn1 hn2
  have hflat : (([(v3, two (low x.1.n1)), (v4, two (low x.1.n2)), (v5, two (low x.1.n3)), (v6, wire x.1.host)] : List (Value × Bytes)).map (·.2)).flatten = body 9 x.1 := by simp [body]
  have hj := spec_Joined w7 _ _ p7 (by simp) (by rw [hflat]; omega) (by intro p hp; simp only [List.mem_cons, List.not_mem_nil, or_false] at hp; rcases hp with rfl | rfl | rfl | rfl <;> simp only [two_length, four_length] <;> omega)
  rw [hflat] at hj
  refine WD_one (c := 16) (by kernel_rfl) rfl ?_
  refine WL_fun rfl ((hj).mono ?_)
  rintro e w8 ⟨v8, rfl, a8, g8⟩
  refine ⟨_, rfl, ?_⟩
  have hS8 := And.intro (g8.kept hS7.1) (g8.kept hS7.2)
  refine WL_nil ⟨hS8, ?_⟩
  refine WT 17 ?_
  refine WD_done (by kernel_rfl) ?_
  refine GO ?_
  exact ret1 (v := v8) Tryd.results38 rfl ⟨v8, rfl, Acc.mono a8 ((((((G1.trans g2).trans g3).trans g4).trans g5).trans g6).trans g7).size, (((((((G1.trans g2).trans g3).trans g4).trans g5).trans g6).trans g7).trans g8)⟩
theorem host_SRV : HostC 9 := by
  intro w x hx hk
  have hok := hx.ok
  refine calls_of_WC Tryd.func64 rfl Tryd.ntmps64 rfl ?_
  refine GO ?_
  refine WL_box vv ?_
  intro b1 w0 hb1 h1 g0
  have h1 : w0.heap[b1]? = some (.cells (recCells x).toArray 70 (0, 0)) := h1
  refine GO ?_
  rw [hk]
  refine RUN ?_
  refine WL_fun rfl ((spec_NameOk w0 _ hok.host).mono ?_)
  rintro e w2 ⟨rfl, rfl⟩
  refine ⟨_, rfl, ?_⟩
  refine RUN ?_
  exact ret1 (v := .bool (nameOk x.1.host)) Tryd.results64 rfl ⟨rfl, g0⟩
theorem bok_SRV : BodyOkC 9 := fun w x hx hk => spec_BodyOk body_SRV host_SRV (by decide) w x hx hk (fun h => by have h1 : nameOk x.1.host = true := h; have h2 := (wire_length h1).1; have h3 := nameOk_len h1; have h4 : body 9 x.1 = two (low x.1.n1) ++ two (low x.1.n2) ++ two (low x.1.n3) ++ wire x.1.host := rfl; rw [h4]; simp only [List.length_append, two_length]; omega)
theorem kc_SRV : KC 33 kSRV (fun _ => 700) 9 := ⟨build_SRV, CanCall.c (P := Tryd.prog), okSRV, body_SRV, bok_SRV, by decide, fun _ _ => by decide, by decide⟩
end Go.Proofs.YthdjgcegpkjhmaaDoor
