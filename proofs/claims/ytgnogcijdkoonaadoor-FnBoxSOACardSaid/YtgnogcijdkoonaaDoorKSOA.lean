/- SOA records: the body and its conversion. Written by gen_host2.py. -/
import Derived.Test.YtgnogcijdkoonaaDoorRSOA
import Derived.Test.YtgnogcijdkoonaaDoorG7
import Derived.Test.YtgnogcijdkoonaaDoorG8
import Derived.Test.YtgnogcijdkoonaaDoorG9
import Derived.Test.YtgnogcijdkoonaaDoorG1
set_option linter.unusedVariables false
set_option linter.unusedSimpArgs false
namespace Go.Proofs.YtgnogcijdkoonaaDoor
open Go.RowKit
set_option maxHeartbeats 2000000
set_option maxRecDepth 100000

theorem real_SOA (w : World) (g : Nat) : Calls Tryd.prog 93 #[.pointer (some ⟨g, 0, none⟩)] w fun e w' => e = .returned (.int .u16 ((6 : Nat) : Int)) ∧ w = w' := by
  refine calls_of_WC Tryd.func93 rfl Tryd.ntmps93 rfl ?_
  refine GO ?_
  exact ret1 (v := .int .u16 6) Tryd.results93 rfl ⟨rfl, rfl⟩
theorem after_name2 {nm bx : Bytes} (h : nm.length ≤ 255) (hb : bx.length ≤ 255) (rest : List Value) (j : Nat) : (nameList nm ++ (nameList bx ++ rest))[512 + j]? = rest[j]? := by
  rw [show 512 + j = 256 + (256 + j) by omega, after_name h, after_name hb]
def soaN (nm bx : Bytes) (n1 n2 n3 n4 n5 pos : Nat) (c : Option CMap) : PR := match packN nm pos c with
  | .bad c => .bad c
  | .ok o c => match packN bx (pos + o.length) c with
    | .bad c => .bad c
    | .ok o2 c => .ok (o ++ o2 ++ (four n1 ++ four n2 ++ four n3 ++ four n4 ++ four n5)) c
theorem pack_SOA (n1 n2 n3 n4 n5 : Nat) (hn1 : n1 < 4294967296) (hn2 : n2 < 4294967296) (hn3 : n3 < 4294967296) (hn4 : n4 < 4294967296) (hn5 : n5 < 4294967296) (nm bx : Bytes) (hnm : nm.length ≤ 255) (hbx : bx.length ≤ 255) : BodyP 94 122 (nameList nm ++ (nameList bx ++ [Value.int .u32 (n1 : Int), Value.int .u32 (n2 : Int), Value.int .u32 (n3 : Int), Value.int .u32 (n4 : Int), Value.int .u32 (n5 : Int)])) (soaN nm bx n1 n2 n3 n4 n5) 1400 (fun _ => True) := by
  intro w g mv cv msg st c hg hst hown hcomp hck hlen hE _
  have hN : NameIn (nameList nm ++ (nameList bx ++ [Value.int .u32 (n1 : Int), Value.int .u32 (n2 : Int), Value.int .u32 (n3 : Int), Value.int .u32 (n4 : Int), Value.int .u32 (n5 : Int)])).toArray 0 nm := by have := nameIn_of hnm [] (nameList bx ++ [Value.int .u32 (n1 : Int), Value.int .u32 (n2 : Int), Value.int .u32 (n3 : Int), Value.int .u32 (n4 : Int), Value.int .u32 (n5 : Int)]) 0 rfl; simpa using this
  have hN2 : NameIn (nameList nm ++ (nameList bx ++ [Value.int .u32 (n1 : Int), Value.int .u32 (n2 : Int), Value.int .u32 (n3 : Int), Value.int .u32 (n4 : Int), Value.int .u32 (n5 : Int)])).toArray 256 bx := by have := nameIn_of hbx (nameList nm) [Value.int .u32 (n1 : Int), Value.int .u32 (n2 : Int), Value.int .u32 (n3 : Int), Value.int .u32 (n4 : Int), Value.int .u32 (n5 : Int)] 256 (nameList_length nm hnm).symm; simpa using this
  refine calls_of_WC Tryd.func94 rfl Tryd.ntmps94 rfl ?_
  refine GO ?_
  refine WL_fun rfl ((dns_Name_pack w g 0 _ _ _ nm hN hg (by decide) mv cv msg st hst hown c hcomp hck (by omega) hE).mono ?_)
  intro e w1 hP
  cases hpk : packN nm (msg.length - st) c with
  | bad c' =>
    rw [hpk] at hP
    obtain ⟨v, tv, p, rfl, hI, P1⟩ := hP
    refine ⟨_, rfl, ?_⟩
    refine GO ?_
    refine WL_neqNil vv ?_
    refine RUN ?_
    refine WL_build (vs := [(0, .string ⟨#[83, 79, 65, 82, 101, 115, 111, 117, 114, 99, 101, 46, 78, 83]⟩), (1, .iface tv p)]) (l := [.string ⟨#[83, 79, 65, 82, 101, 115, 111, 117, 114, 99, 101, 46, 78, 83]⟩, .iface tv p]) (EvL.eq ⟨rfl, vv, rfl, vv, trivial⟩) ⟨⟨_, rfl⟩, ⟨_, rfl⟩, trivial⟩ (by kernel_rfl) ?_
    refine WL_box vv ?_
    intro b2 w2 hb2 h2 g2
    refine WL_y (Y_iface Tryd.underlying157 rfl vv) ?_
    refine GO ?_
    exact ret2 (v1 := mv) (v2 := .iface 157 (.pointer (some ⟨b2, 0, none⟩))) Tryd.results94 rfl rfl (packPost_bad (by simp [soaN, hpk]) _ _ _ ⟨_, .inr rfl⟩ (P1.grow g2))
  | ok out c' =>
    rw [hpk] at hP
    obtain ⟨mv1, rfl, P1⟩ := hP
    have hol := packN_length nm _ _ _ _ hpk
    have hck1 := packN_comp nm (msg.length - st) c hck
    rw [hpk] at hck1
    refine ⟨_, rfl, ?_⟩
    refine GO ?_
    refine WL_neqNil0 vv ?_
    refine RUN ?_
    have hg1 := P1.kept hcomp hg (by decide)
    have hln : (msg ++ out).length = msg.length + out.length := List.length_append
    refine WL_fun rfl ((dns_Name_pack w1 g 256 _ _ _ bx hN2 hg1 (by decide) mv1 cv _ st (by rw [hln]; omega) P1.own c' P1.comp hck1 (by rw [hln]; omega) (hE.pk P1 hcomp)).mono ?_)
    intro e w2 hP
    rw [hln, show msg.length + out.length - st = msg.length - st + out.length by omega] at hP
    cases hpk2 : packN bx (msg.length - st + out.length) c' with
    | bad c2 =>
      rw [hpk2] at hP
      obtain ⟨v, tv, p, rfl, hI, P2⟩ := hP
      have PB := (P1.trans P2 hcomp (List.prefix_append _ _)).back
      refine ⟨_, rfl, ?_⟩
      refine GO ?_
      refine WL_neqNil vv ?_
      refine RUN ?_
      refine WL_build (vs := [(0, .string ⟨#[83, 79, 65, 82, 101, 115, 111, 117, 114, 99, 101, 46, 77, 66, 111, 120]⟩), (1, .iface tv p)]) (l := [.string ⟨#[83, 79, 65, 82, 101, 115, 111, 117, 114, 99, 101, 46, 77, 66, 111, 120]⟩, .iface tv p]) (EvL.eq ⟨rfl, vv, rfl, vv, trivial⟩) ⟨⟨_, rfl⟩, ⟨_, rfl⟩, trivial⟩ (by kernel_rfl) ?_
      refine WL_box vv ?_
      intro b3 w3 hb3 h3 g3
      refine WL_y (Y_iface Tryd.underlying157 rfl vv) ?_
      refine GO ?_
      exact ret2 (v1 := mv) (v2 := .iface 157 (.pointer (some ⟨b3, 0, none⟩))) Tryd.results94 rfl rfl (packPost_bad (by simp [soaN, hpk, hpk2]) _ _ _ ⟨_, .inr rfl⟩ (PB.grow g3))
    | ok out2 c2 =>
      rw [hpk2] at hP
      obtain ⟨mv2, rfl, P2⟩ := hP
      have hol2 := packN_length bx _ _ _ _ hpk2
      have Q0 := P1.trans P2 hcomp (List.prefix_append _ _)
      have hq0 := Q0.kept hcomp hg (by decide)
      refine ⟨_, rfl, ?_⟩
      refine GO ?_
      refine WL_neqNil0 vv ?_
      refine RUN ?_
      refine WL_load (v := Value.int .u32 (n1 : Int)) vv hq0 (after_name2 hnm hbx _ 0) ?_
      refine WL_fun rfl ((dns_packUint32 w2 mv2 _ n1 hn1 Q0.own (by simp only [List.length_append, four_length]; omega)).mono ?_)
      rintro e u1 ⟨nv1, rfl, k1⟩
      refine ⟨_, rfl, ?_⟩
      have Q1 := Q0.grew k1 (by simp only [List.append_assoc]; exact List.prefix_append _ _)
      have hq1 := Q1.kept hcomp hg (by decide)
      refine GO ?_
      refine WL_load (v := Value.int .u32 (n2 : Int)) vv hq1 (after_name2 hnm hbx _ 1) ?_
      refine WL_fun rfl ((dns_packUint32 u1 nv1 _ n2 hn2 Q1.own (by simp only [List.length_append, four_length]; omega)).mono ?_)
      rintro e u2 ⟨nv2, rfl, k2⟩
      refine ⟨_, rfl, ?_⟩
      have Q2 := Q1.grew k2 (by simp only [List.append_assoc]; exact List.prefix_append _ _)
      have hq2 := Q2.kept hcomp hg (by decide)
      refine GO ?_
      refine WL_load (v := Value.int .u32 (n3 : Int)) vv hq2 (after_name2 hnm hbx _ 2) ?_
      refine WL_fun rfl ((dns_packUint32 u2 nv2 _ n3 hn3 Q2.own (by simp only [List.length_append, four_length]; omega)).mono ?_)
      rintro e u3 ⟨nv3, rfl, k3⟩
      refine ⟨_, rfl, ?_⟩
      have Q3 := Q2.grew k3 (by simp only [List.append_assoc]; exact List.prefix_append _ _)
      have hq3 := Q3.kept hcomp hg (by decide)
      refine GO ?_
      refine WL_load (v := Value.int .u32 (n4 : Int)) vv hq3 (after_name2 hnm hbx _ 3) ?_
      refine WL_fun rfl ((dns_packUint32 u3 nv3 _ n4 hn4 Q3.own (by simp only [List.length_append, four_length]; omega)).mono ?_)
      rintro e u4 ⟨nv4, rfl, k4⟩
      refine ⟨_, rfl, ?_⟩
      have Q4 := Q3.grew k4 (by simp only [List.append_assoc]; exact List.prefix_append _ _)
      have hq4 := Q4.kept hcomp hg (by decide)
      refine GO ?_
      refine WL_load (v := Value.int .u32 (n5 : Int)) vv hq4 (after_name2 hnm hbx _ 4) ?_
      refine WL_fun rfl ((dns_packUint32 u4 nv4 _ n5 hn5 Q4.own (by simp only [List.length_append, four_length]; omega)).mono ?_)
      rintro e u5 ⟨nv5, rfl, k5⟩
      refine ⟨_, rfl, ?_⟩
      have Q5 := Q4.grew k5 (by simp only [List.append_assoc]; exact List.prefix_append _ _)
      have hq5 := Q5.kept hcomp hg (by decide)
      refine GO ?_
      refine ret2 (v1 := nv5) (v2 := .nilIface) Tryd.results94 rfl rfl (packPost_ok (o := out ++ out2 ++ (four n1 ++ four n2 ++ four n3 ++ four n4 ++ four n5)) (c' := c2) (by simp [soaN, hpk, hpk2]) nv5 ?_)
      simpa only [List.append_assoc] using Q5
theorem build_SOAR (nm bx : Bytes) (h : nm.length ≤ 255) (hb : bx.length ≤ 255) (n1 n2 n3 n4 n5 : Nat) : buildL [(0, 256), (256, 256), (512, 1), (513, 1), (514, 1), (515, 1), (516, 1)] (List.replicate 256 (Value.int .u8 0) ++ (List.replicate 256 (Value.int .u8 0) ++ [Value.int .u32 0, Value.int .u32 0, Value.int .u32 0, Value.int .u32 0, Value.int .u32 0])) [(0, .agg (nameCells nm)), (1, .agg (nameCells bx)), (2, Value.int .u32 (n1 : Int)), (3, Value.int .u32 (n2 : Int)), (4, Value.int .u32 (n3 : Int)), (5, Value.int .u32 (n4 : Int)), (6, Value.int .u32 (n5 : Int))] = (nameList nm ++ (nameList bx ++ [Value.int .u32 (n1 : Int), Value.int .u32 (n2 : Int), Value.int .u32 (n3 : Int), Value.int .u32 (n4 : Int), Value.int .u32 (n5 : Int)])) := by
  have hl := nameList_length nm h
  have hl2 : (nameList nm ++ nameList bx).length = 512 := by rw [List.length_append, hl, nameList_length bx hb]
  simp only [buildL, List.getD_cons_zero, List.getD_cons_succ, Value.cells, nameCells]
  rw [over_name nm h, show over (nameList nm ++ (List.replicate 256 (Value.int .u8 0) ++ [Value.int .u32 0, Value.int .u32 0, Value.int .u32 0, Value.int .u32 0, Value.int .u32 0])) 256 (nameList bx) = nameList nm ++ (nameList bx ++ [Value.int .u32 0, Value.int .u32 0, Value.int .u32 0, Value.int .u32 0, Value.int .u32 0]) by have := over_after (nameList nm) (List.replicate 256 (Value.int .u8 0) ++ [Value.int .u32 0, Value.int .u32 0, Value.int .u32 0, Value.int .u32 0, Value.int .u32 0]) 256 0 hl (nameList bx); rw [over_name bx hb] at this; exact this, ← List.append_assoc,
    show (512 : Nat) = 512 + 0 from rfl, over_after _ _ 512 0 hl2, show (513 : Nat) = 512 + 1 from rfl, over_after _ _ 512 1 hl2, show (514 : Nat) = 512 + 2 from rfl, over_after _ _ 512 2 hl2, show (515 : Nat) = 512 + 3 from rfl, over_after _ _ 512 3 hl2, show (516 : Nat) = 512 + 4 from rfl, over_after _ _ 512 4 hl2, List.append_assoc]
  rfl
theorem impl_soaOf (w : World) (x : RecM × RecV) : Calls Tryd.prog 63 #[.agg (recCells x).toArray] w (RetV w (.agg (nameList (x.1.host.take 255) ++ (nameList (x.1.box.take 255) ++ [Value.int .u32 (x.1.n1 : Int), Value.int .u32 (x.1.n2 : Int), Value.int .u32 (x.1.n3 : Int), Value.int .u32 (x.1.n4 : Int), Value.int .u32 (x.1.n5 : Int)])).toArray)) := by
  have hnm : (x.1.host.take 255).length ≤ 255 := by simp; omega
  have hbx : (x.1.box.take 255).length ≤ 255 := by simp; omega
  refine calls_of_WC Tryd.func63 rfl Tryd.ntmps63 rfl ?_
  refine GO ?_
  refine WL_box vv ?_
  intro b0 w0 hb0 h0 g0
  refine WL_alloc ?_
  intro b1 w1 hb1 h1 g1
  refine GO ?_
  refine WC_seq (WC_draws (fun w' => w'.heap[b0]? = some (.cells (recCells x).toArray 43 (0, 0))) (by kernel_rfl) (fun w1 g => g.kept (g1.kept h0)) ?_)
  intro w2 g2 hS2
  refine WT 0 ?_
  refine WT 1 ?_
  refine WT 3 ?_
  refine WT 4 ?_
  refine WT 6 ?_
  refine WT 7 ?_
  refine WT 8 ?_
  refine WT 9 ?_
  refine WT 10 ?_
  refine WT 11 ?_
  refine WT 12 ?_
  refine WT 13 ?_
  refine WT 14 ?_
  refine WT 15 ?_
  refine WD_one (c := 2) (by kernel_rfl) rfl ?_
  refine WL_fun rfl ((impl_nameOf _ (x.1.host.take 255) (by simp) w2).mono ?_)
  rintro e w3 ⟨rfl, g3⟩
  have g3 : Grows w2 w3 := g3
  have hS3 := g3.kept hS2
  refine ⟨_, rfl, WL_nil ⟨hS3, ?_⟩⟩
  refine WD_one (c := 5) (by kernel_rfl) rfl ?_
  refine WL_fun rfl ((impl_nameOf _ (x.1.box.take 255) (by simp) w3).mono ?_)
  rintro e w4 ⟨rfl, g4⟩
  have g4 : Grows w3 w4 := g4
  have hS4 := g4.kept hS3
  refine ⟨_, rfl, WL_nil ⟨hS4, ?_⟩⟩
  refine WD_one (c := 16) (by kernel_rfl) rfl ?_
  refine WL_build (vs := [(0, .agg (nameCells (x.1.host.take 255))), (1, .agg (nameCells (x.1.box.take 255))), (2, Value.int .u32 (x.1.n1 : Int)), (3, Value.int .u32 (x.1.n2 : Int)), (4, Value.int .u32 (x.1.n3 : Int)), (5, Value.int .u32 (x.1.n4 : Int)), (6, Value.int .u32 (x.1.n5 : Int))]) (l := (nameList (x.1.host.take 255) ++ (nameList (x.1.box.take 255) ++ [Value.int .u32 (x.1.n1 : Int), Value.int .u32 (x.1.n2 : Int), Value.int .u32 (x.1.n3 : Int), Value.int .u32 (x.1.n4 : Int), Value.int .u32 (x.1.n5 : Int)]))) (EvL.eq ⟨rfl, vv, rfl, vv, rfl, vv, rfl, vv, rfl, vv, rfl, vv, rfl, vv, trivial⟩) ⟨⟨0, by simp [Value.cells, nameCells, nameList_length _ hnm]⟩, ⟨256, by simp [Value.cells, nameCells, nameList_length _ hbx]⟩, ⟨_, rfl⟩, ⟨_, rfl⟩, ⟨_, rfl⟩, ⟨_, rfl⟩, ⟨_, rfl⟩, trivial⟩ (build_SOAR _ _ hnm hbx _ _ _ _ _) ?_
  refine WL_nil ⟨hS4, ?_⟩
  refine WD_one (c := 17) (by kernel_rfl) rfl ?_
  refine WL_storeRow (new := (nameList (x.1.host.take 255) ++ (nameList (x.1.box.take 255) ++ [Value.int .u32 (x.1.n1 : Int), Value.int .u32 (x.1.n2 : Int), Value.int .u32 (x.1.n3 : Int), Value.int .u32 (x.1.n4 : Int), Value.int .u32 (x.1.n5 : Int)])).toArray) vv vv (((g2.trans g3).trans g4).kept h1) (by simp [nameList_length _ hnm, nameList_length _ hbx]) (by simp [Value.cells]) (by intro u hu; simp only [List.mem_append] at hu; rcases hu with hu | hu | hu; (exact nameList_one _ u hu); (exact nameList_one _ u hu); (simp at hu; rcases hu with rfl | rfl | rfl | rfl | rfl <;> rfl)) ?_
  intro w5 hw5 h5
  have G5 := (g0.trans (g1.trans (g2.trans (g3.trans g4)))).wrote hw5 (by have := g0.size; omega)
  refine WL_nil ⟨hw5.kept hS4 (by have := (Array.getElem?_eq_some_iff.1 h0).1; omega), ?_⟩
  refine WD_done (by kernel_rfl) ?_
  refine GO ?_
  exact retc Tryd.results63 rfl h5 Tryd.underlying122 rfl (by rw [show (nameList (x.1.host.take 255) ++ (nameList (x.1.box.take 255) ++ [Value.int .u32 (x.1.n1 : Int), Value.int .u32 (x.1.n2 : Int), Value.int .u32 (x.1.n3 : Int), Value.int .u32 (x.1.n4 : Int), Value.int .u32 (x.1.n5 : Int)])).toArray.size = 517 by simp [nameList_length _ hnm, nameList_length _ hbx]]; kernel_rfl) ⟨rfl, G5⟩
end Go.Proofs.YtgnogcijdkoonaaDoor

/- SOA records: the function that adds one, and the one that builds. Written by gen_fix.py. -/
namespace Go.Proofs.YtgnogcijdkoonaaDoor
open Go.RowKit
set_option maxHeartbeats 2000000
set_option maxRecDepth 100000

theorem soaN_length {nm bx : Bytes} {n1 n2 n3 n4 n5 pos : Nat} {c c' : Option CMap} {o : Bytes} (e : soaN nm bx n1 n2 n3 n4 n5 pos c = .ok o c') : o.length ≤ 1400 := by
  unfold soaN at e
  cases h1 : packN nm pos c with
  | bad _ => rw [h1] at e; cases e
  | ok o1 c1 =>
    rw [h1] at e
    simp only at e
    cases h2 : packN bx (pos + o1.length) c1 with
    | bad _ => rw [h2] at e; cases e
    | ok o2 c2 =>
      rw [h2] at e
      cases e
      have := packN_length _ _ _ _ _ h1
      have := packN_length _ _ _ _ _ h2
      simp only [List.length_append, four_length]
      omega
theorem soaN_comp {nm bx : Bytes} {n1 n2 n3 n4 n5 pos : Nat} {c : Option CMap} (h : CompOk c) : CompOk (soaN nm bx n1 n2 n3 n4 n5 pos c).comp := by
  unfold soaN
  have h1 := packN_comp nm pos c h
  cases e1 : packN nm pos c with
  | bad _ => rw [e1] at h1; exact h1
  | ok o1 c1 =>
    rw [e1] at h1
    have h2 := packN_comp bx (pos + o1.length) c1 h1
    simp only
    cases e2 : packN bx (pos + o1.length) c1 with
    | bad _ => rw [e2] at h2; exact h2
    | ok o2 c2 => rw [e2] at h2; exact h2
theorem add_SOA : AddC 61 kSOA (fun _ => 1400) := by
  intro w b mv cv pre id bits m x hB hR hlen hE
  have hnm : (x.1.name.take 255).length ≤ 255 := by simp; omega
  have hok := hR.ok
  have hhm : (x.1.host.take 255).length ≤ 255 := by simp; omega
  have hxm : (x.1.box.take 255).length ≤ 255 := by simp; omega
  have hlen' : (pre ++ m.out).length + 2000 + 1400 ≤ 200000000000000 := hlen
  refine calls_of_WC Tryd.func61 rfl Tryd.ntmps61 rfl ?_
  refine GO ?_
  refine WL_box vv ?_
  intro b4 w1 hb4 h4 g1
  refine WL_box vv ?_
  intro b5 w2 hb5 h5 g2
  have h42 := g2.kept h4
  have G2 := g1.trans g2
  refine GO ?_
  refine WC_seq (WC_draws (fun w' => w'.heap[b4]? = some (.cells (rhCells (x.1.name.take 255) x.1.type x.1.cls x.1.ttl x.1.len).toArray 109 (0, 0)) ∧ w'.heap[b5]? = some (.cells (recCells x).toArray 43 (0, 0))) (by kernel_rfl) (fun w1 g => ⟨g.kept h42, g.kept h5⟩) ?_)
  intro w3 g3 hS3
  have G3 := G2.trans g3
  refine WT 0 ?_
  refine WD_take (i := 1) rfl rfl rfl rfl (by kernel_rfl) (by assumption) (fun w' hS => by exact Y_loadRow vv hS.1 (by simp [rhCells, nameList_length _ hnm])) ?_
  refine WD_take (i := 2) rfl rfl rfl rfl (by kernel_rfl) (by assumption) (fun w' hS => by exact Y_loadRow vv hS.2 rfl) ?_
  refine WD_one (c := 3) (by kernel_rfl) rfl ?_
  refine WL_fun rfl ((impl_soaOf w3 x).mono ?_)
  rintro e w4 ⟨rfl, g4⟩
  have g4 : Grows w3 w4 := g4
  have hS4 := And.intro (g4.kept hS3.1) (g4.kept hS3.2)
  have G4 := G3.trans g4
  have B3 := hB.grow G3
  have B4 := hB.grow G4
  refine ⟨_, rfl, WL_nil ⟨hS4, ?_⟩⟩
  refine WD_one (c := 4) (by kernel_rfl) rfl ?_
  refine WL_fun rfl ((dns_SOAResource kSOA w4 b mv cv pre id bits m B4 x.1 x.1.type (by simp [kSOA]) hok.cls hok.ttl hok.len (nameList (x.1.host.take 255) ++ (nameList (x.1.box.take 255) ++ [Value.int .u32 (x.1.n1 : Int), Value.int .u32 (x.1.n2 : Int), Value.int .u32 (x.1.n3 : Int), Value.int .u32 (x.1.n4 : Int), Value.int .u32 (x.1.n5 : Int)])) (by intro u hu; simp only [List.mem_append] at hu; rcases hu with hu | hu | hu; (exact nameList_one _ u hu); (exact nameList_one _ u hu); (simp at hu; rcases hu with rfl | rfl | rfl | rfl | rfl <;> rfl)) 1400 (fun _ => True) (fun w g _ => real_SOA w g) (pack_SOA x.1.n1 x.1.n2 x.1.n3 x.1.n4 x.1.n5 hok.n1 hok.n2 hok.n3 hok.n4 hok.n5 _ _ hhm hxm) (fun pos c o c' e => soaN_length e) (fun pos c h => soaN_comp h) (fun _ _ => trivial) hlen' (hE.grow G4)).mono ?_)
  rintro e w5 ⟨v, rfl, hv, hto⟩
  obtain ⟨mv5, cv5, hB5, hC5, hF5⟩ := hto
  have hS5 := And.intro (hC5.kept hS4.1 (B4.at_.far hS4.1 (by decide) (by decide))) (hC5.kept hS4.2 (B4.at_.far hS4.2 (by decide) (by decide)))
  refine ⟨_, rfl, WL_nil ⟨hS5, ?_⟩⟩
  refine WD_one (c := 5) (by kernel_rfl) rfl ?_
  refine WL_assign vv (WL_nil ⟨hS5, ?_⟩)
  refine WD_done (by kernel_rfl) ?_
  refine GO ?_
  exact ret1 (v := v) Tryd.results61 rfl ⟨_, rfl, hv, BTo.of_grow G4 ⟨mv5, cv5, hB5, hC5, hF5⟩⟩
theorem build_SOA : BuildC 34 kSOA (fun _ => 1400) true := by
  intro w bufv buf h sv ss hbuf hbl hid hop hcode hss hrec hlen hE hK
  refine calls_of_WC Tryd.func34 rfl Tryd.ntmps34 rfl ?_
  refine GO ?_
  refine WL_box vv ?_
  intro b4 w1 hb4 h4 g1
  refine WL_alloc ?_
  intro b6 w2 hb6 h6 g2
  have G2 := g1.trans g2
  refine GO ?_
  refine WL_loadRow vv (g2.kept h4) rfl ?_
  refine GO ?_
  refine WL_fun rfl ((impl_run kSOA (fun _ => 1400) 61 (CanCall.c (P := Tryd.prog)) w2 bufv buf h sv ss (hbuf.grow G2) hbl hid hop hcode (hss.grow G2) (.inr add_SOA) hlen (hE.grow G2) (hK.grow G2)).mono ?_)
  rintro e w3 ⟨v, fv, dv, cs, rfl, hb⟩
  refine ⟨_, rfl, ?_⟩
  have hv := hb.val
  subst hv
  have h63 := hb.grows.kept h6
  have hz : w.heap.size ≤ b6 := by have := g1.size; omega
  refine WL_storeRow (new := #[fv, dv, .int .i64 0]) vv vv h63 rfl rfl hb.one ?_
  intro w4 hw4 h4'
  refine GO ?_
  exact retc Tryd.results34 rfl h4' Tryd.underlying35 rfl (by kernel_rfl) ⟨_, fv, dv, cs, rfl, (hb.mono G2).wrote hw4 h63 (by decide) (by decide) hz⟩
end Go.Proofs.YtgnogcijdkoonaaDoor

/- SOA records: what the reference says of them, and what the laws ask of the function that builds them. Written by gen_kind.py. -/
namespace Go.Proofs.YtgnogcijdkoonaaDoor
open Go.RowKit
set_option maxHeartbeats 2000000
set_option maxRecDepth 100000

theorem body_SOA : BodyC 4 := by
  intro w x hx hk hb
  have hok := hx.ok
  refine calls_of_WC Tryd.func52 rfl Tryd.ntmps52 rfl ?_
  refine GO ?_
  refine WL_box vv ?_
  intro b1 w0 hb1 h1 g0
  have h1 : w0.heap[b1]? = some (.cells (recCells x).toArray 97 (0, 0)) := h1
  refine GO ?_
  refine WL_conv (c := low x.1.n1) vv (by rw [wrap16]; simp only [low]; omega) ?_
  refine GO ?_
  refine WL_conv (c := low x.1.n2) vv (by rw [wrap16]; simp only [low]; omega) ?_
  refine GO ?_
  refine WL_conv (c := low x.1.n3) vv (by rw [wrap16]; simp only [low]; omega) ?_
  refine WL_slice (vs := [.int .u16 (low x.1.n1), .int .u16 (low x.1.n2), .int .u16 (low x.1.n3)]) (EvL.eq ⟨rfl, vv, rfl, vv, rfl, vv, trivial⟩) (by simp) rfl (by simp [Value.cells]) rfl ?_
  intro b16 w1 hb16 h16 g1
  have h11 := g1.kept h1
  have G1 := g0.trans g1
  refine GO ?_
  rw [hk]
  refine RUN ?_
  refine WC_seq (WC_draws (fun w' => w'.heap[b1]? = some (.cells (recCells x).toArray 97 (0, 0))) (by kernel_rfl) (fun w1 g => g.kept h11) ?_)
  intro w2 g2 hS2
  refine WT 0 ?_
  refine WT 1 ?_
  refine WT 3 ?_
  refine WT 4 ?_
  refine WT 6 ?_
  refine WT 7 ?_
  refine WT 9 ?_
  refine WT 10 ?_
  refine WT 12 ?_
  refine WT 13 ?_
  refine WT 15 ?_
  refine WT 16 ?_
  refine WT 18 ?_
  refine WT 19 ?_
  refine WD_one (c := 2) (by kernel_rfl) rfl ?_
  refine WL_fun rfl ((spec_Wire w2 _ hok.host).mono ?_)
  rintro e w3 ⟨v3, rfl, a3, g3⟩
  refine ⟨_, rfl, ?_⟩
  have hS3 := g3.kept hS2
  refine WL_nil ⟨hS3, ?_⟩
  refine WD_one (c := 5) (by kernel_rfl) rfl ?_
  refine WL_fun rfl ((spec_Wire w3 _ hok.box).mono ?_)
  rintro e w4 ⟨v4, rfl, a4, g4⟩
  refine ⟨_, rfl, ?_⟩
  have hS4 := g4.kept hS3
  refine WL_nil ⟨hS4, ?_⟩
  refine WD_one (c := 8) (by kernel_rfl) rfl ?_
  refine WL_fun rfl ((spec_Four w4 (x.1.n1 : Int) (by omega) (by have := hok.n1; omega)).mono ?_)
  rintro e w5 ⟨v5, rfl, a5, g5⟩
  refine ⟨_, rfl, ?_⟩
  have hS5 := g5.kept hS4
  refine WL_nil ⟨hS5, ?_⟩
  refine WD_one (c := 11) (by kernel_rfl) rfl ?_
  refine WL_fun rfl ((spec_Four w5 (x.1.n2 : Int) (by omega) (by have := hok.n2; omega)).mono ?_)
  rintro e w6 ⟨v6, rfl, a6, g6⟩
  refine ⟨_, rfl, ?_⟩
  have hS6 := g6.kept hS5
  refine WL_nil ⟨hS6, ?_⟩
  refine WD_one (c := 14) (by kernel_rfl) rfl ?_
  refine WL_fun rfl ((spec_Four w6 (x.1.n3 : Int) (by omega) (by have := hok.n3; omega)).mono ?_)
  rintro e w7 ⟨v7, rfl, a7, g7⟩
  refine ⟨_, rfl, ?_⟩
  have hS7 := g7.kept hS6
  refine WL_nil ⟨hS7, ?_⟩
  refine WD_one (c := 17) (by kernel_rfl) rfl ?_
  refine WL_fun rfl ((spec_Four w7 (x.1.n4 : Int) (by omega) (by have := hok.n4; omega)).mono ?_)
  rintro e w8 ⟨v8, rfl, a8, g8⟩
  refine ⟨_, rfl, ?_⟩
  have hS8 := g8.kept hS7
  refine WL_nil ⟨hS8, ?_⟩
  refine WD_one (c := 20) (by kernel_rfl) rfl ?_
  refine WL_fun rfl ((spec_Four w8 (x.1.n5 : Int) (by omega) (by have := hok.n5; omega)).mono ?_)
  rintro e w9 ⟨v9, rfl, a9, g9⟩
  refine ⟨_, rfl, ?_⟩
  have hS9 := g9.kept hS8
  refine WL_nil ⟨hS9, ?_⟩
  refine WD_one (c := 21) (by kernel_rfl) rfl ?_
  refine WL_parts [(v3, wire x.1.host), (v4, wire x.1.box), (v5, four (x.1.n1 : Int)), (v6, four (x.1.n2 : Int)), (v7, four (x.1.n3 : Int)), (v8, four (x.1.n4 : Int)), (v9, four (x.1.n5 : Int))] rfl (by simp) rfl rfl (by intro p hp; simp only [List.mem_cons, List.not_mem_nil, or_false] at hp; rcases hp with rfl | rfl | rfl | rfl | rfl | rfl | rfl; exact ((((((a3.reads.grow g4).grow g5).grow g6).grow g7).grow g8).grow g9); exact (((((a4.reads.grow g5).grow g6).grow g7).grow g8).grow g9); exact ((((a5.reads.grow g6).grow g7).grow g8).grow g9); exact (((a6.reads.grow g7).grow g8).grow g9); exact ((a7.reads.grow g8).grow g9); exact (a8.reads.grow g9); exact a9.reads) ?_
  intro b5 w10 hb5 p10 g10
  have hS10 := g10.kept hS9
  refine WL_nil ⟨hS10, ?_⟩
  have hl1 := wire_le x.1.host
  have hn1 := hok.host
  have hl2 := wire_le x.1.box
  have hn2 := hok.box
  simp only [lim] at hn1 hn2
  have hflat : (([(v3, wire x.1.host), (v4, wire x.1.box), (v5, four (x.1.n1 : Int)), (v6, four (x.1.n2 : Int)), (v7, four (x.1.n3 : Int)), (v8, four (x.1.n4 : Int)), (v9, four (x.1.n5 : Int))] : List (Value × Bytes)).map (·.2)).flatten = body 4 x.1 := by simp [body]
  have hj := spec_Joined w10 _ _ p10 (by simp) (by rw [hflat]; omega) (by intro p hp; simp only [List.mem_cons, List.not_mem_nil, or_false] at hp; rcases hp with rfl | rfl | rfl | rfl | rfl | rfl | rfl <;> simp only [two_length, four_length] <;> omega)
  rw [hflat] at hj
  refine WD_one (c := 22) (by kernel_rfl) rfl ?_
  refine WL_fun rfl ((hj).mono ?_)
  rintro e w11 ⟨v11, rfl, a11, g11⟩
  refine ⟨_, rfl, ?_⟩
  have hS11 := g11.kept hS10
  refine WL_nil ⟨hS11, ?_⟩
  refine WT 23 ?_
  refine WD_done (by kernel_rfl) ?_
  refine GO ?_
  exact ret1 (v := v11) Tryd.results52 rfl ⟨v11, rfl, Acc.mono a11 (((((((((G1.trans g2).trans g3).trans g4).trans g5).trans g6).trans g7).trans g8).trans g9).trans g10).size, ((((((((((G1.trans g2).trans g3).trans g4).trans g5).trans g6).trans g7).trans g8).trans g9).trans g10).trans g11)⟩
theorem host_SOA : HostC 4 := by
  intro w x hx hk
  have hok := hx.ok
  refine calls_of_WC Tryd.func81 rfl Tryd.ntmps81 rfl ?_
  refine GO ?_
  refine WL_box vv ?_
  intro b1 w0 hb1 h1 g0
  have h1 : w0.heap[b1]? = some (.cells (recCells x).toArray 97 (0, 0)) := h1
  refine GO ?_
  rw [hk]
  refine RUN ?_
  refine WL_fun rfl ((spec_NameOk w0 _ hok.host).mono ?_)
  rintro e w2 ⟨rfl, rfl⟩
  refine ⟨_, rfl, ?_⟩
  have hval : hostOk 4 x.1 = (nameOk x.1.host && nameOk x.1.box) := rfl
  rw [hval]
  refine GO ?_
  cases hh : nameOk x.1.host
  · first | refine WL_unwanted (c := true) rfl vv rfl ?_ | refine WL_unwanted (c := false) rfl vv rfl ?_
    first | refine WL_unwanted (c := true) rfl vv rfl ?_ | refine WL_unwanted (c := false) rfl vv rfl ?_
    first | refine WL_unwanted (c := true) rfl vv rfl ?_ | refine WL_unwanted (c := false) rfl vv rfl ?_
    refine WL_y (Y_pick vv vv vv) ?_
    refine GO ?_
    exact ret1 (v := .bool false) Tryd.results81 rfl ⟨rfl, g0⟩
  · refine WL_wanted rfl vv ?_
    refine GO ?_
    refine WL_wanted rfl vv ?_
    refine GO ?_
    refine WL_wanted rfl vv ?_
    refine WL_fun rfl ((spec_NameOk w0 _ hok.box).mono ?_)
    rintro e w3 ⟨rfl, rfl⟩
    refine ⟨_, rfl, ?_⟩
    refine GO ?_
    refine WL_y (Y_pick vv vv vv) ?_
    refine GO ?_
    exact ret1 (v := .bool (nameOk x.1.box)) Tryd.results81 rfl ⟨rfl, g0⟩
theorem bok_SOA : BodyOkC 4 := fun w x hx hk => spec_BodyOk body_SOA host_SOA (by decide) w x hx hk (fun h => by have h0 : (nameOk x.1.host && nameOk x.1.box) = true := h; have h1 := (Bool.and_eq_true_iff.1 h0).1; have h1b := (Bool.and_eq_true_iff.1 h0).2; have h2 := (wire_length h1).1; have h3 := nameOk_len h1; have h2b := (wire_length h1b).1; have h3b := nameOk_len h1b; have h4 : body 4 x.1 = wire x.1.host ++ wire x.1.box ++ four x.1.n1 ++ four x.1.n2 ++ four x.1.n3 ++ four x.1.n4 ++ four x.1.n5 := rfl; rw [h4]; simp only [List.length_append, four_length]; omega)
theorem kc_SOA : KC 34 kSOA (fun _ => 1400) 4 := ⟨build_SOA, CanCall.c (P := Tryd.prog), okSOA, body_SOA, bok_SOA, by decide, fun _ _ => by decide, by decide⟩
end Go.Proofs.YtgnogcijdkoonaaDoor
