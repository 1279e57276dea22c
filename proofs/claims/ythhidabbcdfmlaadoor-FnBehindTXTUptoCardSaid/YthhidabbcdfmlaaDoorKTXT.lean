/- TXT records: the body and its conversion. -/
import Derived.Test.YthhidabbcdfmlaaDoorRTXT
import Derived.Test.YthhidabbcdfmlaaDoorPackB
import Derived.Test.YthhidabbcdfmlaaDoorAppS
import Derived.Test.YthhidabbcdfmlaaDoorG4
import Derived.Test.YthhidabbcdfmlaaDoorG8
import Derived.Test.YthhidabbcdfmlaaDoorBodyTXT
set_option linter.unusedVariables false
set_option linter.unusedSimpArgs false
namespace Go.Proofs.YthhidabbcdfmlaaDoor
open Go.RowKit
set_option maxHeartbeats 2000000
set_option maxRecDepth 100000

/-- a row of the call's own, of another type than bytes, behind a packing -/
theorem own_pk {w w1 : World} {mv cv mv1 : Value} {msg msg1 : Bytes} {c1 c : Option CMap} (h : Pk w mv cv msg w1 mv1 msg1 c1) (hc : CompAt w cv c) {e size n : Nat} {v : Value} {xs : List Value} (ho : w.ownsRow 0 e size v n xs) (he : e ≠ 5) : w1.ownsRow 0 e size v n xs := by
  refine ⟨ho.1, ?_⟩
  rcases ho.2 with h0 | ⟨g, cap, cur, rfl, hb, hg, hr⟩
  · exact .inl h0
  · exact .inr ⟨g, cap, cur, rfl, hb, h.kept hc hg he, hr⟩
theorem own_away {B : Nat} {w w' : World} {e size n : Nat} {v : Value} {xs : List Value} (h : Acc B w e size v n xs) {S : Nat → Prop} (hc : Chg S w w') (hS : ∀ k, S k → k < B) : w'.ownsRow 0 e size v n xs :=
  (Acc.bkept h fun j o hj hb => hc.kept hj fun hs => by have := h.base j hb; have := hS j hs; omega).own
theorem txt_wrap (n : Nat) : (IntKind.u8.wrap (n : Int)) = ((UInt8.ofNat n).toNat : Int) := u8_wrap n
theorem dns_packText (w0 w : World) (mv0 cv mv : Value) (msg0 msg s : Bytes) (c : Option CMap) (P : Pk w0 mv0 cv msg0 w mv msg c) (hp : msg0 <+: msg) (hlen : msg.length + 1 + s.length ≤ 200000000000000) (hs : s.length ≤ 140737488355328) (hE : Errs w) :
    Calls Tryd.prog 80 #[mv, strOf s] w fun e w' => if s.length ≤ 255 then ∃ mv', e = .returned (.tuple #[mv', .nilIface]) ∧ Pk w0 mv0 cv msg0 w' mv' (msg ++ textB s) c else (∃ tv p, e = .returned (.tuple #[.slice none 0 0, .iface tv p]) ∧ IsErr w' (.iface tv p)) ∧ Pk w0 mv0 cv msg0 w' mv msg c := by
  refine calls_of_WC Tryd.func80 rfl Tryd.ntmps80 rfl ?_
  refine GO ?_
  first | refine WC_sif vv (fun hc => ?_) (fun hc => ?_) | refine WC_if vv (fun hc => ?_) (fun hc => ?_)
  · have h255 : ¬ s.length ≤ 255 := by have : (255 : Int) < (s.length : Int) := (by simpa using hc); omega
    obtain ⟨tv, p, fr', hG, hI⟩ := hE 11 (by decide)
    refine GO ?_
    refine WC_seq (WC_draws (fun w' => w'.heap[11]? = some (.cells #[.iface tv p] 66 fr')) (by kernel_rfl) (fun w1 g => g.kept hG) ?_)
    intro w1 g1 hS
    refine WT 0 ?_
    refine WT 1 ?_
    refine WT 2 ?_
    refine WD_done (by kernel_rfl) ?_
    refine GO ?_
    refine ret2 (v1 := .slice none 0 0) (v2 := .iface tv p) Tryd.results80 rfl rfl ?_
    rw [if_neg h255]
    exact ⟨⟨_, _, rfl, hI.grow g1⟩, P.grow g1⟩
  have h255 : s.length ≤ 255 := by have : ¬ (255 : Int) < (s.length : Int) := (by simpa using hc); omega
  refine GO ?_
  refine WL_conv (c := ((UInt8.ofNat s.length).toNat : Int)) vv (u8_wrap _) ?_
  refine WL_slice (vs := [.int .u8 ((UInt8.ofNat s.length).toNat : Int)]) rfl (by simp) rfl (by simp [Value.cells]) rfl ?_
  intro b5 w4 hb5 h5 g4
  have P4 := P.grow g4
  refine WL_appendB vv P4.own vv (bytes_cells (n := 1) (bs := [UInt8.ofNat s.length]) h5 rfl rfl) (by simp only [List.length_singleton]; omega) (by simp) ?_
  intro v5 w5 g5
  have P5 := P4.grew g5 hp
  refine GO ?_
  refine WL_appendS vv P5.own vv (by simp only [List.length_append, List.length_singleton]; omega) (by omega) ?_
  intro v6 w6 g6
  have P6 := P5.grew g6 (hp.trans (List.prefix_append _ _))
  refine GO ?_
  refine ret2 (v1 := v6) (v2 := .nilIface) Tryd.results80 rfl rfl ?_
  rw [if_pos h255]
  refine ⟨_, rfl, ?_⟩
  rw [List.append_assoc] at P6
  exact P6
theorem real_TXT (dv : Value) (w : World) (g : Nat) : Calls Tryd.prog 57 #[.pointer (some ⟨g, 0, none⟩)] w fun e w' => e = .returned (.int .u16 ((16 : Nat) : Int)) ∧ w = w' := by
  refine calls_of_WC Tryd.func57 rfl Tryd.ntmps57 rfl ?_
  refine GO ?_
  exact ret1 (v := .int .u16 16) Tryd.results57 rfl ⟨rfl, rfl⟩
theorem pack_TXT (dv : Value) (ts : List Bytes) (hs : ∀ s ∈ ts, s.length ≤ 140737488355328) (hn : ts.length ≤ 16777216) : BodyP 58 80 [dv] (fun _ c => if (ts.all fun s => decide (s.length ≤ 255)) = true then .ok (ts.flatMap textB) c else .bad c) (ts.flatMap textB).length (fun w => w.ownsRow 0 9 1 dv ts.length (ts.map strOf)) := by
  intro w g mv cv msg st c hg hst hown hcomp hck hlen hE hI
  obtain ⟨ao, cap, rfl⟩ := ReadsAt.value (ReadsAt.of_own hI)
  refine calls_of_WC Tryd.func58 rfl Tryd.ntmps58 rfl ?_
  refine GO ?_
  refine WC_loop (fun m f w' => ∃ i mvi, m = ts.length - i ∧ i ≤ ts.length ∧ EnvHas f [(1, mvi), (10, mv), (18, .slice ao ts.length cap), (19, .int .i64 (ts.length : Int)), (20, .int .i64 (i : Int))] ∧ Pk w mv cv msg w' mvi (msg ++ (ts.take i).flatMap textB) c ∧ ((ts.take i).all fun s => decide (s.length ≤ 255)) = true) ts.length ?_ ?_
  · refine ⟨0, mv, rfl, Nat.zero_le _, ⟨rfl, rfl, rfl, rfl, rfl, trivial⟩, ?_, rfl⟩
    rw [List.take_zero, List.flatMap_nil, List.append_nil]
    exact Pk.refl hown hcomp
  rintro m f w3 ⟨i, mvi, rfl, hi, he, P, hall⟩
  obtain ⟨f, rfl⟩ := he.form
  refine GO ?_
  first | refine WC_sif vv (fun hc => ?_) (fun hc => ?_) | refine WC_if vv (fun hc => ?_) (fun hc => ?_)
  · have hlt : i < ts.length := by simpa using hc
    have hmono : ((ts.take (i + 1)).flatMap textB).length ≤ (ts.flatMap textB).length := fm_le textB _ _
    rw [fm_take textB _ i hlt, List.length_append, show (textB ts[i]).length = ts[i].length + 1 from rfl] at hmono
    obtain ⟨b, o, cap', hv, hcell⟩ := (ReadsAt.of_own (own_pk P hcomp hI (by decide))).form (by simp; omega)
    cases hv
    refine GO ?_
    refine WL_index vv vv hlt ?_
    refine WL_load_cell (v := strOf ts[i]) vv (by rw [Nat.mul_one]; exact hcell i _ (by simp [hlt])) ?_
    refine GO ?_
    refine WL_fun rfl ((dns_packText w w3 mv cv mvi msg _ ts[i] c P (List.prefix_append _ _) (by rw [List.length_append]; omega) (hs _ (by simp)) (hE.pk P hcomp)).mono ?_)
    intro e w4 hT
    by_cases h255 : ts[i].length ≤ 255
    · rw [if_pos h255] at hT
      obtain ⟨mv4, rfl, P4⟩ := hT
      refine ⟨_, rfl, ?_⟩
      refine GO ?_
      refine WL_neqNil0 vv ?_
      refine RUN ?_
      refine WL_inc vv (by omega) ?_
      refine GO ?_
      refine ⟨ts.length - (i + 1), by omega, i + 1, mv4, rfl, hlt, ⟨rfl, rfl, rfl, rfl, rfl, trivial⟩, ?_, ?_⟩
      · rw [fm_take textB _ i hlt, ← List.append_assoc]
        exact P4
      · rw [List.take_succ_eq_append_getElem hlt, List.all_append, hall]
        simp [h255]
    · rw [if_neg h255] at hT
      obtain ⟨⟨tv, p, rfl, hIE⟩, P4⟩ := hT
      refine ⟨_, rfl, ?_⟩
      refine GO ?_
      refine WL_neqNil vv ?_
      refine RUN ?_
      refine ret2 (v1 := mv) (v2 := .iface tv p) Tryd.results58 rfl rfl ?_
      have hno : ¬ (ts.all fun s => decide (s.length ≤ 255)) = true := fun ha => h255 (of_decide_eq_true (List.all_eq_true.1 ha _ (List.getElem_mem hlt)))
      unfold PackPost
      simp only [if_neg hno]
      exact ⟨_, _, _, rfl, hIE, P4.back⟩
  have hge : i = ts.length := by have := of_decide_eq_false hc; omega
  subst hge
  rw [List.take_length] at P hall
  refine GO ?_
  refine ret2 (v1 := mvi) (v2 := .nilIface) Tryd.results58 rfl rfl ?_
  unfold PackPost
  simp only [if_pos hall]
  exact ⟨_, rfl, P⟩
theorem impl_txtOf (w : World) (x : RecM × RecV) (hx : RecAt w x) : Calls Tryd.prog 27 #[.agg (recCells x).toArray] w fun e w' => ∃ dv, e = .returned (.agg [dv].toArray) ∧ Acc w.heap.size w' 9 1 dv x.1.texts.length (x.1.texts.map strOf) ∧ Grows w w' := by
  have htn := hx.ok.texts.1
  simp only [lim] at htn
  obtain ⟨aot, capt, htv⟩ := ReadsAt.value hx.texts
  refine calls_of_WC Tryd.func27 rfl Tryd.ntmps27 rfl ?_
  refine GO ?_
  refine WL_box vv ?_
  intro b1 w1 hb1 h1 g1
  have h1 : w1.heap[b1]? = some (.cells (recCells x).toArray 35 (0, 0)) := h1
  refine WL_alloc ?_
  intro b2 w2 hb2 h2 g2
  have G2 := g1.trans g2
  refine GO ?_
  refine WL_slice0 ?_
  intro b3 w3 hb3 h3 g3
  have G3 := G2.trans g3
  have h13 := (g2.trans g3).kept h1
  refine GO ?_
  have hA : Acc w2.heap.size w3 9 1 (.slice (some ⟨b3, 0, none⟩) 0 0) 0 [] := Acc.block h3 hb3 (by decide) rfl
  refine WL_append (t := 32) vv hA.own vv (ReadsAt.grow hx.texts G3) (by intro u hu; obtain ⟨s, _, rfl⟩ := List.mem_map.1 hu; rfl) ⟨by omega, by omega, by omega⟩ ?_
  intro dv w4 hgr
  have hA4 : Acc w2.heap.size w4 9 1 dv x.1.texts.length (x.1.texts.map strOf) := by have := hA.grew hgr g3.size; simpa using this
  have g4 : Grows w2 w4 := Acc.below hA hgr g3.size g3
  obtain ⟨aod, capd, rfl⟩ := ReadsAt.value hA4.reads
  refine GO ?_
  refine WL_build (vs := [(0, .slice aod x.1.texts.length capd)]) (l := [.slice aod x.1.texts.length capd]) (EvL.eq ⟨rfl, vv, trivial⟩) ⟨⟨_, rfl⟩, trivial⟩ (by kernel_rfl) ?_
  have h24 := g4.kept h2
  refine WL_storeRow (new := [.slice aod x.1.texts.length capd].toArray) vv vv h24 rfl rfl (by simp [Value.oneCell']) ?_
  intro w5 hw5 h5
  refine GO ?_
  exact retc Tryd.results27 rfl h5 Tryd.underlying80 rfl (by kernel_rfl) ⟨_, rfl, (Acc.mono hA4 G2.size).wrote_ hw5 (own_ne hA4.own h24 (by decide)), (G2.trans g4).wrote hw5 (by have := g1.size; omega)⟩
end Go.Proofs.YthhidabbcdfmlaaDoor

/- TXT records: the function that adds one, and the one that builds. -/
namespace Go.Proofs.YthhidabbcdfmlaaDoor
open Go.RowKit
set_option maxHeartbeats 2000000
set_option maxRecDepth 100000

theorem add_TXT : AddC 25 kTXT (fun r => (r.texts.flatMap textB).length) := by
  intro w b mv cv pre id bits m x hB hR hlen hE
  have hnm : (x.1.name.take 255).length ≤ 255 := by simp; omega
  have hok := hR.ok
  have hlen' : (pre ++ m.out).length + 2000 + (x.1.texts.flatMap textB).length ≤ 200000000000000 := hlen
  refine calls_of_WC Tryd.func25 rfl Tryd.ntmps25 rfl ?_
  refine GO ?_
  refine WL_box vv ?_
  intro b4 w1 hb4 h4 g1
  refine WL_box vv ?_
  intro b5 w2 hb5 h5 g2
  have h42 := g2.kept h4
  have G2 := g1.trans g2
  refine GO ?_
  refine WC_seq (WC_draws (fun w' => w'.heap[b4]? = some (.cells (rhCells (x.1.name.take 255) x.1.type x.1.cls x.1.ttl x.1.len).toArray 64 (0, 0)) ∧ w'.heap[b5]? = some (.cells (recCells x).toArray 35 (0, 0))) (by kernel_rfl) (fun w1 g => ⟨g.kept h42, g.kept h5⟩) ?_)
  intro w3 g3 hS3
  have G3 := G2.trans g3
  refine WT 0 ?_
  refine WD_take (i := 1) rfl rfl rfl rfl (by kernel_rfl) (by assumption) (fun w' hS => by exact Y_loadRow vv hS.1 (by simp [rhCells, nameList_length _ hnm])) ?_
  refine WD_take (i := 2) rfl rfl rfl rfl (by kernel_rfl) (by assumption) (fun w' hS => by exact Y_loadRow vv hS.2 rfl) ?_
  refine WD_one (c := 3) (by kernel_rfl) rfl ?_
  refine WL_fun rfl ((impl_txtOf w3 x (hR.grow G3)).mono ?_)
  rintro e w4 ⟨dv, rfl, hdv, g4⟩
  obtain ⟨aod, capd, hdvv⟩ := ReadsAt.value hdv.reads
  have hS4 := And.intro (g4.kept hS3.1) (g4.kept hS3.2)
  have G4 := G3.trans g4
  have B3 := hB.grow G3
  have B4 := hB.grow G4
  have htx := hok.texts
  simp only [lim] at htx
  refine ⟨_, rfl, WL_nil ⟨hS4, ?_⟩⟩
  refine WD_one (c := 4) (by kernel_rfl) rfl ?_
  refine WL_fun rfl ((dns_TXTResource kTXT w4 b mv cv pre id bits m B4 x.1 x.1.type (by show 16 < 65536; decide) hok.cls hok.ttl hok.len [dv] (by intro u hu; rw [List.mem_singleton.1 hu, hdvv]; rfl) (x.1.texts.flatMap textB).length (fun w => w.ownsRow 0 9 1 dv x.1.texts.length (x.1.texts.map strOf)) (fun w g _ => real_TXT dv w g) (pack_TXT dv x.1.texts (fun s hs => Nat.le_trans (htx.2 s hs) (by decide)) (by omega)) (fun pos c o c' e => by
    by_cases hall : (x.1.texts.all fun s => decide (s.length ≤ 255)) = true
    · rw [show kTXT.body x.1 pos c = .ok (x.1.texts.flatMap textB) c from if_pos hall] at e
      cases e
      exact Nat.le_refl _
    · rw [show kTXT.body x.1 pos c = .bad c from if_neg hall] at e
      cases e) (fun pos c h => by
    by_cases hall : (x.1.texts.all fun s => decide (s.length ≤ 255)) = true
    · rw [show kTXT.body x.1 pos c = .ok (x.1.texts.flatMap textB) c from if_pos hall]
      exact h
    · rw [show kTXT.body x.1 pos c = .bad c from if_neg hall]
      exact h) (fun w' hc => own_away hdv hc (foot2_lt B3.own B3.comp)) hlen' (hE.grow G4)).mono ?_)
  rintro e w5 ⟨v, rfl, hv, hto⟩
  obtain ⟨mv5, cv5, hB5, hC5, hF5⟩ := hto
  have hS5 := And.intro (hC5.kept hS4.1 (B4.at_.far hS4.1 (by decide) (by decide))) (hC5.kept hS4.2 (B4.at_.far hS4.2 (by decide) (by decide)))
  refine ⟨_, rfl, WL_nil ⟨hS5, ?_⟩⟩
  refine WD_one (c := 5) (by kernel_rfl) rfl ?_
  refine WL_assign vv (WL_nil ⟨hS5, ?_⟩)
  refine WD_done (by kernel_rfl) ?_
  refine GO ?_
  exact ret1 (v := v) Tryd.results25 rfl ⟨_, rfl, hv, BTo.of_grow G4 ⟨mv5, cv5, hB5, hC5, hF5⟩⟩
theorem build_TXT : BuildC 13 kTXT (fun r => (r.texts.flatMap textB).length) true := by
  intro w bufv buf h sv ss hbuf hbl hid hop hcode hss hrec hlen hE hK
  refine calls_of_WC Tryd.func13 rfl Tryd.ntmps13 rfl ?_
  refine GO ?_
  refine WL_box vv ?_
  intro b4 w1 hb4 h4 g1
  refine WL_alloc ?_
  intro b6 w2 hb6 h6 g2
  have G2 := g1.trans g2
  refine GO ?_
  refine WL_loadRow vv (g2.kept h4) rfl ?_
  refine GO ?_
  refine WL_fun rfl ((impl_run kTXT (fun r => (r.texts.flatMap textB).length) 25 (CanCall.c (P := Tryd.prog)) w2 bufv buf h sv ss (hbuf.grow G2) hbl hid hop hcode (hss.grow G2) (.inr add_TXT) hlen (hE.grow G2) (hK.grow G2)).mono ?_)
  rintro e w3 ⟨v, fv, dv, cs, rfl, hb⟩
  refine ⟨_, rfl, ?_⟩
  have hv := hb.val
  subst hv
  have h63 := hb.grows.kept h6
  have hz : w.heap.size ≤ b6 := by have := g1.size; omega
  refine WL_storeRow (new := #[fv, dv, .int .i64 0]) vv vv h63 rfl rfl hb.one ?_
  intro w4 hw4 h4'
  refine GO ?_
  exact retc Tryd.results13 rfl h4' Tryd.underlying52 rfl (by kernel_rfl) ⟨_, fv, dv, cs, rfl, (hb.mono G2).wrote hw4 h63 (by decide) (by decide) hz⟩
end Go.Proofs.YthhidabbcdfmlaaDoor

/- TXT records: what the reference says of them, and what the laws ask of the function that builds them. Written by gen_kind.py. -/
namespace Go.Proofs.YthhidabbcdfmlaaDoor
open Go.RowKit
set_option maxHeartbeats 2000000
set_option maxRecDepth 100000

theorem kc_TXT : KC 13 kTXT (fun r => (r.texts.flatMap textB).length) 7 := ⟨build_TXT, CanCall.c (P := Tryd.prog), okTXT, body_TXT, bok_TXT, by decide, fun r h => by have h1 : (r.texts.flatMap textB).length < 65536 := (recOk_parts h).2.2.1; omega, by decide⟩
end Go.Proofs.YthhidabbcdfmlaaDoor
