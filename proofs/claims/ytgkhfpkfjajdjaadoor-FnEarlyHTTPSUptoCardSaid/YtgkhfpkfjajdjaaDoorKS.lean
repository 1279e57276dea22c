/- SVCB and HTTPS records: the body and its conversion. -/
import Derived.Test.YtgkhfpkfjajdjaaDoorRSVCB
import Derived.Test.YtgkhfpkfjajdjaaDoorPrs
import Derived.Test.YtgkhfpkfjajdjaaDoorKindsV
set_option linter.unusedVariables false
set_option linter.unusedSimpArgs false
namespace Go.Proofs.YtgkhfpkfjajdjaaDoor
open Go.RowKit
set_option maxHeartbeats 4000000
set_option maxRecDepth 100000

def svCells (n1 : Int) (nm : Bytes) (pv : Value) : List Value := [.int .u16 n1] ++ nameList nm ++ [pv]
theorem svCells_length (n1 : Int) (nm : Bytes) (pv : Value) (h : nm.length ≤ 255) : (svCells n1 nm pv).length = 258 := by simp [svCells, nameList_length nm h]
theorem sv_last (n1 : Int) (nm : Bytes) (pv : Value) (h : nm.length ≤ 255) : (svCells n1 nm pv).toArray.toList[0 + 257]? = some pv := by
  simp only [svCells]
  rw [List.getElem?_append_right (by simp [nameList_length nm h])]
  simp [nameList_length nm h]
theorem IsErr.nested {w : World} (a : Addr) : IsErr w (.iface 148 (.pointer (some a))) := ⟨a, .inr rfl⟩
theorem real_SVCB (w : World) (g : Nat) : Calls Tryd.prog 69 #[.pointer (some ⟨g, 0, none⟩)] w fun e w' => e = .returned (.int .u16 ((64 : Nat) : Int)) ∧ w = w' := by
  refine calls_of_WC Tryd.func69 rfl Tryd.ntmps69 rfl ?_
  refine GO ?_
  exact ret1 (v := .int .u16 64) Tryd.results69 rfl ⟨rfl, rfl⟩
/-- packed without a map: the map that lies there is left alone -/
theorem Pk.nomapV {w w' : World} {mv cv mv' : Value} {msg msg' : Bytes} {c1 c : Option CMap} (h : Pk w mv (.map none) msg w' mv' msg' c1) (hc : CompAt w cv c) : Pk w mv cv msg w' mv' msg' c := by
  refine ⟨h.was, h.own, h.old, hc.kept fun r hr => h.chg.block r (hc.lt hr) ?_, h.chg.mono ?_, h.at_⟩
  · rintro (e | e)
    · exact hc.apart h.was r hr e
    · cases e
  · rintro k _ (e | e)
    · exact .inl e
    · cases e
theorem pack_SVCB (r : RecM) (pv : Value) (l : List (PairM × Value)) (hlp : l.map (·.1) = r.pairs) (hd : ∀ x ∈ l, x.1.key < 65536 ∧ x.1.data.length ≤ 140737488355328) (hn : l.length ≤ 16777216) : BodyP2 79 82 (svCells (low r.n1) (r.host.take 255) pv) (svcbBodyV r) (700 + (pairsB r.pairs).length) (PairsIn 156 pv l) := by
  intro w g mv cv msg st c hg hst hown hcomp hck hlen hE hI
  have hnm : (r.host.take 255).length ≤ 255 := by simp; omega
  obtain ⟨ao, cap, rfl⟩ := ReadsAt.value (ReadsAt.of_own hI.1)
  have hll : (l.map (·.1)).length = l.length := by simp
  obtain ⟨nm, hnme⟩ : ∃ nm, nm = r.host.take 255 := ⟨_, rfl⟩
  obtain ⟨n1, hn1e⟩ : ∃ n1, n1 = low r.n1 := ⟨_, rfl⟩
  have hn1 := low_rng r.n1
  have hbody : ∀ pos, svcbBodyV r pos c = (match packN nm 0 none with
      | .bad _ => .bad c
      | .ok o _ => if (svcbOrd r.pairs && r.pairs.all fun p => decide (p.data.length ≤ 65535)) = true then .ok (two n1 ++ o ++ pairsB r.pairs) c else .bad c) := by
    intro pos
    unfold svcbBodyV packW
    rw [← hnme, ← hn1e, packN_place nm (pos + 2) 0]
    cases packN nm 0 none <;> rfl
  rw [← hnme] at hnm
  rw [← hn1e] at hn1
  rw [← hnme, ← hn1e] at hg
  rw [hbody]
  clear hbody
  have hN : NameIn (svCells n1 nm (.slice ao l.length cap)).toArray 1 nm := nameIn_of hnm [Value.int .u16 n1] [.slice ao l.length cap] 1 rfl
  refine calls_of_WC Tryd.func79 rfl Tryd.ntmps79 rfl ?_
  refine GO ?_
  refine WL_fun rfl ((dns_packUint16 w mv _ n1 hn1.1 hn1.2 hown (by omega)).mono ?_)
  rintro e w1 ⟨mv1, rfl, g1⟩
  refine ⟨_, rfl, ?_⟩
  have P1 := (Pk.refl hown hcomp).grew g1 (List.prefix_refl _)
  have hg1 := P1.kept hcomp hg (by decide)
  have hln : (msg ++ two n1).length = msg.length + 2 := by simp only [List.length_append, two_length]
  refine GO ?_
  refine WL_fun rfl ((dns_Name_pack w1 g 1 _ _ _ nm hN hg1 (by decide) mv1 (.map none) _ 0 (Nat.zero_le _) P1.own none rfl CompOk.none (by rw [hln]; omega) (hE.pk P1 hcomp)).mono ?_)
  intro e wn hP
  rw [packN_place nm _ 0] at hP
  cases hpk : packN nm 0 none with
  | bad c' =>
    rw [hpk] at hP
    obtain ⟨v, tv, p, rfl, hIE, P2⟩ := hP
    have PB := (P1.trans (P2.nomapV P1.comp) hcomp (List.prefix_append _ _)).back
    refine ⟨_, rfl, ?_⟩
    refine GO ?_
    refine WL_neqNil vv ?_
    refine RUN ?_
    refine WL_build (vs := [(0, .string ⟨#[83, 86, 67, 66, 82, 101, 115, 111, 117, 114, 99, 101, 46, 84, 97, 114, 103, 101, 116]⟩), (1, .iface tv p)]) (l := [.string ⟨#[83, 86, 67, 66, 82, 101, 115, 111, 117, 114, 99, 101, 46, 84, 97, 114, 103, 101, 116]⟩, .iface tv p]) (EvL.eq ⟨rfl, vv, rfl, vv, trivial⟩) ⟨⟨_, rfl⟩, ⟨_, rfl⟩, trivial⟩ (by kernel_rfl) ?_
    refine WL_box vv ?_
    intro b2 w2 hb2 h2 g2
    refine WL_y (Y_iface Tryd.underlying148 rfl vv) ?_
    refine GO ?_
    exact ret2 (v1 := mv) (v2 := .iface 148 (.pointer (some ⟨b2, 0, none⟩))) Tryd.results79 rfl rfl ⟨_, _, _, rfl, ⟨_, .inr rfl⟩, PB.grow g2⟩
  | ok out c' =>
    rw [hpk] at hP
    obtain ⟨mv2, rfl, P2⟩ := hP
    have hol := packN_length nm _ _ _ _ hpk
    have PA := P1.trans (P2.nomapV P1.comp) hcomp (List.prefix_append _ _)
    have hgA := PA.kept hcomp hg (by decide)
    have hbad : ¬ (svcbOrd r.pairs && r.pairs.all fun p => decide (p.data.length ≤ 65535)) = true → ∀ {w' : World} (v : Value), IsErr w' v → (∃ tv p, v = .iface tv p) → Pk w mv cv msg w' mv msg c → PackPost w mv cv msg (if (svcbOrd r.pairs && r.pairs.all fun p => decide (p.data.length ≤ 65535)) = true then .ok (two n1 ++ out ++ pairsB r.pairs) c else .bad c) (.returned (.tuple #[mv, v])) w' := by
      rintro hno w' v hv ⟨tv, p, rfl⟩ hp
      rw [if_neg hno]
      exact ⟨_, _, _, rfl, hv, hp⟩
    refine ⟨_, rfl, ?_⟩
    refine GO ?_
    refine WL_neqNil0 vv ?_
    refine RUN ?_
    refine WL_load (v := .slice ao l.length cap) vv hgA (sv_last n1 nm _ hnm) ?_
    refine GO ?_
    refine WC_loop (fun m f w' => ∃ i mvi, m = l.length - i ∧ i ≤ l.length ∧ EnvHas f [(1, mvi), (10, mv), (12, .int .u16 0), (40, .slice ao l.length cap), (41, .int .i64 (l.length : Int)), (42, .int .i64 (i : Int))] ∧ Pk w mv cv msg w' mvi (msg ++ two n1 ++ out ++ pairsB ((l.map (·.1)).take i)) c ∧ (∀ (j : Nat) (h : j < l.length), j < i → (0 < j → 0 < l[j].1.key) ∧ l[j].1.data.length ≤ 65535)) l.length ?_ ?_
    · refine ⟨0, mv2, rfl, Nat.zero_le _, ⟨rfl, rfl, rfl, rfl, rfl, rfl, trivial⟩, ?_, fun j _ h => absurd h (by omega)⟩
      rw [List.take_zero, show pairsB [] = [] from rfl, List.append_nil]
      exact PA
    rintro m f w3 ⟨i, mvi, rfl, hi, he, P, hall⟩
    obtain ⟨f, rfl⟩ := he.form
    refine GO ?_
    first | refine WC_sif vv (fun hc => ?_) (fun hc => ?_) | refine WC_if vv (fun hc => ?_) (fun hc => ?_)
    · have hlt : i < l.length := by simpa using hc
      have hlt' : i < (l.map (·.1)).length := by rw [hll]; exact hlt
      have htk := pairsB_take hlt'
      rw [show (l.map (·.1))[i] = l[i].1 by simp] at htk
      have hmono : (pairsB ((l.map (·.1)).take (i + 1))).length ≤ (pairsB (l.map (·.1))).length := fm_le pairB _ _
      rw [htk, List.length_append, pairB_len, hlp] at hmono
      have hl4 : (msg ++ two n1 ++ out ++ pairsB ((l.map (·.1)).take i)).length = msg.length + 2 + out.length + (pairsB ((l.map (·.1)).take i)).length := by simp only [List.length_append, two_length]
      rw [hlp] at hl4
      have hpre : msg <+: msg ++ two n1 ++ out ++ pairsB ((l.map (·.1)).take i) := by simp only [List.append_assoc]; exact List.prefix_append _ _
      obtain ⟨hkey, hdl⟩ := hd l[i] (by simp)
      obtain ⟨hR, hD⟩ := hI.pk (by decide) P hcomp
      have hL : ListAt w3 pairCells 2 (.slice ao l.length cap) l := ⟨fun _ _ => rfl, ReadsAt.of_own hR⟩
      obtain ⟨b2, o2, cap2, hv2, hcell⟩ := hL.part (by decide) hlt
      cases hv2
      have hdat := hD l[i] (by simp)
      obtain ⟨aod, capd, hdv⟩ := ReadsAt.value hdat
      refine GO ?_
      refine WL_index vv vv hlt ?_
      refine WL_loadAgg (l := pairCells l[i]) vv rfl hcell ?_
      refine WL_alloc ?_
      intro b5 w5 hb5 h5 g5
      refine GO ?_
      refine WL_storeRow (new := (pairCells l[i]).toArray) vv vv h5 rfl rfl (by simp [pairCells, hdv, Value.oneCell']) ?_
      intro w6 hw6 h6
      have G6 : Grows w3 w6 := g5.wrote hw6 (by omega)
      have h6 : w6.heap[b5]? = some (.cells #[.int .u16 (l[i].1.key : Int), .slice aod l[i].1.data.length capd] 156 (0, 0)) := by rw [h6, pairCells, hdv]
      have P6 := P.grow G6
      have hdat6 := BytesAt.grow hdat G6
      rw [hdv] at hdat6
      clear h5 g5 hw6 hcell hL hR
      have hne : mvi.ownBlock ≠ some b5 := Own.ne P6.own h6 (by decide)
      refine GO ?_
      by_cases h0i : 0 < i
      · rw [show decide ((0 : Int) < (i : Int)) = true from decide_eq_true (by omega)]
        refine RUN ?_
        by_cases hk0 : l[i].1.key = 0
        · rw [show decide ((l[i].1.key : Int) ≤ 0) = true from decide_eq_true (by omega)]
          refine RUN ?_
          have hno : ¬ (svcbOrd r.pairs && r.pairs.all fun p => decide (p.data.length ≤ 65535)) = true := fun hg => by
            rw [Bool.and_eq_true] at hg
            have := (svcbOrd_iff _).1 hg.1 i (by rw [← hlp, hll]; exact hlt) h0i
            have e : r.pairs[i]'(by rw [← hlp, hll]; exact hlt) = l[i].1 := by simp [← hlp]
            rw [e] at this
            omega
          obtain ⟨tv, p, fr', hG, hIE⟩ := (hE.pk P6 hcomp) 6 (by decide)
          have hG := hG
          refine GO ?_
          refine WC_seq (WC_draws (fun w' => w'.heap[6]? = some (.cells #[.iface tv p] 78 fr')) (by kernel_rfl) (fun w1 g => g.kept hG) ?_)
          intro wd gd hS
          refine WT 0 ?_
          refine WT 1 ?_
          refine WT 5 ?_
          refine WD_one (c := 2) (by kernel_rfl) rfl ?_
          refine WL_build (vs := [(0, .string ⟨#[83, 86, 67, 66, 82, 101, 115, 111, 117, 114, 99, 101, 46, 80, 97, 114, 97, 109, 115]⟩), (1, .iface tv p)]) (l := [.string ⟨#[83, 86, 67, 66, 82, 101, 115, 111, 117, 114, 99, 101, 46, 80, 97, 114, 97, 109, 115]⟩, .iface tv p]) (EvL.eq ⟨rfl, vv, rfl, vv, trivial⟩) ⟨⟨_, rfl⟩, ⟨_, rfl⟩, trivial⟩ (by kernel_rfl) ?_
          refine WL_nil ⟨hS, ?_⟩
          refine WD_one (c := 3) (by kernel_rfl) rfl ?_
          refine WL_box vv ?_
          intro bx wx hbx hx gx
          refine WL_nil ⟨gx.kept hS, ?_⟩
          have hS := gx.kept hS
          refine WD_take (i := 4) rfl rfl rfl rfl (by kernel_rfl) (by assumption) (fun w' hS => by exact Y_iface Tryd.underlying148 rfl vv) ?_
          refine WT 6 ?_
          refine WD_done (by kernel_rfl) ?_
          refine GO ?_
          exact ret2 (v1 := mv) (v2 := .iface 148 (.pointer (some ⟨bx, 0, none⟩))) Tryd.results79 rfl rfl (hbad hno _ (IsErr.nested ⟨bx, 0, none⟩) ⟨_, _, rfl⟩ ((P6.grow (gd.trans gx)).back))
        rw [show decide ((l[i].1.key : Int) ≤ 0) = false from decide_eq_false (by omega)]
        have hik : 0 < i → 0 < l[i].1.key := fun _ => by omega
        refine RUN ?_
        by_cases hbig : 65535 < l[i].1.data.length
        · rw [show decide ((65535 : Int) < (l[i].1.data.length : Int)) = true from decide_eq_true (by omega)]
          refine RUN ?_
          have hno : ¬ (svcbOrd r.pairs && r.pairs.all fun p => decide (p.data.length ≤ 65535)) = true := fun hg => by
            rw [Bool.and_eq_true] at hg
            have hm : l[i].1 ∈ r.pairs := by rw [← hlp]; exact List.mem_map.2 ⟨l[i], List.getElem_mem hlt, rfl⟩
            have := of_decide_eq_true (List.all_eq_true.1 hg.2 _ hm)
            omega
          obtain ⟨tv, p, fr', hG, hIE⟩ := (hE.pk P6 hcomp) 7 (by decide)
          have hG := hG
          refine GO ?_
          refine WC_seq (WC_draws (fun w' => w'.heap[7]? = some (.cells #[.iface tv p] 78 fr')) (by kernel_rfl) (fun w1 g => g.kept hG) ?_)
          intro wd gd hS
          refine WT 0 ?_
          refine WT 1 ?_
          refine WT 5 ?_
          refine WD_one (c := 2) (by kernel_rfl) rfl ?_
          refine WL_build (vs := [(0, .string ⟨#[83, 86, 67, 66, 82, 101, 115, 111, 117, 114, 99, 101, 46, 80, 97, 114, 97, 109, 115]⟩), (1, .iface tv p)]) (l := [.string ⟨#[83, 86, 67, 66, 82, 101, 115, 111, 117, 114, 99, 101, 46, 80, 97, 114, 97, 109, 115]⟩, .iface tv p]) (EvL.eq ⟨rfl, vv, rfl, vv, trivial⟩) ⟨⟨_, rfl⟩, ⟨_, rfl⟩, trivial⟩ (by kernel_rfl) ?_
          refine WL_nil ⟨hS, ?_⟩
          refine WD_one (c := 3) (by kernel_rfl) rfl ?_
          refine WL_box vv ?_
          intro bx wx hbx hx gx
          refine WL_nil ⟨gx.kept hS, ?_⟩
          have hS := gx.kept hS
          refine WD_take (i := 4) rfl rfl rfl rfl (by kernel_rfl) (by assumption) (fun w' hS => by exact Y_iface Tryd.underlying148 rfl vv) ?_
          refine WT 6 ?_
          refine WD_done (by kernel_rfl) ?_
          refine GO ?_
          exact ret2 (v1 := mv) (v2 := .iface 148 (.pointer (some ⟨bx, 0, none⟩))) Tryd.results79 rfl rfl (hbad hno _ (IsErr.nested ⟨bx, 0, none⟩) ⟨_, _, rfl⟩ ((P6.grow (gd.trans gx)).back))
        rw [show decide ((65535 : Int) < (l[i].1.data.length : Int)) = false from decide_eq_false (by omega)]
        refine RUN ?_
        refine WL_fun rfl ((dns_packUint16 w6 mvi _ (l[i].1.key : Int) (by omega) (by omega) P6.own (by rw [hlp, hl4]; omega)).mono ?_)
        rintro e w7 ⟨mv7, rfl, g7⟩
        refine ⟨_, rfl, ?_⟩
        have P7 := P6.grew g7 hpre
        have h7 := Grew.kept g7 h6 hne
        refine GO ?_
        refine WL_conv (c := low l[i].1.data.length) vv (by rw [wrap16]; simp only [low]; omega) ?_
        refine WL_fun rfl ((dns_packUint16 w7 mv7 _ (low l[i].1.data.length) (low_rng _).1 (low_rng _).2 P7.own (by rw [List.length_append, two_length, hlp, hl4]; omega)).mono ?_)
        rintro e w8 ⟨mv8, rfl, g8⟩
        refine ⟨_, rfl, ?_⟩
        have P8 := P7.grew g8 (hpre.trans (List.prefix_append _ _))
        have h8 := Grew.kept g8 h7 (Own.ne P7.own h7 (by decide))
        have hdat8 : BytesAt w8 (.slice aod l[i].1.data.length capd) l[i].1.data := by
          have := (hI.pk (by decide) P8 hcomp).2 l[i] (by simp)
          rw [hdv] at this
          exact this
        refine GO ?_
        refine WL_appendB vv P8.own vv hdat8 (by rw [List.length_append, List.length_append, two_length, two_length, hlp, hl4]; omega) hdl ?_
        intro mv9 w9 g9
        have P9 := P8.grew g9 ((hpre.trans (List.prefix_append _ _)).trans (List.prefix_append _ _))
        refine GO ?_
        refine WL_inc vv (by omega) ?_
        refine GO ?_
        refine ⟨l.length - (i + 1), by omega, i + 1, mv9, rfl, hlt, ⟨rfl, rfl, rfl, rfl, rfl, rfl, trivial⟩, ?_, fun j hj hji => ?_⟩
        · rw [htk]
          simpa [pairB, low, List.append_assoc] using P9
        · by_cases e : j = i
          · subst e
            exact ⟨hik, by omega⟩
          · exact hall j hj (by omega)
      · rw [show decide ((0 : Int) < (i : Int)) = false from decide_eq_false (by omega)]
        have hik : 0 < i → 0 < l[i].1.key := fun h => absurd h h0i
        refine RUN ?_
        by_cases hbig : 65535 < l[i].1.data.length
        · rw [show decide ((65535 : Int) < (l[i].1.data.length : Int)) = true from decide_eq_true (by omega)]
          refine RUN ?_
          have hno : ¬ (svcbOrd r.pairs && r.pairs.all fun p => decide (p.data.length ≤ 65535)) = true := fun hg => by
            rw [Bool.and_eq_true] at hg
            have hm : l[i].1 ∈ r.pairs := by rw [← hlp]; exact List.mem_map.2 ⟨l[i], List.getElem_mem hlt, rfl⟩
            have := of_decide_eq_true (List.all_eq_true.1 hg.2 _ hm)
            omega
          obtain ⟨tv, p, fr', hG, hIE⟩ := (hE.pk P6 hcomp) 7 (by decide)
          have hG := hG
          refine GO ?_
          refine WC_seq (WC_draws (fun w' => w'.heap[7]? = some (.cells #[.iface tv p] 78 fr')) (by kernel_rfl) (fun w1 g => g.kept hG) ?_)
          intro wd gd hS
          refine WT 0 ?_
          refine WT 1 ?_
          refine WT 5 ?_
          refine WD_one (c := 2) (by kernel_rfl) rfl ?_
          refine WL_build (vs := [(0, .string ⟨#[83, 86, 67, 66, 82, 101, 115, 111, 117, 114, 99, 101, 46, 80, 97, 114, 97, 109, 115]⟩), (1, .iface tv p)]) (l := [.string ⟨#[83, 86, 67, 66, 82, 101, 115, 111, 117, 114, 99, 101, 46, 80, 97, 114, 97, 109, 115]⟩, .iface tv p]) (EvL.eq ⟨rfl, vv, rfl, vv, trivial⟩) ⟨⟨_, rfl⟩, ⟨_, rfl⟩, trivial⟩ (by kernel_rfl) ?_
          refine WL_nil ⟨hS, ?_⟩
          refine WD_one (c := 3) (by kernel_rfl) rfl ?_
          refine WL_box vv ?_
          intro bx wx hbx hx gx
          refine WL_nil ⟨gx.kept hS, ?_⟩
          have hS := gx.kept hS
          refine WD_take (i := 4) rfl rfl rfl rfl (by kernel_rfl) (by assumption) (fun w' hS => by exact Y_iface Tryd.underlying148 rfl vv) ?_
          refine WT 6 ?_
          refine WD_done (by kernel_rfl) ?_
          refine GO ?_
          exact ret2 (v1 := mv) (v2 := .iface 148 (.pointer (some ⟨bx, 0, none⟩))) Tryd.results79 rfl rfl (hbad hno _ (IsErr.nested ⟨bx, 0, none⟩) ⟨_, _, rfl⟩ ((P6.grow (gd.trans gx)).back))
        rw [show decide ((65535 : Int) < (l[i].1.data.length : Int)) = false from decide_eq_false (by omega)]
        refine RUN ?_
        refine WL_fun rfl ((dns_packUint16 w6 mvi _ (l[i].1.key : Int) (by omega) (by omega) P6.own (by rw [hlp, hl4]; omega)).mono ?_)
        rintro e w7 ⟨mv7, rfl, g7⟩
        refine ⟨_, rfl, ?_⟩
        have P7 := P6.grew g7 hpre
        have h7 := Grew.kept g7 h6 hne
        refine GO ?_
        refine WL_conv (c := low l[i].1.data.length) vv (by rw [wrap16]; simp only [low]; omega) ?_
        refine WL_fun rfl ((dns_packUint16 w7 mv7 _ (low l[i].1.data.length) (low_rng _).1 (low_rng _).2 P7.own (by rw [List.length_append, two_length, hlp, hl4]; omega)).mono ?_)
        rintro e w8 ⟨mv8, rfl, g8⟩
        refine ⟨_, rfl, ?_⟩
        have P8 := P7.grew g8 (hpre.trans (List.prefix_append _ _))
        have h8 := Grew.kept g8 h7 (Own.ne P7.own h7 (by decide))
        have hdat8 : BytesAt w8 (.slice aod l[i].1.data.length capd) l[i].1.data := by
          have := (hI.pk (by decide) P8 hcomp).2 l[i] (by simp)
          rw [hdv] at this
          exact this
        refine GO ?_
        refine WL_appendB vv P8.own vv hdat8 (by rw [List.length_append, List.length_append, two_length, two_length, hlp, hl4]; omega) hdl ?_
        intro mv9 w9 g9
        have P9 := P8.grew g9 ((hpre.trans (List.prefix_append _ _)).trans (List.prefix_append _ _))
        refine GO ?_
        refine WL_inc vv (by omega) ?_
        refine GO ?_
        refine ⟨l.length - (i + 1), by omega, i + 1, mv9, rfl, hlt, ⟨rfl, rfl, rfl, rfl, rfl, rfl, trivial⟩, ?_, fun j hj hji => ?_⟩
        · rw [htk]
          simpa [pairB, low, List.append_assoc] using P9
        · by_cases e : j = i
          · subst e
            exact ⟨hik, by omega⟩
          · exact hall j hj (by omega)
    have hge : i = l.length := by have := of_decide_eq_false hc; omega
    subst hge
    rw [List.take_of_length_le (by rw [hll]; exact Nat.le_refl _), hlp] at P
    have hgood : (svcbOrd r.pairs && r.pairs.all fun p => decide (p.data.length ≤ 65535)) = true := by
      rw [Bool.and_eq_true]
      refine ⟨(svcbOrd_iff _).2 fun j hj h0 => ?_, List.all_eq_true.2 fun p hp => ?_⟩
      · have hj' : j < l.length := by rw [← hlp, hll] at hj; exact hj
        have := (hall j hj' hj').1 h0
        have e : r.pairs[j] = l[j].1 := by simp [← hlp]
        rw [e]; exact this
      · rw [← hlp] at hp
        obtain ⟨x, hx, rfl⟩ := List.mem_map.1 hp
        obtain ⟨j, hj⟩ := List.mem_iff_getElem?.1 hx
        have hj' := (List.getElem?_eq_some_iff.1 hj).1
        have e := (List.getElem?_eq_some_iff.1 hj).2
        have := (hall j hj' hj').2
        rw [e] at this
        exact decide_eq_true this
    refine GO ?_
    refine ret2 (v1 := mvi) (v2 := .nilIface) Tryd.results79 rfl rfl ?_
    simp only [if_pos hgood]
    refine ⟨_, rfl, ?_⟩
    simpa only [List.append_assoc] using P
theorem impl_paramsOf (w : World) (v : Value) (l : List (PairM × Value)) (hL : ListAt w pairCells 2 v l) (hD : ∀ x ∈ l, BytesAt w x.2 x.1.data) (hn : l.length ≤ 16777216) (hd : ∀ x ∈ l, x.1.data.length ≤ 140737488355328) :
    Calls Tryd.prog 71 #[v] w fun e w' => ∃ v' l', e = .returned v' ∧ OwnPairs w.heap.size w' 156 v' l' ∧ l'.map (·.1) = l.map (·.1) ∧ Grows w w' := by
  obtain ⟨ao, cap, rfl⟩ := hL.value
  refine calls_of_WC Tryd.func71 rfl Tryd.ntmps71 rfl ?_
  refine GO ?_
  refine WL_slice0 ?_
  intro b1 w1 hb1 h1 g1
  refine GO ?_
  refine WC_loop (fun m f w' => ∃ (i : Nat) (v3 : Value) (l' : List (PairM × Value)), m = l.length - i ∧ i ≤ l.length ∧ EnvHas f [(3, v3), (7, .slice ao l.length cap), (8, .int .i64 (l.length : Int)), (9, .int .i64 (i : Int))] ∧ OwnPairs w.heap.size w' 156 v3 l' ∧ l'.map (·.1) = (l.map (·.1)).take i ∧ Grows w w') l.length ?_ ?_
  · exact ⟨0, _, [], rfl, Nat.zero_le _, ⟨rfl, rfl, rfl, rfl, trivial⟩, ⟨LAcc.nil (.inr trivial) h1 hb1, by simp⟩, by simp, g1⟩
  rintro m f w2 ⟨i, v3, l', rfl, hi, he, hA, hl', hg⟩
  obtain ⟨f, rfl⟩ := he.form
  have hll : l'.length = min i l.length := by
    have := congrArg List.length hl'
    simpa using this
  refine GO ?_
  first | refine WC_sif vv (fun hc => ?_) (fun hc => ?_) | refine WC_if vv (fun hc => ?_) (fun hc => ?_)
  · have hlt : i < l.length := by simpa using hc
    have hdat := BytesAt.grow (hD l[i] (by simp)) hg
    obtain ⟨aod, capd, hdv⟩ := ReadsAt.value hdat
    rw [hdv] at hdat
    have hdl := hd l[i] (by simp)
    obtain ⟨b2, o2, cap2, hv2, hcell⟩ := (hL.grow hg).part (by decide) hlt
    cases hv2
    refine GO ?_
    refine WL_index vv vv hlt ?_
    refine WL_loadAgg (l := pairCells l[i]) vv rfl hcell ?_
    refine WL_alloc ?_
    intro b5 w5 hb5 h5 g5
    refine WL_storeRow (new := (pairCells l[i]).toArray) vv vv h5 rfl rfl (by simp [pairCells, hdv, Value.oneCell']) ?_
    intro w6 hw6 h6
    have G6 : Grows w2 w6 := g5.wrote hw6 (by omega)
    have h6 : w6.heap[b5]? = some (.cells #[.int .u16 (l[i].1.key : Int), .slice aod l[i].1.data.length capd] 103 (0, 0)) := by rw [h6, pairCells, hdv]
    refine GO ?_
    refine WC_draws (fun w' => w'.heap[b5]? = some (.cells #[.int .u16 (l[i].1.key : Int), .slice aod l[i].1.data.length capd] 103 (0, 0))) (by kernel_rfl) (fun w1 g => g.kept h6) ?_
    intro w7 g7 hS
    refine WT 0 ?_
    refine WT 1 ?_
    refine WT 2 ?_
    refine WT 4 ?_
    refine WT 5 ?_
    refine WD_one (c := 3) (by kernel_rfl) rfl ?_
    refine WL_slice0 ?_
    intro b16 w8 hb16 h16 g8
    have hS8 := g8.kept hS
    refine WL_nil ⟨hS8, ?_⟩
    refine WD_one (c := 6) (by kernel_rfl) rfl ?_
    have hA8 : AccB w7.heap.size w8 (.slice (some ⟨b16, 0, none⟩) 0 0) [] := Acc.block h16 hb16 (by decide) (by simp)
    refine WL_appendB (bs := []) vv hA8.own vv (BytesAt.grow hdat ((G6.trans g7).trans g8)) (by simp; omega) (by omega) ?_
    intro dv w9 hgr
    have hA9 : AccB w7.heap.size w9 dv l[i].1.data := by have := AccB.grew hA8 hgr g8.size; simpa using this
    have g9 : Grows w7 w9 := Acc.below hA8 hgr g8.size g8
    have hS9 := g9.kept hS
    obtain ⟨aoe, cape, rfl⟩ := ReadsAt.value hA9.reads
    refine WL_nil ⟨hS9, ?_⟩
    refine WD_one (c := 7) (by kernel_rfl) rfl ?_
    refine WL_build (vs := [(0, .int .u16 (l[i].1.key : Int)), (1, .slice aoe l[i].1.data.length cape)]) (l := [.int .u16 (l[i].1.key : Int), .slice aoe l[i].1.data.length cape]) (EvL.eq ⟨rfl, vv, rfl, vv, trivial⟩) ⟨⟨_, rfl⟩, ⟨_, rfl⟩, trivial⟩ (by kernel_rfl) ?_
    refine WL_nil ⟨hS9, ?_⟩
    refine WD_one (c := 8) (by kernel_rfl) rfl ?_
    refine WL_slice (vs := [.agg #[.int .u16 (l[i].1.key : Int), .slice aoe l[i].1.data.length cape]]) (EvL.eq ⟨rfl, vv, trivial⟩) (by simp) rfl (by simp [Value.cells]) rfl ?_
    intro b21 wa hb21 h21 ga
    have hSa := ga.kept hS9
    refine WL_nil ⟨hSa, ?_⟩
    have Ga : Grows w2 wa := (G6.trans g7).trans (g9.trans ga)
    have hwa : Grows w wa := hg.trans Ga
    have hrd := reads_new (k := 2) (cs := #[.int .u16 (l[i].1.key : Int), .slice aoe l[i].1.data.length cape]) h21 rfl
    have hAa := hA.grow Ga
    have hz : w.heap.size ≤ w7.heap.size := (hg.trans (G6.trans g7)).size
    have hAd : AccB w.heap.size wa (.slice aoe l[i].1.data.length cape) l[i].1.data := Acc.mono (hA9.grow ga) hz
    refine WD_one (c := 9) (by kernel_rfl) rfl ?_
    refine WL_append (t := 80) vv hAa.acc.acc.own vv hrd (by intro u hu; simp only [List.mem_cons, List.not_mem_nil, or_false] at hu; rcases hu with rfl | rfl <;> rfl) ⟨by omega, by omega, by omega⟩ ?_
    intro v9 wb hgr9
    have hk9 : ∀ j o, wa.heap[j]? = some o → v3.ownBlock ≠ some j → wb.heap[j]? = some o := fun j o hj hne => Grew.kept hgr9 hj hne
    have gb : Grows w wb := Acc.below hAa.acc.acc hgr9 hwa.size hwa
    have hSb := hk9 _ _ hSa (own_ne hAa.acc.acc.own hSa (by decide))
    have hAb : OwnPairs w.heap.size wb 156 v9 (l' ++ [(l[i].1, .slice aoe l[i].1.data.length cape)]) := by
      refine ⟨⟨?_, fun _ _ => rfl⟩, ?_⟩
      · have := hAa.acc.acc.grew hgr9 hwa.size
        simpa [pairCells] using this
      · intro y hy
        rcases List.mem_append.1 hy with hy | hy
        · exact Acc.kept_t (hAa.data y hy) hAa.acc.acc.own (by decide) hk9
        · rw [List.mem_singleton.1 hy]
          exact Acc.kept_t hAd hAa.acc.acc.own (by decide) hk9
    refine WL_nil ⟨hSb, ?_⟩
    refine WD_one (c := 10) (by kernel_rfl) rfl ?_
    refine WL_assign vv (WL_nil ⟨hSb, ?_⟩)
    refine WD_done (by kernel_rfl) ?_
    refine GO ?_
    refine WL_inc vv (by omega) ?_
    refine GO ?_
    refine ⟨l.length - (i + 1), by omega, i + 1, v9, _, rfl, hlt, ⟨rfl, rfl, rfl, rfl, trivial⟩, hAb, ?_, gb⟩
    rw [List.map_append, hl', List.take_succ_eq_append_getElem (by rw [List.length_map]; exact hlt)]
    simp
  have hge : i = l.length := by have := of_decide_eq_false hc; omega
  subst hge
  refine GO ?_
  refine ret1 (v := v3) Tryd.results71 rfl ⟨v3, l', rfl, hA, ?_, hg⟩
  rw [hl', List.take_of_length_le (by simp)]
theorem build_SV (nm : Bytes) (h : nm.length ≤ 255) (k0 : Int) (ao : Option Addr) (n cap : Nat) : buildL [(0, 1), (1, 256), (257, 1)] (Value.int .u16 0 :: (List.replicate 256 (Value.int .u8 0) ++ [Value.slice none 0 0])) [(0, .int .u16 k0), (1, .agg (nameCells nm)), (2, .slice ao n cap)] = svCells k0 nm (.slice ao n cap) := by
  have hl := nameList_length nm h
  simp only [buildL, List.getD_cons_zero, List.getD_cons_succ, Value.cells, nameCells]
  have e1 : over (Value.int .u16 k0 :: (List.replicate 256 (Value.int .u8 0) ++ [Value.slice none 0 0])) 1 (nameList nm) = [Value.int .u16 k0] ++ nameList nm ++ [Value.slice none 0 0] := by
    have e := over_after [Value.int .u16 k0] (List.replicate 256 (Value.int .u8 0) ++ [Value.slice none 0 0]) 1 0 rfl (nameList nm)
    rw [over_name nm h] at e
    simpa using e
  have e2 := over_after ([Value.int .u16 k0] ++ nameList nm) [Value.slice none 0 0] 257 0 (by simp [hl]) [Value.slice ao n cap]
  show over (over (Value.int .u16 k0 :: (List.replicate 256 (Value.int .u8 0) ++ [Value.slice none 0 0])) 1 (nameList nm)) 257 [Value.slice ao n cap] = _
  rw [e1]
  exact e2
theorem svCells_one (n1 : Int) (nm : Bytes) (ao : Option Addr) (n cap : Nat) : ∀ u ∈ svCells n1 nm (.slice ao n cap), u.oneCell' = true := by
  intro u hu
  simp only [svCells, List.mem_append, List.mem_singleton] at hu
  rcases hu with (rfl | hu) | rfl
  · rfl
  · exact nameList_one _ u hu
  · rfl
theorem impl_svcbOf (w : World) (x : RecM × RecV) (hx : RecAt w x) : Calls Tryd.prog 46 #[.agg (recCells x).toArray] w fun e w' => ∃ pv l, e = .returned (.agg (svCells (low x.1.n1) (x.1.host.take 255) pv).toArray) ∧ OwnPairs w.heap.size w' 156 pv l ∧ l.map (·.1) = x.1.pairs ∧ Grows w w' := by
  have hnm : (x.1.host.take 255).length ≤ 255 := by simp; omega
  have hpn := hx.ok.pairs
  simp only [lim] at hpn
  obtain ⟨l0, hl0, hL, hD⟩ := hx.pairs.at_
  have hln : l0.length = x.1.pairs.length := by
    have := congrArg List.length hl0
    simpa using this
  have hd0 : ∀ y ∈ l0, y.1.data.length ≤ 140737488355328 := fun y hy => by
    have := (hpn.2 y.1 (by rw [← hl0]; exact List.mem_map.2 ⟨y, hy, rfl⟩)).2
    omega
  refine calls_of_WC Tryd.func46 rfl Tryd.ntmps46 rfl ?_
  refine GO ?_
  refine WL_box vv ?_
  intro b1 w1 hb1 h1 g1
  have h1 : w1.heap[b1]? = some (.cells (recCells x).toArray 30 (0, 0)) := h1
  refine WL_alloc ?_
  intro b2 w2 hb2 h2 g2
  have G2 := g1.trans g2
  have h12 := g2.kept h1
  refine GO ?_
  refine WC_seq (WC_draws (fun w' => w'.heap[b1]? = some (.cells (recCells x).toArray 30 (0, 0))) (by kernel_rfl) (fun w1 g => g.kept h12) ?_)
  intro w3 g3 hS
  refine WT 0 ?_
  refine WT 1 ?_
  refine WD_take (i := 2) rfl rfl rfl rfl (by kernel_rfl) (by assumption) (fun w' hS => by exact Y_conv (c := low x.1.n1) vv (by rw [wrap16]; simp only [low]; omega)) ?_
  refine WT 3 ?_
  refine WT 4 ?_
  refine WT 6 ?_
  refine WT 7 ?_
  refine WD_one (c := 5) (by kernel_rfl) rfl ?_
  refine WL_fun rfl ((impl_nameOf _ (x.1.host.take 255) (by simp) w3).mono ?_)
  rintro e w4 ⟨rfl, g4⟩
  have g4 : Grows w3 w4 := g4
  have hS4 := g4.kept hS
  refine ⟨_, rfl, WL_nil ⟨hS4, ?_⟩⟩
  refine WD_one (c := 8) (by kernel_rfl) rfl ?_
  have G4 := (G2.trans g3).trans g4
  refine WL_fun rfl ((impl_paramsOf w4 x.2.pv l0 (hL.grow G4) (fun y hy => (hD y hy).grow G4) (by omega) hd0).mono ?_)
  rintro e w5 ⟨pv, l, rfl, hA, hl, g5⟩
  have hS5 := g5.kept hS4
  refine ⟨_, rfl, WL_nil ⟨hS5, ?_⟩⟩
  obtain ⟨aod, capd, rfl⟩ := hA.acc.reads.value
  refine WD_one (c := 9) (by kernel_rfl) rfl ?_
  refine WL_build (vs := [(0, .int .u16 (low x.1.n1)), (1, .agg (nameCells (x.1.host.take 255))), (2, .slice aod l.length capd)]) (l := svCells (low x.1.n1) (x.1.host.take 255) (.slice aod l.length capd)) (EvL.eq ⟨rfl, vv, rfl, vv, rfl, vv, trivial⟩) ⟨⟨_, rfl⟩, ⟨1, by simp [Value.cells, nameCells, nameList_length _ hnm]⟩, ⟨_, rfl⟩, trivial⟩ (build_SV _ hnm _ _ _ _) ?_
  refine WL_nil ⟨hS5, ?_⟩
  refine WD_one (c := 10) (by kernel_rfl) rfl ?_
  have h25 := (g3.trans (g4.trans g5)).kept h2
  refine WL_storeRow (new := (svCells (low x.1.n1) (x.1.host.take 255) (.slice aod l.length capd)).toArray) vv vv h25 (by rw [List.size_toArray, svCells_length _ _ _ hnm]) (by simp [Value.cells]) (by intro u hu; exact svCells_one _ _ _ _ _ u (by simpa using hu)) ?_
  intro w6 hw6 h6
  have hn : b1 ≠ b2 := by have := (Array.getElem?_eq_some_iff.1 h1).1; omega
  refine WL_nil ⟨hw6.kept hS5 hn, ?_⟩
  refine WD_done (by kernel_rfl) ?_
  refine GO ?_
  exact retc Tryd.results46 rfl h6 Tryd.underlying82 rfl (by rw [List.size_toArray, svCells_length _ _ _ hnm]; kernel_rfl) ⟨_, l, rfl, (hA.mono G4.size).wrote h25 (by decide) (by decide) hw6, by rw [hl, hl0], (G4.trans g5).wrote hw6 (by have := g1.size; omega)⟩
end Go.Proofs.YtgkhfpkfjajdjaaDoor
