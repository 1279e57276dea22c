/- HTTPS records: the method of a Builder, and the conversion. -/
import Derived.Test.YtgkhfpkfjajdjaaDoorKS
import Derived.Test.YtgkhfpkfjajdjaaDoorG8
import Derived.Test.YtgkhfpkfjajdjaaDoorBodyHTTPS
set_option linter.unusedVariables false
set_option linter.unusedSimpArgs false
namespace Go.Proofs.YtgkhfpkfjajdjaaDoor
open Go.RowKit
set_option maxHeartbeats 4000000
set_option maxRecDepth 100000

theorem real_HTTPS (w : World) (g : Nat) : Calls Tryd.prog 59 #[.pointer (some ⟨g, 0, none⟩)] w fun e w' => e = .returned (.int .u16 ((65 : Nat) : Int)) ∧ w = w' := by
  refine calls_of_WC Tryd.func59 rfl Tryd.ntmps59 rfl ?_
  refine GO ?_
  exact ret1 (v := .int .u16 65) Tryd.results59 rfl ⟨rfl, rfl⟩
theorem impl_httpsOf (w : World) (x : RecM × RecV) (hx : RecAt w x) : Calls Tryd.prog 32 #[.agg (recCells x).toArray] w fun e w' => ∃ pv l, e = .returned (.agg (svCells (low x.1.n1) (x.1.host.take 255) pv).toArray) ∧ OwnPairs w.heap.size w' 156 pv l ∧ l.map (·.1) = x.1.pairs ∧ Grows w w' := by
  have hnm : (x.1.host.take 255).length ≤ 255 := by simp; omega
  refine calls_of_WC Tryd.func32 rfl Tryd.ntmps32 rfl ?_
  refine GO ?_
  refine WL_box vv ?_
  intro b1 w1 hb1 h1 g1
  have h1 : w1.heap[b1]? = some (.cells (recCells x).toArray 30 (0, 0)) := h1
  refine WL_alloc ?_
  intro b2 w2 hb2 h2 g2
  have G2 := g1.trans g2
  have h12 := g2.kept h1
  refine GO ?_
  refine WL_loadRow vv h12 rfl ?_
  refine WL_fun rfl ((impl_svcbOf w2 x (hx.grow G2)).mono ?_)
  rintro e w3 ⟨pv, l, rfl, hA, hl, g3⟩
  refine ⟨_, rfl, ?_⟩
  obtain ⟨aod, capd, rfl⟩ := hA.acc.reads.value
  have hsl := svCells_length (low x.1.n1) (x.1.host.take 255) (.slice aod l.length capd) hnm
  refine GO ?_
  refine WL_build (vs := [(0, .agg (svCells (low x.1.n1) (x.1.host.take 255) (.slice aod l.length capd)).toArray)]) (l := svCells (low x.1.n1) (x.1.host.take 255) (.slice aod l.length capd)) (EvL.eq ⟨rfl, vv, trivial⟩) ⟨⟨0, by simp [Value.cells, hsl]⟩, trivial⟩ (by
    simp only [buildL, List.getD_cons_zero, Value.cells, over, List.take_zero, List.nil_append, Nat.zero_add, hsl]
    rw [List.drop_of_length_le (by simp), List.append_nil]) ?_
  have h23 := g3.kept h2
  refine WL_storeRow (new := (svCells (low x.1.n1) (x.1.host.take 255) (.slice aod l.length capd)).toArray) vv vv h23 (by rw [List.size_toArray, hsl]) (by simp [Value.cells]) (by intro u hu; exact svCells_one _ _ _ _ _ u (by simpa using hu)) ?_
  intro w4 hw4 h4
  refine GO ?_
  exact retc Tryd.results32 rfl h4 Tryd.underlying84 rfl (by rw [List.size_toArray, hsl]; kernel_rfl) ⟨_, l, rfl, (hA.mono G2.size).wrote h23 (by decide) (by decide) hw4, hl, (G2.trans g3).wrote hw4 (by have := g1.size; omega)⟩
/-- the method for records of the type HTTPS: the type is put in, then the like of both kinds is called -/
theorem dns_HTTPSResource (K : KindM) (w : World) (b : Nat) (mv cv : Value) (pre : Bytes) (id bits : Nat) (m : MSt) (h : BM w b mv cv pre id bits m) (r : RecM) (ty0 : Nat) (hK : K.type r = 65) (hcl : r.cls < 65536) (httl : r.ttl < 4294967296) (hln : r.len < 65536) (bc : List Value) (hbc : ∀ u ∈ bc, u.oneCell' = true) (hbl : bc.length = 258) (LB : Nat) (I : World → Value → Prop)
    (hpack : BodyP2 79 82 bc (K.body r) LB I) (hlb : ∀ pos c o c', K.body r pos c = .ok o c' → o.length ≤ LB) (hcok : ∀ pos c, CompOk c → CompOk (K.body r pos c).comp) (hI : ∀ w' mv', Chg (Foot2 mv cv) w w' → AtOld w mv mv' → I w' mv')
    (hlen : (pre ++ m.out).length + 2000 + LB ≤ 200000000000000) (hE : Errs w) :
    Calls Tryd.prog 31 #[.pointer (some ⟨b, 0, none⟩), .agg (rhCells (r.name.take 255) ty0 r.cls r.ttl r.len).toArray, .agg bc.toArray] w (ResPost w b mv cv pre id bits K m r) := by
  have hnm : (r.name.take 255).length ≤ 255 := by simp; omega
  refine calls_of_WC Tryd.func31 rfl Tryd.ntmps31 rfl ?_
  refine GO ?_
  refine WL_box vv ?_
  intro bh wh hbh hh gh
  refine WL_box vv ?_
  intro bb wb hbb hb gb
  have g0 := gh.trans gb
  have hh0 := gb.kept hh
  refine GO ?_
  refine WL_fun rfl ((real_HTTPS wb bb).mono ?_)
  rintro e w1 ⟨rfl, rfl⟩
  refine ⟨_, rfl, ?_⟩
  refine GO ?_
  refine WL_store1 vv vv hh0 (by simp [Value.cells, rhCells, nameList_length _ hnm]) rfl ?_
  intro w1 hw1 hh1
  have hh2 : w1.heap[bh]? = some (.cells (rhCells (r.name.take 255) (K.type r) r.cls r.ttl r.len).toArray 76 (0, 0)) := by
    rw [hh1, hK]
    have := rh_set (r.name.take 255) hnm ty0 65 r.cls r.ttl r.len
    simp only [Value.cells] at *
    rw [this]
  have G1 : Grows w w1 := g0.wrote hw1 hbh
  have hb1 := hw1.kept hb (by have := (Array.getElem?_eq_some_iff.1 hh).1; omega)
  clear hh1
  refine GO ?_
  refine WL_loadRow vv hh2 (by simp [rhCells, nameList_length _ hnm]) ?_
  refine GO ?_
  refine WL_loadRow vv hb1 (by simp [Value.cells, hbl]) ?_
  refine WL_fun rfl ((dns_genericSVCB K w1 b mv cv pre id bits m (h.grow G1) r (by rw [hK]; decide) hcl httl hln bc hbc LB I hpack hlb hcok (fun w' mv' hc ha => hI w' mv' ((Chg.of_below G1 (Foot2 mv cv)).trans hc (fun _ _ h => h)) (ha.imp (fun h => h) (fun ⟨k, hk, e⟩ => ⟨k, Nat.le_trans G1.size hk, e⟩))) hlen (hE.grow G1)).mono ?_)
  rintro e w2 ⟨v, rfl, hv, hto⟩
  refine ⟨_, rfl, ?_⟩
  refine GO ?_
  exact ret1 (v := v) Tryd.results31 rfl ⟨_, rfl, hv, BTo.of_grow G1 hto⟩
end Go.Proofs.YtgkhfpkfjajdjaaDoor

/- HTTPS records: the function that adds one, and the one that builds. -/
namespace Go.Proofs.YtgkhfpkfjajdjaaDoor
open Go.RowKit
set_option maxHeartbeats 2000000
set_option maxRecDepth 100000

theorem add_HTTPS : AddC 30 kHTTPSv (fun r => 700 + (pairsB r.pairs).length) := by
  intro w b mv cv pre id bits m x hB hR hlen hE
  have hnm : (x.1.name.take 255).length ≤ 255 := by simp; omega
  have hok := hR.ok
  have hlen' : (pre ++ m.out).length + 2000 + (700 + (pairsB x.1.pairs).length) ≤ 200000000000000 := hlen
  refine calls_of_WC Tryd.func30 rfl Tryd.ntmps30 rfl ?_
  refine GO ?_
  refine WL_box vv ?_
  intro b4 w1 hb4 h4 g1
  refine WL_box vv ?_
  intro b5 w2 hb5 h5 g2
  have h42 := g2.kept h4
  have G2 := g1.trans g2
  refine GO ?_
  refine WC_seq (WC_draws (fun w' => w'.heap[b4]? = some (.cells (rhCells (x.1.name.take 255) x.1.type x.1.cls x.1.ttl x.1.len).toArray 76 (0, 0)) ∧ w'.heap[b5]? = some (.cells (recCells x).toArray 30 (0, 0))) (by kernel_rfl) (fun w1 g => ⟨g.kept h42, g.kept h5⟩) ?_)
  intro w3 g3 hS3
  have G3 := G2.trans g3
  refine WT 0 ?_
  refine WD_take (i := 1) rfl rfl rfl rfl (by kernel_rfl) (by assumption) (fun w' hS => by exact Y_loadRow vv hS.1 (by simp [rhCells, nameList_length _ hnm])) ?_
  refine WD_take (i := 2) rfl rfl rfl rfl (by kernel_rfl) (by assumption) (fun w' hS => by exact Y_loadRow vv hS.2 rfl) ?_
  refine WD_one (c := 3) (by kernel_rfl) rfl ?_
  refine WL_fun rfl ((impl_httpsOf w3 x (hR.grow G3)).mono ?_)
  rintro e w4 ⟨pv, l, rfl, hpv, hlp, g4⟩
  obtain ⟨aod, capd, hdvv⟩ := hpv.acc.reads.value
  have hS4 := And.intro (g4.kept hS3.1) (g4.kept hS3.2)
  have G4 := G3.trans g4
  have B3 := hB.grow G3
  have B4 := hB.grow G4
  have htx := hok.pairs
  simp only [lim] at htx
  have hll : l.length = x.1.pairs.length := by
    have := congrArg List.length hlp
    simpa using this
  have hdl : ∀ y ∈ l, y.1.key < 65536 ∧ y.1.data.length ≤ 140737488355328 := fun y hy => by
    have := htx.2 y.1 (by rw [← hlp]; exact List.mem_map.2 ⟨y, hy, rfl⟩)
    exact ⟨this.1, by omega⟩
  have hpk := pack_SVCB x.1 pv l hlp hdl (by omega)
  have hlt3 := foot2_lt B3.own B3.comp
  refine ⟨_, rfl, WL_nil ⟨hS4, ?_⟩⟩
  refine WD_one (c := 4) (by kernel_rfl) rfl ?_
  have hnmh : (x.1.host.take 255).length ≤ 255 := by simp; omega
  refine WL_fun rfl ((dns_HTTPSResource kHTTPSv w4 b mv cv pre id bits m B4 x.1 x.1.type rfl hok.cls hok.ttl hok.len (svCells (low x.1.n1) (x.1.host.take 255) pv) (by intro u hu; rw [hdvv] at hu; exact svCells_one _ _ _ _ _ u hu) (svCells_length _ _ _ hnmh) (700 + (pairsB x.1.pairs).length) (PairsIn 156 pv l) hpk (fun _ _ _ _ e => svcbV_len e) (fun pos c h => svcbV_comp x.1 pos c h) (fun w' mv' hc ha => hpv.pairsIn hc hlt3 (fun k hk => hlt3 k (.inl hk)) ha) hlen' (hE.grow G4)).mono ?_)
  rintro e w5 ⟨v, rfl, hv, hto⟩
  obtain ⟨mv5, cv5, hB5, hC5, hF5⟩ := hto
  have hS5 := And.intro (hC5.kept hS4.1 (B4.at_.far hS4.1 (by decide) (by decide))) (hC5.kept hS4.2 (B4.at_.far hS4.2 (by decide) (by decide)))
  refine ⟨_, rfl, WL_nil ⟨hS5, ?_⟩⟩
  refine WD_one (c := 5) (by kernel_rfl) rfl ?_
  refine WL_assign vv (WL_nil ⟨hS5, ?_⟩)
  refine WD_done (by kernel_rfl) ?_
  refine GO ?_
  exact ret1 (v := v) Tryd.results30 rfl ⟨_, rfl, hv, BTo.of_grow G4 ⟨mv5, cv5, hB5, hC5, hF5⟩⟩
theorem build_HTTPS : BuildC 13 kHTTPSv (fun r => 700 + (pairsB r.pairs).length) true := by
  intro w bufv buf h sv ss hbuf hbl hid hop hcode hss hrec hlen hE hK
  refine calls_of_WC Tryd.func13 rfl Tryd.ntmps13 rfl ?_
  refine GO ?_
  refine WL_box vv ?_
  intro b4 w1 hb4 h4 g1
  refine WL_alloc ?_
  intro b6 w2 hb6 h6 g2
  have G2 := g1.trans g2
  refine GO ?_
  refine WL_loadRow vv (g2.kept h4) rfl ?_
  refine GO ?_
  refine WL_fun rfl ((impl_run kHTTPSv (fun r => 700 + (pairsB r.pairs).length) 30 (CanCall.c (P := Tryd.prog)) w2 bufv buf h sv ss (hbuf.grow G2) hbl hid hop hcode (hss.grow G2) (.inr add_HTTPS) hlen (hE.grow G2) (hK.grow G2)).mono ?_)
  rintro e w3 ⟨v, fv, dv, cs, rfl, hb⟩
  refine ⟨_, rfl, ?_⟩
  have hv := hb.val
  subst hv
  have h63 := hb.grows.kept h6
  have hz : w.heap.size ≤ b6 := by have := g1.size; omega
  refine WL_storeRow (new := #[fv, dv, .int .i64 0]) vv vv h63 rfl rfl hb.one ?_
  intro w4 hw4 h4'
  refine GO ?_
  exact retc Tryd.results13 rfl h4' Tryd.underlying49 rfl (by kernel_rfl) ⟨_, fv, dv, cs, rfl, (hb.mono G2).wrote hw4 h63 (by decide) (by decide) hz⟩
end Go.Proofs.YtgkhfpkfjajdjaaDoor

/- HTTPS records: what the reference says of them, and what the laws ask of the function that builds them. Written by gen_kind.py. -/
namespace Go.Proofs.YtgkhfpkfjajdjaaDoor
open Go.RowKit
set_option maxHeartbeats 2000000
set_option maxRecDepth 100000

theorem kc_HTTPS : KC 13 kHTTPSv (fun r => 700 + (pairsB r.pairs).length) 12 := ⟨build_HTTPS, CanCall.c (P := Tryd.prog), okHTTPSv, body_HTTPS, bok_HTTPS, by decide, fun r h => by have h1 := (recOk_parts h).2.2.1; have e : body 12 r = two (low r.n1) ++ wire r.host ++ pairsB r.pairs := rfl; rw [e] at h1; simp only [List.length_append] at h1; omega, by decide⟩
end Go.Proofs.YtgkhfpkfjajdjaaDoor
