/- Builder.genericSVCBResource. -/
import Derived.Test.YtgkhfpkfjajdjaaDoorRes2
set_option linter.unusedVariables false
set_option linter.unusedSimpArgs false
namespace Go.Proofs.YtgkhfpkfjajdjaaDoor
open Go.RowKit
set_option maxHeartbeats 4000000
set_option maxRecDepth 100000

/-- the method, for whatever the body's pack does -/
theorem dns_genericSVCB (K : KindM) (w : World) (b : Nat) (mv cv : Value) (pre : Bytes) (id bits : Nat) (m : MSt) (h : BM w b mv cv pre id bits m) (r : RecM) (hty : K.type r < 65536) (hcl : r.cls < 65536) (httl : r.ttl < 4294967296) (hln : r.len < 65536) (bc : List Value) (hbc : ∀ u ∈ bc, u.oneCell' = true) (LB : Nat) (I : World → Value → Prop)
    (hpack : BodyP2 79 82 bc (K.body r) LB I) (hlb : ∀ pos c o c', K.body r pos c = .ok o c' → o.length ≤ LB) (hcok : ∀ pos c, CompOk c → CompOk (K.body r pos c).comp) (hI : ∀ w' mv', Chg (Foot2 mv cv) w w' → AtOld w mv mv' → I w' mv')
    (hlen : (pre ++ m.out).length + 2000 + LB ≤ 200000000000000) (hE : Errs w) :
    Calls Tryd.prog 60 #[.pointer (some ⟨b, 0, none⟩), .agg (rhCells (r.name.take 255) (K.type r) r.cls r.ttl r.len).toArray, .agg bc.toArray] w (ResPost w b mv cv pre id bits K m r) := by
  have hnm : (r.name.take 255).length ≤ 255 := by simp; omega
  generalize hnme : r.name.take 255 = nm at *
  refine calls_of_WC Tryd.func60 rfl Tryd.ntmps60 rfl ?_
  refine GO ?_
  refine WL_box vv ?_
  intro bh wh hbh hh gh
  refine WL_box vv ?_
  intro bb wb hbb hb gb
  have g0 := gh.trans gb
  have H0 := h.grow g0
  have hE0 := hE.grow g0
  have hh0 := gb.kept hh
  refine GO ?_
  refine WL_fun rfl ((dns_checkResourceSection wb b mv cv pre id bits m H0 hE0).mono ?_)
  rintro e w1 ⟨v, rfl, rfl, hv⟩
  refine ⟨_, rfl, ?_⟩
  by_cases h3 : m.sec < 3
  · rw [if_pos h3] at hv
    obtain ⟨hv, tv, p, rfl⟩ := hv
    have e1 : m.rec_ K r = (.early, m) := by unfold MSt.rec_; rw [if_pos h3]
    refine GO ?_
    refine WL_neqNil vv ?_
    refine RUN ?_
    refine ret1 (v := .iface tv p) Tryd.results60 rfl ⟨_, rfl, ?_, ?_⟩
    · rw [e1]; exact hv
    · rw [e1]; exact BTo.of_grow g0 H0.refl
  rw [if_neg h3] at hv
  by_cases h5 : 5 < m.sec
  · rw [if_pos h5] at hv
    obtain ⟨hv, tv, p, rfl⟩ := hv
    have e1 : m.rec_ K r = (.done, m) := by unfold MSt.rec_; rw [if_neg h3, if_pos h5]
    refine GO ?_
    refine WL_neqNil vv ?_
    refine RUN ?_
    refine ret1 (v := .iface tv p) Tryd.results60 rfl ⟨_, rfl, ?_, ?_⟩
    · rw [e1]; exact hv
    · rw [e1]; exact BTo.of_grow g0 H0.refl
  rw [if_neg h5] at hv
  subst hv
  have hrec : m.rec_ K r = (match packN nm m.out.length m.comp with
      | .bad c => (.other, { m with comp := c })
      | .ok o c => match K.body r (m.out.length + o.length + 10) c with
        | .bad c => (.other, { m with comp := c })
        | .ok b c => if 65535 < b.length then (.other, { m with comp := c }) else if m.count = 65535 then (.other, { m with comp := c }) else
          (.none, { ({ m with comp := c } : MSt).counted with out := m.out ++ o ++ two (K.type r) ++ two r.cls ++ four r.ttl ++ two b.length ++ b })) := by
    unfold MSt.rec_
    rw [if_neg h3, if_neg h5, hnme]
    rfl
  unfold ResPost
  rw [hrec]
  refine GO ?_
  refine WL_neqNil0 vv ?_
  refine RUN ?_
  have hh1' := hh0
  have G1 : Grows w wb := g0
  have H1 := h.grow G1
  have hE1 := hE.grow G1
  have hb1 := hb
  refine GO ?_
  refine WC_seq (WC_draws (fun w' => w'.heap[b]? = some (.cells #[mv, .int .u8 (m.sec : Int), .int .u16 (id : Int), .int .u16 (bits : Int), .int .u16 (m.q : Int), .int .u16 (m.an : Int), .int .u16 (m.ns : Int), .int .u16 (m.ar : Int), .int .i64 (pre.length : Int), cv] 110 (0, 0))) (by kernel_rfl) (fun w1 g => g.kept H1.cells) ?_)
  intro w2 g2 hS2
  have H2 := H1.grow g2
  have hE2 := hE1.grow g2
  have hb2 := g2.kept hb1
  have G2 := G1.trans g2
  refine WT 0 ?_
  refine WT 1 ?_
  refine WT 2 ?_
  refine WT 3 ?_
  refine WT 4 ?_
  refine WT 5 ?_
  refine WT 6 ?_
  refine WT 7 ?_
  refine WT 8 ?_
  refine WT 9 ?_
  refine WT 10 ?_
  refine WT 11 ?_
  refine WD_one (c := 12) (by kernel_rfl) rfl ?_
  have hpos : (pre ++ m.out).length - pre.length = m.out.length := by simp
  refine WL_fun rfl ((dns_RH_pack w2 bh nm (K.type r) r.cls r.ttl r.len hnm hty hcl httl hln (g2.kept hh1') mv cv (pre ++ m.out) pre.length (by simp) H2.own m.comp H2.comp h.ck (by omega) hE2).mono ?_)
  intro e w3 hP
  rw [hpos] at hP
  have hck3 := packN_comp nm m.out.length m.comp h.ck
  cases hpk : packN nm m.out.length m.comp with
  | bad c' =>
    rw [hpk] at hP hck3
    obtain ⟨v, nn, tv, p, rfl, hI, P3⟩ := hP
    have hS3 := P3.kept H2.comp hS2 (by decide)
    refine ⟨_, rfl, WL_nil ⟨hS3, ?_⟩⟩
    refine WT 13 ?_
    refine WT 14 ?_
    refine WT 15 ?_
    refine WT 16 ?_
    refine WT 17 ?_
    refine WT 18 ?_
    refine WT 19 ?_
    refine WD_done (by kernel_rfl) ?_
    refine GO ?_
    refine WL_neqNil vv ?_
    refine RUN ?_
    refine WL_build (vs := [(0, .string ⟨#[82, 101, 115, 111, 117, 114, 99, 101, 72, 101, 97, 100, 101, 114]⟩), (1, .iface tv p)]) (l := [.string ⟨#[82, 101, 115, 111, 117, 114, 99, 101, 72, 101, 97, 100, 101, 114]⟩, .iface tv p]) (EvL.eq ⟨rfl, vv, rfl, vv, trivial⟩) ⟨⟨_, rfl⟩, ⟨_, rfl⟩, trivial⟩ (by kernel_rfl) ?_
    refine WL_box vv ?_
    intro b4 w4 hb4 h4 g4
    refine WL_y (Y_iface Tryd.underlying148 rfl vv) ?_
    refine GO ?_
    refine ret1 (v := .iface 148 (.pointer (some ⟨b4, 0, none⟩))) Tryd.results60 rfl ⟨_, rfl, ErrV.nested _, ?_⟩
    exact BTo.of_grow G2 ⟨mv, cv, H2.pk (P3.grow g4) hck3, (P3.grow g4).footC b, fun _ _ h => h⟩
  | ok out c' =>
    rw [hpk] at hP hck3
    obtain ⟨mv3, rfl, P3⟩ := hP
    have hol := packN_length nm _ _ _ _ hpk
    have hS3 := P3.kept H2.comp hS2 (by decide)
    have hb3 := P3.kept H2.comp hb2 (by decide)
    have hE3 := hE2.pk P3 H2.comp
    have hh3 := P3.kept H2.comp (g2.kept hh1') (by decide)
    have hl3 : (pre ++ m.out ++ (out ++ rhB (K.type r) r.cls r.ttl r.len)).length = (pre ++ m.out).length + out.length + 10 := by simp only [List.length_append, rhB_length]; omega
    refine ⟨_, rfl, WL_nil ⟨hS3, ?_⟩⟩
    refine WT 13 ?_
    refine WT 14 ?_
    refine WT 15 ?_
    refine WT 16 ?_
    refine WT 17 ?_
    refine WT 18 ?_
    refine WT 19 ?_
    refine WD_done (by kernel_rfl) ?_
    obtain ⟨ao3, cap3, rfl⟩ := P3.own.reads.value
    refine GO ?_
    refine WL_neqNil0 vv ?_
    refine RUN ?_
    refine WC_seq (WC_draws (fun w' => w'.heap[b]? = some (.cells #[mv, .int .u8 (m.sec : Int), .int .u16 (id : Int), .int .u16 (bits : Int), .int .u16 (m.q : Int), .int .u16 (m.an : Int), .int .u16 (m.ns : Int), .int .u16 (m.ar : Int), .int .i64 (pre.length : Int), cv] 110 (0, 0))) (by kernel_rfl) (fun w1 g => g.kept hS3) ?_)
    intro w4 g4 hS4
    have P4 := P3.grow g4
    refine WT 0 ?_
    refine WT 1 ?_
    refine WT 2 ?_
    refine WT 3 ?_
    refine WT 4 ?_
    refine WT 5 ?_
    refine WT 6 ?_
    refine WT 7 ?_
    refine WT 8 ?_
    refine WD_one (c := 9) (by kernel_rfl) rfl ?_
    have hpos4 : (pre ++ m.out ++ (out ++ rhB (K.type r) r.cls r.ttl r.len)).length - pre.length = m.out.length + out.length + 10 := by rw [hl3, List.length_append]; omega
    refine WL_fun rfl ((hpack w4 bb _ cv _ pre.length c' (g4.kept hb3) (by rw [hl3, List.length_append]; omega) P4.own P4.comp hck3 (by rw [hl3]; omega) (hE3.grow g4) (hI _ _ ((Chg.of_below G2 (Foot2 mv cv)).trans (P3.chg.trans (Chg.of_below g4 (Foot2 mv cv)) (fun _ _ h => h)) (fun _ _ h => h)) (P3.at_.imp (fun h => h) (fun ⟨k, hk, e⟩ => ⟨k, Nat.le_trans G2.size hk, e⟩)))).mono ?_)
    intro e w5 hP5
    rw [hpos4] at hP5
    have hck5 := hcok (m.out.length + out.length + 10) c' hck3
    cases hbd : K.body r (m.out.length + out.length + 10) c' with
    | bad c5 =>
      rw [hbd] at hP5 hck5
      obtain ⟨v, tv, p, rfl, hI, P5⟩ := hP5
      have P5' := (P4.trans P5 H2.comp (List.prefix_append _ _)).back
      have hS5 := P5'.kept H2.comp hS2 (by decide)
      refine ⟨_, rfl, WL_nil ⟨hS5, ?_⟩⟩
      refine WT 10 ?_
      refine WT 11 ?_
      refine WT 12 ?_
      refine WT 13 ?_
      refine WT 14 ?_
      refine WD_done (by kernel_rfl) ?_
      refine GO ?_
      refine WL_neqNil vv ?_
      refine RUN ?_
      refine WL_build (vs := [(0, .string ⟨#[82, 101, 115, 111, 117, 114, 99, 101, 66, 111, 100, 121]⟩), (1, .iface tv p)]) (l := [.string ⟨#[82, 101, 115, 111, 117, 114, 99, 101, 66, 111, 100, 121]⟩, .iface tv p]) (EvL.eq ⟨rfl, vv, rfl, vv, trivial⟩) ⟨⟨_, rfl⟩, ⟨_, rfl⟩, trivial⟩ (by kernel_rfl) ?_
      refine WL_box vv ?_
      intro b6 w6 hb6 h6 g6
      refine WL_y (Y_iface Tryd.underlying148 rfl vv) ?_
      refine GO ?_
      refine ret1 (v := .iface 148 (.pointer (some ⟨b6, 0, none⟩))) Tryd.results60 rfl ⟨_, rfl, ?_, ?_⟩
      · simp only [hbd]; exact ErrV.nested _
      · simp only [hbd]
        exact BTo.of_grow G2 ⟨mv, cv, H2.pk (P5'.grow g6) hck5, (P5'.grow g6).footC b, fun _ _ h => h⟩
    | ok bo c5 =>
      rw [hbd] at hP5 hck5
      obtain ⟨mv5, rfl, P5⟩ := hP5
      have hbl := hlb _ _ _ _ hbd
      have P5' := P4.trans P5 H2.comp (List.prefix_append _ _)
      have hS5 := P5'.kept H2.comp hS2 (by decide)
      have hh5 := P5'.kept H2.comp (g2.kept hh1') (by decide)
      have hE5 := hE2.pk P5' H2.comp
      refine ⟨_, rfl, WL_nil ⟨hS5, ?_⟩⟩
      refine WT 10 ?_
      refine WT 11 ?_
      refine WT 12 ?_
      refine WT 13 ?_
      refine WT 14 ?_
      refine WD_done (by kernel_rfl) ?_
      refine GO ?_
      refine WL_neqNil0 vv ?_
      refine RUN ?_
      have hsplit : pre ++ m.out ++ (out ++ rhB (K.type r) r.cls r.ttl r.len) ++ bo = (pre ++ m.out ++ out ++ (two (K.type r) ++ two r.cls ++ four r.ttl)) ++ (two r.len ++ bo) := by simp [rhB]
      have hAl : (pre ++ m.out ++ out ++ (two (K.type r) ++ two r.cls ++ four r.ttl)).length = (pre ++ m.out).length + out.length + 8 := by simp only [List.length_append, two_length, four_length]
      have Q5 := ((Pk.refl h.own h.comp).grow G2).trans P5' h.comp (List.prefix_refl _)
      rw [hsplit] at Q5
      have hfix := dns_fixLen w w5 bh nm (K.type r) r.cls r.ttl r.len hnm hh5 mv cv mv5 (pre ++ m.out) _ bo c5 Q5 (by rw [List.append_assoc]; exact List.prefix_append _ _) (by simp only [List.length_append, two_length, four_length] at hlen ⊢; omega) hE5 hbh
      rw [hAl] at hfix
      refine WL_fun (vs := [.pointer (some ⟨bh, 0, none⟩), mv5, .int .i64 (((pre ++ m.out).length + out.length + 8 : Nat) : Int), .int .i64 (((pre ++ m.out).length + out.length + 8 + 2 : Nat) : Int)]) ?_ (hfix.mono ?_)
      · have e8 : (pre ++ m.out ++ (out ++ rhB (K.type r) r.cls r.ttl r.len)).length = (pre ++ m.out).length + out.length + 8 + 2 := by rw [hl3]
        rw [← e8]
        rfl
      intro e w6 hF
      by_cases hbig : 65535 < bo.length
      · rw [if_pos hbig] at hF
        obtain ⟨⟨tv, p, rfl, hI⟩, P6⟩ := hF
        refine ⟨_, rfl, ?_⟩
        refine GO ?_
        refine WL_neqNil vv ?_
        refine RUN ?_
        refine ret1 (v := .iface tv p) Tryd.results60 rfl ⟨_, rfl, ?_, ?_⟩
        · simp only [hbd, if_pos hbig]; exact ErrV.other hI
        · simp only [hbd, if_pos hbig]
          exact ⟨mv, cv, h.pk P6 hck5, P6.footC b, fun _ _ h => h⟩
      rw [if_neg hbig] at hF
      obtain ⟨rfl, P6⟩ := hF
      have H6 := h.pk P6 hck5
      have hS6 := P6.kept h.comp h.cells (by decide)
      refine ⟨_, rfl, ?_⟩
      refine GO ?_
      refine WL_neqNil0 vv ?_
      refine RUN ?_
      refine WL_fun rfl ((dns_increment w6 b mv cv pre id bits _ H6 (by simp only; omega) (by simp only; omega) (hE.pk P6 h.comp)).mono ?_)
      intro e w7 hI
      have hcnt : ({ m with comp := c5 } : MSt).count = m.count := rfl
      rw [hcnt] at hI
      by_cases hfull : m.count = 65535
      · rw [if_pos hfull] at hI
        obtain ⟨⟨tv, p, rfl, hI⟩, rfl⟩ := hI
        refine ⟨_, rfl, ?_⟩
        refine GO ?_
        refine WL_neqNil vv ?_
        refine RUN ?_
        refine ret1 (v := .iface tv p) Tryd.results60 rfl ⟨_, rfl, ?_, ?_⟩
        · simp only [hbd, if_neg hbig, if_pos hfull]; exact ErrV.other hI
        · simp only [hbd, if_neg hbig, if_pos hfull]
          exact ⟨mv, cv, H6, P6.footC b, fun _ _ h => h⟩
      rw [if_neg hfull] at hI
      obtain ⟨rfl, H7, hw7⟩ := hI
      refine ⟨_, rfl, ?_⟩
      refine GO ?_
      refine WL_neqNil0 vv ?_
      refine RUN ?_
      refine WL_store1 vv vv H7.cells (by simp) (by obtain ⟨ao, cp, e⟩ := P6.own.reads.value; rw [e]; rfl) ?_
      intro w8 hw8 h8
      refine GO ?_
      have ho7 : Own w7 mv5 (pre ++ (m.out ++ out ++ two (K.type r) ++ two r.cls ++ four r.ttl ++ two bo.length ++ bo)) := by
        have := P6.own.wrote hw7 (Own.ne P6.own hS6 (by decide))
        simpa using this
      have hl12 := h.at_.ok
      unfold BSt.ok bst at hl12
      simp only [List.length_append] at hl12
      have H8 := H7.take ho7 (by simp only [List.length_append]; omega) hw8 h8
      refine ret1 (v := .nilIface) Tryd.results60 rfl ⟨_, rfl, ?_, ?_⟩
      · simp only [hbd, if_neg hbig, if_neg hfull]; rfl
      · simp only [hbd, if_neg hbig, if_neg hfull]
        refine ⟨mv5, cv, H8, ?_, ?_⟩
        · exact ((P6.footC b).trans hw7 (fun k _ e => .inl e)).trans hw8 (fun k _ e => .inl e)
        · rintro k hk (e | e | e)
          · exact .inl e
          · rcases P6.at_ with hat | ⟨j, hj, hat⟩
            · exact .inr (.inl (by rw [← hat]; exact e))
            · rw [hat] at e; cases e; omega
          · exact .inr (.inr e)
end Go.Proofs.YtgkhfpkfjajdjaaDoor
