/- The reference's messages: which can be written, and how. -/
import Derived.Test.YtgkhfpkfjajdjaaDoorG3
import Derived.Test.YtgkhfpkfjajdjaaDoorG5
import Derived.Test.YtgkhfpkfjajdjaaDoorG1
set_option linter.unusedVariables false
set_option linter.unusedSimpArgs false
namespace Go.Proofs.YtgkhfpkfjajdjaaDoor
open Go.RowKit
set_option maxHeartbeats 1000000
set_option maxRecDepth 100000

/-! how a message lies in memory -/
def msgCells (h : HeadM) (av v1 v2 v3 : Value) : List Value := [.int .u16 (h.id : Int), .bool h.qr, .int .u16 (h.op : Int), .bool h.aa, .bool h.tc, .bool h.rd, .bool h.ra, .bool h.ad, .bool h.cd, .int .u16 (h.code : Int), av, v1, v2, v3]
structure HeadV (h : HeadM) : Prop where
  id : h.id < 65536
  op : h.op < 65536
  code : h.code < 65536
structure SRecs (w : World) (k : Nat) (v : Value) (l : List (RecM × RecV)) : Prop where
  at_ : RecsAt w v l
  kind : ∀ x ∈ l, x.1.kind = (k : Int)
theorem SRecs.grow {w w' : World} {k : Nat} {v : Value} {l : List (RecM × RecV)} (h : SRecs w k v l) (hg : Grows w w') : SRecs w' k v l := ⟨h.at_.grow hg, h.kind⟩
def recsOf (l : List (RecM × RecV)) : List RecM := l.map (·.1)

/-! bodies: kinds without texts and parameters -/
theorem spec_BodyOk {k : Nat} (hB : BodyC k) (hH : HostC k) (hk7 : k ≠ 7 ∧ k ≠ 11 ∧ k ≠ 12) (w : World) (x : RecM × RecV) (hx : RecAt w x) (hk : x.1.kind = (k : Int)) (hb : hostOk k x.1 = true → (body k x.1).length ≤ 140737488355328) : Calls Tryd.prog 36 #[.agg (recCells x).toArray] w (RetV w (.bool (bodyOk k x.1))) := by
  have hval : bodyOk k x.1 = (hostOk k x.1 && decide ((body k x.1).length < 65536)) := by
    unfold bodyOk
    have h1 : decide (k ≠ 7) = true := by simpa using hk7.1
    have h2 : decide (k ≠ 11 ∧ k ≠ 12) = true := by simpa using hk7.2
    rw [h1, h2]
    rfl
  have e7 : ((k : Int) == 7) = false := by have := hk7.1; simp; omega
  have e11 : ((k : Int) == 11) = false := by have := hk7.2; simp; omega
  have e12 : ((k : Int) == 12) = false := by have := hk7.2; simp; omega
  have htn := hx.ok.texts.1
  simp only [lim] at htn
  obtain ⟨ao, cap, htv⟩ := hx.texts.value
  refine calls_of_WC Tryd.func36 rfl Tryd.ntmps36 rfl ?_
  refine GO ?_
  refine WL_box vv ?_
  intro b0 w0 hb0 h0 g0
  refine GO ?_
  rw [htv]
  refine GO ?_
  refine WC_loop (fun m f w' => ∃ i : Nat, m = x.1.texts.length - i ∧ i ≤ x.1.texts.length ∧ EnvHas f [(1, .pointer (some ⟨b0, 0, none⟩)), (6, .slice ao x.1.texts.length cap), (7, .int .i64 (x.1.texts.length : Int)), (8, .int .i64 (i : Int))] ∧ w0 = w') x.1.texts.length ?_ ?_
  · exact ⟨0, rfl, Nat.zero_le _, ⟨rfl, rfl, rfl, rfl, trivial⟩, rfl⟩
  · rintro m f w2 ⟨i, rfl, hi, he, rfl⟩
    obtain ⟨f, rfl⟩ := he.form
    refine GO ?_
    first | refine WC_sif vv (fun hc => ?_) (fun hc => ?_) | refine WC_if vv (fun hc => ?_) (fun hc => ?_)
    · have hlt : i < x.1.texts.length := by simpa using hc
      refine GO ?_
      obtain ⟨b2, o2, cap2, hv2, hcell⟩ := (hx.texts.grow g0).form (by simp; omega)
      rw [htv] at hv2
      cases hv2
      refine GO ?_
      refine WL_index vv vv hlt ?_
      refine WL_load_cell (v := strOf x.1.texts[i]) vv (by rw [Nat.mul_one]; exact hcell i _ (by simp [hlt])) ?_
      refine GO ?_
      rw [hk, e7]
      refine RUN ?_
      refine WL_inc vv (by omega) ?_
      refine GO ?_
      exact ⟨x.1.texts.length - (i + 1), by omega, i + 1, rfl, hlt, ⟨rfl, rfl, rfl, rfl, trivial⟩, rfl⟩
    · refine GO ?_
      rw [hk, e7]
      refine RUN ?_
      rw [hk, e11]
      refine RUN ?_
      rw [hk, e12]
      refine RUN ?_
      refine WL_loadRow vv h0 rfl ?_
      refine WL_fun rfl ((hH _ _ (hx.grow g0) hk).mono ?_)
      rintro e w3 ⟨rfl, g3⟩
      refine ⟨_, rfl, ?_⟩
      refine GO ?_
      cases hho : hostOk k x.1 with
      | false =>
        refine RUN ?_
        refine ret1 (v := .bool false) Tryd.results36 rfl ⟨?_, g0.trans g3⟩
        rw [hval, hho]
        rfl
      | true =>
        refine WL_wanted rfl vv ?_
        refine WL_loadRow vv (g3.kept h0) rfl ?_
        refine WL_wanted rfl vv ?_
        refine WL_fun rfl ((hB _ _ ((hx.grow g0).grow g3) hk (hb hho)).mono ?_)
        rintro e w4 ⟨v4, rfl, a4, g4⟩
        refine ⟨_, rfl, ?_⟩
        obtain ⟨ao4, cap4, rfl⟩ := a4.reads.value
        refine RUN ?_
        have e63 : decide (((body k x.1).length : Int) < 65536) = decide ((body k x.1).length < 65536) := by apply decide_eq_decide.2; omega
        refine ret1 (v := .bool (decide (((body k x.1).length : Int) < 65536))) Tryd.results36 rfl ⟨?_, g0.trans (g3.trans g4)⟩
        rw [hval, hho, e63]
        rfl
end Go.Proofs.YtgkhfpkfjajdjaaDoor

/- The reference's messages: which can be written. -/
namespace Go.Proofs.YtgkhfpkfjajdjaaDoor
open Go.RowKit
set_option maxHeartbeats 1000000
set_option maxRecDepth 100000

def BodyOkC (k : Nat) : Prop := ∀ (w : World) (x : RecM × RecV), RecAt w x → x.1.kind = (k : Int) → Calls Tryd.prog 36 #[.agg (recCells x).toArray] w (RetV w (.bool (bodyOk k x.1)))
theorem recCells_one {w : World} {x : RecM × RecV} (h : RecAt w x) : ∀ u ∈ recCells x, u.oneCell' = true := by
  obtain ⟨a1, c1, e1⟩ := ReadsAt.value h.data
  obtain ⟨a2, c2, e2⟩ := ReadsAt.value h.texts
  obtain ⟨l, _, hl, _⟩ := h.pairs.at_
  obtain ⟨a3, c3, e3⟩ := hl.value
  simp [recCells, e1, e2, e3, Value.oneCell']
theorem sumB_snoc (k : Nat) (a : List RecM) (r : RecM) : sumB k (a ++ [r]) = sumB k a + (body k r).length := by simp [sumB]
theorem sumB_le (k : Nat) : ∀ a : List RecM, a.all (recOk k) = true → sumB k a ≤ 65536 * a.length
  | [], _ => by simp [sumB]
  | r :: a, h => by
    rw [List.all_cons, Bool.and_eq_true] at h
    have h1 := sumB_le k a h.2
    have h2 : (body k r).length < 65536 := by
      have := h.1
      unfold recOk bodyOk at this
      simp only [Bool.and_eq_true, decide_eq_true_eq] at this
      exact this.2.2
    simp only [sumB, List.map_cons, List.sum_cons, List.length_cons] at *
    omega
/-- three slices, each with its records -/
structure Three (w : World) (k : Nat) (vs : List Value) (ls : List (List (RecM × RecV))) : Prop where
  len : vs.length = 3 ∧ ls.length = 3
  at_ : ∀ (j : Nat) (v : Value) (l : List (RecM × RecV)), vs[j]? = some v → ls[j]? = some l → SRecs w k v l
theorem Three.mk3 {w : World} {k : Nat} {v1 v2 v3 : Value} {l1 l2 l3 : List (RecM × RecV)} (h1 : SRecs w k v1 l1) (h2 : SRecs w k v2 l2) (h3 : SRecs w k v3 l3) : Three w k [v1, v2, v3] [l1, l2, l3] := by
  refine ⟨⟨rfl, rfl⟩, fun j v l hv hl => ?_⟩
  match j with
  | 0 => cases hv; cases hl; exact h1
  | 1 => cases hv; cases hl; exact h2
  | 2 => cases hv; cases hl; exact h3
  | j + 3 => simp at hv
theorem Three.grow {w w' : World} {k : Nat} {vs : List Value} {ls : List (List (RecM × RecV))} (h : Three w k vs ls) (hg : Grows w w') : Three w' k vs ls := ⟨h.len, fun j v l hv hl => (h.at_ j v l hv hl).grow hg⟩
theorem Three.one {w : World} {k : Nat} {vs : List Value} {ls : List (List (RecM × RecV))} (h : Three w k vs ls) {v : Value} (hv : v ∈ vs) : v.cells = #[v] := by
  obtain ⟨j, hj, rfl⟩ := List.mem_iff_getElem.1 hv
  have h3 := h.len
  have := h.at_ j vs[j] (ls[j]'(by omega)) (by simp [hj]) (by simp)
  obtain ⟨ao, cap, e⟩ := this.at_.at_.value
  rw [e]
  rfl
theorem flatten_take_le {α : Type} (c : Nat) : ∀ (ls : List (List α)) (j : Nat), (∀ l ∈ ls, l.length ≤ c) → ((ls.take j).flatten).length ≤ j * c
  | [], j, _ => by simp
  | l :: ls, 0, _ => by simp
  | l :: ls, j + 1, h => by
    have h1 := flatten_take_le c ls j (fun x hx => h x (by simp [hx]))
    have h2 := h l (by simp)
    simp only [List.take_succ_cons, List.flatten_cons, List.length_append, Nat.add_mul]
    omega
theorem flatten_take_succ {α : Type} (ls : List (List α)) (j : Nat) (h : j < ls.length) : (ls.take (j + 1)).flatten = (ls.take j).flatten ++ ls[j] := by
  rw [List.take_succ_eq_append_getElem h, List.flatten_append]
  simp
theorem head_cells_eq (h : HeadM) : hcells h = #[.int .u16 (h.id : Int), .bool h.qr, .int .u16 (h.op : Int), .bool h.aa, .bool h.tc, .bool h.rd, .bool h.ra, .bool h.ad, .bool h.cd, .int .u16 (h.code : Int)] := rfl
theorem spec_Ok {k : Nat} (hB : BodyC k) (hO : BodyOkC k) (w : World) (h : HeadM) (av v1 v2 v3 : Value) (qs : List AskM) (l1 l2 l3 : List (RecM × RecV)) (ha : AsksAt w av qs) (h1 : SRecs w k v1 l1) (h2 : SRecs w k v2 l2) (h3 : SRecs w k v3 l3) :
    Calls Tryd.prog 16 #[.agg (msgCells h av v1 v2 v3).toArray] w fun e w' => ∃ b, e = .returned (.bool b) ∧ Grows w w' ∧ (b = true → MsgOk k ⟨h, qs, recsOf l1, recsOf l2, recsOf l3⟩) := by
  obtain ⟨aa, acap, rfl⟩ := ha.at_.value
  have hna := ha.len
  simp only [lim] at hna
  have hT := Three.mk3 h1 h2 h3
  have hcap : ∀ l ∈ [l1, l2, l3], l.length ≤ 837723144972 := by
    have c1 := h1.at_.len
    have c2 := h2.at_.len
    have c3 := h3.at_.len
    simp only [lim] at c1 c2 c3
    intro l hl
    simp only [List.mem_cons, List.not_mem_nil, or_false] at hl
    rcases hl with rfl | rfl | rfl <;> omega
  obtain ⟨ao1, cap1, rfl⟩ := h1.at_.at_.value
  obtain ⟨ao2, cap2, rfl⟩ := h2.at_.at_.value
  obtain ⟨ao3, cap3, rfl⟩ := h3.at_.at_.value
  generalize hv1 : Value.slice ao1 l1.length cap1 = v1 at *
  generalize hv2 : Value.slice ao2 l2.length cap2 = v2 at *
  generalize hv3 : Value.slice ao3 l3.length cap3 = v3 at *
  refine calls_of_WC Tryd.func16 rfl Tryd.ntmps16 rfl ?_
  refine GO ?_
  refine WL_box vv ?_
  intro b0 w0 hb0 h0 g0
  refine GO ?_
  refine WC_loop (fun m f w' => ∃ i : Nat, m = qs.length - i ∧ i ≤ qs.length ∧ EnvHas f [(1, .pointer (some ⟨b0, 0, none⟩)), (3, .int .i64 0), (11, .slice aa qs.length acap), (12, .int .i64 (qs.length : Int)), (13, .int .i64 (i : Int))] ∧ Grows w0 w' ∧ ((qs.take i).all fun a => nameOk a.name) = true) qs.length ?_ ?_
  · exact ⟨0, rfl, Nat.zero_le _, ⟨rfl, rfl, rfl, rfl, rfl, trivial⟩, Grows.refl _, by simp⟩
  rintro m f w2 ⟨i, rfl, hi, he, hg, hall⟩
  obtain ⟨f, rfl⟩ := he.form
  refine GO ?_
  first | refine WC_sif vv (fun hc => ?_) (fun hc => ?_) | refine WC_if vv (fun hc => ?_) (fun hc => ?_)
  · have hlt : i < qs.length := by simpa using hc
    refine GO ?_
    obtain ⟨b2, o2, cap2, hv2, hcell⟩ := ((ha.grow g0).grow hg).at_.part (by decide) hlt
    cases hv2
    refine GO ?_
    refine WL_index vv vv hlt ?_
    refine WL_loadAgg (l := askCells qs[i]) vv rfl hcell ?_
    refine WL_alloc ?_
    intro b5 w5 hb5 h5 g5
    refine WL_storeRow (new := (askCells qs[i]).toArray) vv vv h5 rfl rfl (by simp [askCells, Value.oneCell']) ?_
    intro w6 hw6 h6
    have G6 : Grows w0 w6 := (hg.trans g5).wrote hw6 (by have := hg.size; omega)
    refine GO ?_
    refine WL_fun rfl ((spec_NameOk _ _ (ha.ok qs[i] (by simp)).name).mono ?_)
    rintro e w7 ⟨rfl, rfl⟩
    refine ⟨_, rfl, ?_⟩
    refine RUN ?_
    cases hn : nameOk qs[i].name with
    | false =>
      refine RUN ?_
      exact ret1 (v := .bool false) Tryd.results16 rfl ⟨false, rfl, g0.trans G6, fun h => by cases h⟩
    | true =>
      refine RUN ?_
      refine WL_inc vv (by omega) ?_
      refine GO ?_
      refine ⟨qs.length - (i + 1), by omega, i + 1, rfl, hlt, ⟨rfl, rfl, rfl, rfl, rfl, trivial⟩, G6, ?_⟩
      rw [List.take_succ_eq_append_getElem hlt, List.all_append, hall]
      simp [hn]
  have hge : i = qs.length := by have := of_decide_eq_false hc; omega
  subst hge
  rw [List.take_length] at hall
  have hasks := hall
  have g1 := hg
  have h0' := g1.kept h0
  clear hall hg hi hc he
  refine GO ?_
  refine WL_slice (vs := [v1, v2, v3]) rfl (by simp) rfl (fun v hv => by rw [hT.one hv]; rfl) rfl ?_
  intro b2 w3 hb2 hs2 g2
  have hs2' : w3.heap[b2]? = some (.cells #[v1, v2, v3] 40 (0, 0)) := by
    rw [hs2, flat_one _ (fun v hv => hT.one hv)]
  have hT2 := ((hT.grow g0).grow g1).grow g2
  have h0'' := g2.kept h0'
  refine GO ?_
  refine WC_loop (fun m f w' => ∃ j : Nat, m = 3 - j ∧ j ≤ 3 ∧ EnvHas f [(1, .pointer (some ⟨b0, 0, none⟩)), (3, .int .i64 (sumB k (recsOf ([l1, l2, l3].take j).flatten) : Nat)), (28, .slice (some ⟨b2, 0, none⟩) 3 3), (29, .int .i64 3), (30, .int .i64 (j : Int))] ∧ Grows w3 w' ∧ (recsOf ([l1, l2, l3].take j).flatten).all (recOk k) = true) 3 ?_ ?_
  · exact ⟨0, rfl, Nat.zero_le _, ⟨rfl, rfl, rfl, rfl, rfl, trivial⟩, Grows.refl _, by simp [recsOf]⟩
  rintro m f w4 ⟨j, rfl, hj, he, hg, hall⟩
  obtain ⟨f, rfl⟩ := he.form
  refine GO ?_
  first | refine WC_sif vv (fun hc => ?_) (fun hc => ?_) | refine WC_if vv (fun hc => ?_) (fun hc => ?_)
  · have hlt : j < 3 := by have : (j : Int) < 3 := (by simpa using hc); omega
    obtain ⟨v, hjv⟩ : ∃ v, [v1, v2, v3][j]? = some v := ⟨[v1, v2, v3][j]'(by simpa using hlt), by simp [hlt]⟩
    obtain ⟨l, hjl⟩ : ∃ l, [l1, l2, l3][j]? = some l := ⟨[l1, l2, l3][j]'(by simpa using hlt), by simp [hlt]⟩
    have hrecs := (hT2.grow hg).at_ j v l hjv hjl
    have hflat : ([l1, l2, l3].take (j + 1)).flatten = ([l1, l2, l3].take j).flatten ++ l := by
      rw [flatten_take_succ [l1, l2, l3] j (by simpa using hlt)]
      congr 1
      exact (List.getElem?_eq_some_iff.1 hjl).2
    have hlen0 := flatten_take_le 837723144972 [l1, l2, l3] j hcap
    have hlen1 := hcap _ (List.mem_of_getElem? hjl)
    generalize hD : ([l1, l2, l3].take j).flatten = D at *
    obtain ⟨ao, cap, rfl⟩ := hrecs.at_.at_.value
    refine GO ?_
    refine WL_index vv vv hlt ?_
    refine WL_load vv (hg.kept hs2') (by rw [Nat.zero_add, Nat.mul_one]; exact hjv) ?_
    refine GO ?_
    refine WC_loop (fun m f w' => ∃ i : Nat, m = l.length - i ∧ i ≤ l.length ∧ EnvHas f [(1, .pointer (some ⟨b0, 0, none⟩)), (3, .int .i64 (sumB k (recsOf (D ++ l.take i)) : Nat)), (28, .slice (some ⟨b2, 0, none⟩) 3 3), (29, .int .i64 3), (30, .int .i64 (j : Int)), (34, .slice ao l.length cap), (35, .int .i64 (l.length : Int)), (36, .int .i64 (i : Int))] ∧ Grows w3 w' ∧ (recsOf (D ++ l.take i)).all (recOk k) = true) l.length ?_ ?_
    · exact ⟨0, rfl, Nat.zero_le _, ⟨rfl, by rw [List.take_zero, List.append_nil]; rfl, rfl, rfl, rfl, rfl, rfl, rfl, trivial⟩, hg, by simpa using hall⟩
    rintro m f w5 ⟨i, rfl, hi, he, hg5, hall5⟩
    obtain ⟨f, rfl⟩ := he.form
    refine GO ?_
    first | refine WC_sif vv (fun hc => ?_) (fun hc => ?_) | refine WC_if vv (fun hc => ?_) (fun hc => ?_)
    · have hlti : i < l.length := by simpa using hc
      have hr5 := ((hT2.grow hg5).at_ j _ l hjv hjl)
      have hrec := hr5.at_.recs l[i] (by simp)
      have hkind := hr5.kind l[i] (by simp)
      obtain ⟨b6, o6, cap6, hv6, hcell⟩ := hr5.at_.at_.part (by decide) hlti
      cases hv6
      refine GO ?_
      refine WL_index vv vv hlti ?_
      refine WL_loadAgg (l := recCells l[i]) vv rfl hcell ?_
      refine WL_alloc ?_
      intro b7 w7 hb7 h7 g7
      refine WL_storeRow (new := (recCells l[i]).toArray) vv vv h7 rfl rfl (recCells_one hrec) ?_
      intro w8 hw8 h8
      have G8 : Grows w5 w8 := g7.wrote hw8 (by omega)
      refine GO ?_
      refine WL_fun rfl ((spec_NameOk _ _ hrec.ok.name).mono ?_)
      rintro e w9 ⟨rfl, rfl⟩
      refine ⟨_, rfl, ?_⟩
      refine RUN ?_
      have hsn : recsOf (D ++ l.take (i + 1)) = recsOf (D ++ l.take i) ++ [l[i].1] := by
        rw [List.take_succ_eq_append_getElem hlti]
        simp only [recsOf, List.map_append, List.map_cons, List.map_nil, List.append_assoc]
      have hsum := sumB_le k _ hall5
      have hlenD : (recsOf (D ++ l.take i)).length ≤ 4000000000000 := by simp [recsOf]; omega
      cases hn : nameOk l[i].1.name with
      | false =>
        refine RUN ?_
        exact ret1 (v := .bool false) Tryd.results16 rfl ⟨false, rfl, g0.trans (g1.trans (g2.trans (hg5.trans G8))), fun h => by cases h⟩
      | true =>
        refine RUN ?_
        refine WL_loadRow vv h8 rfl ?_
        refine RUN ?_
        refine WL_fun rfl ((hO _ _ (hrec.grow G8) hkind).mono ?_)
        rintro e w9 ⟨rfl, g9⟩
        refine ⟨_, rfl, ?_⟩
        refine RUN ?_
        cases hbo : bodyOk k l[i].1 with
        | false =>
          refine RUN ?_
          exact ret1 (v := .bool false) Tryd.results16 rfl ⟨false, rfl, g0.trans (g1.trans (g2.trans (hg5.trans (G8.trans g9)))), fun h => by cases h⟩
        | true =>
          have hrok : recOk k l[i].1 = true := by unfold recOk; rw [hn, hbo]; rfl
          have hbl := (recOk_parts hrok).2.2.1
          refine RUN ?_
          refine WL_loadRow vv (g9.kept h8) rfl ?_
          refine WL_fun rfl ((hB _ _ ((hrec.grow G8).grow g9) hkind (by omega)).mono ?_)
          rintro e w10 ⟨v10, rfl, a10, g10⟩
          refine ⟨_, rfl, ?_⟩
          obtain ⟨ao10, cap10, rfl⟩ := a10.reads.value
          refine RUN ?_
          refine WL_add (c := (sumB k (recsOf (D ++ l.take (i + 1))) : Nat)) vv vv (by rw [hsn, sumB_snoc, IntWalk.i64_in _ (by omega)]; push_cast; rfl) ?_
          refine GO ?_
          refine WL_inc vv (by omega) ?_
          refine GO ?_
          refine ⟨l.length - (i + 1), by omega, i + 1, rfl, hlti, ⟨rfl, rfl, rfl, rfl, rfl, rfl, rfl, rfl, trivial⟩, hg5.trans (G8.trans (g9.trans g10)), ?_⟩
          rw [hsn, List.all_append, hall5]
          simp [hrok]
    · have hge : i = l.length := by have := of_decide_eq_false hc; omega
      subst hge
      rw [List.take_length, ← hflat] at hall5
      refine GO ?_
      rw [List.take_length, ← hflat]
      refine WL_inc vv (by omega) ?_
      refine GO ?_
      exact ⟨3 - (j + 1), by omega, j + 1, rfl, hlt, ⟨rfl, rfl, rfl, rfl, rfl, trivial⟩, hg5, hall5⟩
  have hge : j = 3 := by have : ¬ (j : Int) < 3 := (by simpa using hc); omega
  subst hge
  have h04 := hg.kept h0''
  have hrecs : (recsOf l1).all (recOk k) = true ∧ (recsOf l2).all (recOk k) = true ∧ (recsOf l3).all (recOk k) = true := by
    have e : ([l1, l2, l3].take 3).flatten = l1 ++ (l2 ++ l3) := by simp
    rw [e] at hall
    simp only [recsOf, List.map_append, List.all_append, Bool.and_eq_true] at hall
    exact ⟨hall.1, hall.2.1, hall.2.2⟩
  have hsumE : sumB k (recsOf ([l1, l2, l3].take 3).flatten) = sumB k (recsOf l1 ++ recsOf l2 ++ recsOf l3) := by
    simp [recsOf]
  have G : Grows w w4 := g0.trans (g1.trans (g2.trans hg))
  refine GO ?_
  refine WL_loadPart (l := (hcells h).toList) vv h04 rfl rfl ?_
  refine WL_fun rfl ((spec_HeadOk _ _ _ _ _ _ _ _ _ _ _).mono ?_)
  rintro e w9 ⟨rfl, g9⟩
  refine ⟨_, rfl, ?_⟩
  have h09 := Grows.kept g9 h04
  subst hv1 hv2 hv3
  refine GO ?_
  cases c0 : (decide ((h.op : Int) < 16) && decide ((h.code : Int) < 16)) with
  | false =>
    refine RUN ?_
    exact ret1 (v := .bool false) Tryd.results16 rfl ⟨false, rfl, G.trans g9, fun h => by cases h⟩
  | true =>
    refine RUN ?_
    cases c1 : decide ((qs.length : Int) < 60000) with
    | false =>
      refine WL_unw2 rfl vv (by decide) ?_
      refine WL_unw2 rfl vv (by decide) ?_
      refine WL_unw2 rfl vv (by decide) ?_
      refine WL_unw2 rfl vv (by decide) ?_
      refine WL_y (Y_pick vv vv vv) ?_
      refine WL_move vv ?_
      refine WL_unw2 rfl vv (by decide) ?_
      refine WL_unw2 rfl vv (by decide) ?_
      refine WL_unw2 rfl vv (by decide) ?_
      refine WL_unw2 rfl vv (by decide) ?_
      refine WL_y (Y_pick vv vv vv) ?_
      refine WL_move vv ?_
      refine WL_unw2 rfl vv (by decide) ?_
      refine WL_unw2 rfl vv (by decide) ?_
      refine WL_unw2 rfl vv (by decide) ?_
      refine WL_unw2 rfl vv (by decide) ?_
      refine WL_y (Y_pick vv vv vv) ?_
      refine WL_move vv ?_
      refine WL_unw2 rfl vv (by decide) ?_
      refine WL_unw2 rfl vv (by decide) ?_
      refine WL_y (Y_pick vv vv vv) ?_
      refine WL_assign vv ?_
      repeat (first | refine WL_nil ?_ | refine WC_ret ?_ | refine then_norm ?_ | refine then_ret ?_ | refine block_norm ?_ | refine block_ret ?_)
      exact ret1 (v := .bool false) Tryd.results16 rfl ⟨false, rfl, G.trans g9, fun h => by cases h⟩
    | true =>
      refine WL_want2 rfl vv (by decide) ?_
      refine WL_field vv ?_
      refine WL_want2 rfl vv (by decide) ?_
      refine WL_load vv h09 (by rfl) ?_
      refine WL_want2 rfl vv (by decide) ?_
      refine WL_len vv ?_
      refine WL_want2 rfl vv (by decide) ?_
      refine WL_lss vv vv ?_
      refine WL_y (Y_pick vv vv vv) ?_
      refine WL_move vv ?_
      cases c2 : decide ((l1.length : Int) < 60000) with
      | false =>
        refine WL_unw2 rfl vv (by decide) ?_
        refine WL_unw2 rfl vv (by decide) ?_
        refine WL_unw2 rfl vv (by decide) ?_
        refine WL_unw2 rfl vv (by decide) ?_
        refine WL_y (Y_pick vv vv vv) ?_
        refine WL_move vv ?_
        refine WL_unw2 rfl vv (by decide) ?_
        refine WL_unw2 rfl vv (by decide) ?_
        refine WL_unw2 rfl vv (by decide) ?_
        refine WL_unw2 rfl vv (by decide) ?_
        refine WL_y (Y_pick vv vv vv) ?_
        refine WL_move vv ?_
        refine WL_unw2 rfl vv (by decide) ?_
        refine WL_unw2 rfl vv (by decide) ?_
        refine WL_y (Y_pick vv vv vv) ?_
        refine WL_assign vv ?_
        repeat (first | refine WL_nil ?_ | refine WC_ret ?_ | refine then_norm ?_ | refine then_ret ?_ | refine block_norm ?_ | refine block_ret ?_)
        exact ret1 (v := .bool false) Tryd.results16 rfl ⟨false, rfl, G.trans g9, fun h => by cases h⟩
      | true =>
        refine WL_want2 rfl vv (by decide) ?_
        refine WL_field vv ?_
        refine WL_want2 rfl vv (by decide) ?_
        refine WL_load vv h09 (by rfl) ?_
        refine WL_want2 rfl vv (by decide) ?_
        refine WL_len vv ?_
        refine WL_want2 rfl vv (by decide) ?_
        refine WL_lss vv vv ?_
        refine WL_y (Y_pick vv vv vv) ?_
        refine WL_move vv ?_
        cases c3 : decide ((l2.length : Int) < 60000) with
        | false =>
          refine WL_unw2 rfl vv (by decide) ?_
          refine WL_unw2 rfl vv (by decide) ?_
          refine WL_unw2 rfl vv (by decide) ?_
          refine WL_unw2 rfl vv (by decide) ?_
          refine WL_y (Y_pick vv vv vv) ?_
          refine WL_move vv ?_
          refine WL_unw2 rfl vv (by decide) ?_
          refine WL_unw2 rfl vv (by decide) ?_
          refine WL_y (Y_pick vv vv vv) ?_
          refine WL_assign vv ?_
          repeat (first | refine WL_nil ?_ | refine WC_ret ?_ | refine then_norm ?_ | refine then_ret ?_ | refine block_norm ?_ | refine block_ret ?_)
          exact ret1 (v := .bool false) Tryd.results16 rfl ⟨false, rfl, G.trans g9, fun h => by cases h⟩
        | true =>
          refine WL_want2 rfl vv (by decide) ?_
          refine WL_field vv ?_
          refine WL_want2 rfl vv (by decide) ?_
          refine WL_load vv h09 (by rfl) ?_
          refine WL_want2 rfl vv (by decide) ?_
          refine WL_len vv ?_
          refine WL_want2 rfl vv (by decide) ?_
          refine WL_lss vv vv ?_
          refine WL_y (Y_pick vv vv vv) ?_
          refine WL_move vv ?_
          cases c4 : decide ((l3.length : Int) < 60000) with
          | false =>
            refine WL_unw2 rfl vv (by decide) ?_
            refine WL_unw2 rfl vv (by decide) ?_
            refine WL_y (Y_pick vv vv vv) ?_
            refine WL_assign vv ?_
            repeat (first | refine WL_nil ?_ | refine WC_ret ?_ | refine then_norm ?_ | refine then_ret ?_ | refine block_norm ?_ | refine block_ret ?_)
            exact ret1 (v := .bool false) Tryd.results16 rfl ⟨false, rfl, G.trans g9, fun h => by cases h⟩
          | true =>
            refine WL_want2 rfl vv (by decide) ?_
            refine WL_move vv ?_
            refine WL_want2 rfl vv (by decide) ?_
            refine WL_lss vv vv ?_
            refine WL_y (Y_pick vv vv vv) ?_
            refine WL_assign vv ?_
            repeat (first | refine WL_nil ?_ | refine WC_ret ?_ | refine then_norm ?_ | refine then_ret ?_ | refine block_norm ?_ | refine block_ret ?_)
            refine ret1 (v := .bool (decide ((sumB k (recsOf ([l1, l2, l3].take 3).flatten) : Nat) < (16777216 : Int)))) Tryd.results16 rfl ⟨_, rfl, G.trans g9, fun c5 => ?_⟩
            rw [Bool.and_eq_true] at c0
            have d0 := of_decide_eq_true c0.1
            have d0' := of_decide_eq_true c0.2
            have d1 := of_decide_eq_true c1
            have d2 := of_decide_eq_true c2
            have d3 := of_decide_eq_true c3
            have d4 := of_decide_eq_true c4
            have d5 := of_decide_eq_true c5
            rw [hsumE] at d5
            refine ⟨hasks, hrecs.1, hrecs.2.1, hrecs.2.2, ?_, by simp only; omega, by simp only [recsOf, List.length_map]; omega, by simp only [recsOf, List.length_map]; omega, by simp only [recsOf, List.length_map]; omega, by simp only; omega⟩
            unfold headOk
            simp only [Bool.and_eq_true, decide_eq_true_eq]
            omega
end Go.Proofs.YtgkhfpkfjajdjaaDoor

/- The reference's messages, written. -/
namespace Go.Proofs.YtgkhfpkfjajdjaaDoor
open Go.RowKit
set_option maxHeartbeats 1000000
set_option maxRecDepth 100000

theorem headWire_cs (h : HeadM) (a b c d : Nat) : two h.id ++ two h.bits ++ ([a, b, c, d].flatMap fun c => two (low c)) = headWire h a b c d := by
  simp [headWire, hdr, low]
theorem askWire_le (a : AskM) (h : nameOk a.name = true) : (askWire a).length ≤ 260 := by
  have := wire_length h
  have := nameOk_len h
  simp [askWire, two_length]; omega
theorem recWire_le {k : Nat} {r : RecM} (h : recOk k r = true) : (recWire k r).length ≤ 270 + (body k r).length := by
  have h1 := (recOk_parts h).1
  have := wire_length h1
  have := nameOk_len h1
  simp [recWire, two_length, four_length]; omega
theorem asks_le : ∀ qs : List AskM, (qs.all fun a => nameOk a.name) = true → (qs.flatMap askWire).length ≤ 260 * qs.length
  | [], _ => by simp
  | a :: qs, h => by
    rw [List.all_cons, Bool.and_eq_true] at h
    have := asks_le qs h.2
    have := askWire_le a h.1
    simp only [List.flatMap_cons, List.length_append, List.length_cons]
    omega
theorem recs_le (k : Nat) : ∀ rs : List RecM, rs.all (recOk k) = true → (rs.flatMap (recWire k)).length ≤ 270 * rs.length + sumB k rs
  | [], _ => by simp [sumB]
  | r :: rs, h => by
    rw [List.all_cons, Bool.and_eq_true] at h
    have := recs_le k rs h.2
    have := recWire_le h.1
    simp only [sumB, List.flatMap_cons, List.length_append, List.length_cons, List.map_cons, List.sum_cons] at *
    omega
theorem msgWire_le {k : Nat} {M : MsgM} (h : MsgOk k M) : (msgWire k M).length ≤ 100000000 := by
  have h1 := asks_le _ h.asks
  have h2 := recs_le k (M.one ++ M.two ++ M.three) (by rw [List.all_append, List.all_append, h.one, h.two, h.three]; rfl)
  have := h.sum
  have := h.na
  have := h.n1
  have := h.n2
  have := h.n3
  simp only [msgWire, List.length_append, headWire, hdr_length] at *
  omega
theorem spec_MessageWire {k : Nat} (hB : BodyC k) (h13 : k < 14) (w : World) (h : HeadM) (av v1 v2 v3 : Value) (qs : List AskM) (l1 l2 l3 : List (RecM × RecV)) (hid : h.id < 65536) (hop : h.op < 16) (hcode : h.code < 16) (ha : AsksAt w av qs) (h1 : SRecs w k v1 l1) (h2 : SRecs w k v2 l2) (h3 : SRecs w k v3 l3)
    (hbl : ∀ l ∈ [l1, l2, l3], ∀ x ∈ l, (body k x.1).length < 65536) (hlen : (msgWire k ⟨h, qs, recsOf l1, recsOf l2, recsOf l3⟩).length ≤ 140737488355328) :
    Calls Tryd.prog 21 #[.agg (msgCells h av v1 v2 v3).toArray] w (RetB w (msgWire k ⟨h, qs, recsOf l1, recsOf l2, recsOf l3⟩)) := by
  have hM : msgWire k ⟨h, qs, recsOf l1, recsOf l2, recsOf l3⟩ = headWire h qs.length l1.length l2.length l3.length ++ qs.flatMap askWire ++ [l1, l2, l3].flatten.flatMap (fun x => recWire k x.1) := by
    simp [msgWire, recsOf, List.flatMap_map]
  rw [hM] at hlen ⊢
  generalize hA : headWire h qs.length l1.length l2.length l3.length = A at *
  have hA12 : A.length = 12 := by rw [← hA]; exact hdr_length _ _ _ _ _ _
  simp only [List.length_append] at hlen
  obtain ⟨aa, acap, rfl⟩ := ha.at_.value
  have hna := ha.len
  simp only [lim] at hna
  have hT := Three.mk3 h1 h2 h3
  have hcap : ∀ l ∈ [l1, l2, l3], l.length ≤ 837723144972 := by
    have c1 := h1.at_.len
    have c2 := h2.at_.len
    have c3 := h3.at_.len
    simp only [lim] at c1 c2 c3
    intro l hl
    simp only [List.mem_cons, List.not_mem_nil, or_false] at hl
    rcases hl with rfl | rfl | rfl <;> omega
  have hn1 := hcap l1 (by simp)
  have hn2 := hcap l2 (by simp)
  have hn3 := hcap l3 (by simp)
  obtain ⟨ao1, cap1, rfl⟩ := h1.at_.at_.value
  obtain ⟨ao2, cap2, rfl⟩ := h2.at_.at_.value
  obtain ⟨ao3, cap3, rfl⟩ := h3.at_.at_.value
  refine calls_of_WC Tryd.func21 rfl Tryd.ntmps21 rfl ?_
  refine GO ?_
  refine WL_box vv ?_
  intro b0 w0 hb0 h0 g0
  refine GO ?_
  refine WL_loadPart (l := (hcells h).toList) vv h0 rfl rfl ?_
  refine GO ?_
  refine WL_slice (vs := [.int .i64 (qs.length : Int), .int .i64 (l1.length : Int), .int .i64 (l2.length : Int), .int .i64 (l3.length : Int)]) rfl (by simp) rfl (by simp [Value.cells]) rfl ?_
  intro b1 w1 hb1 hs1 g1
  have hrd : ReadsAt w1 1 (.slice (some ⟨b1, 0, none⟩) 4 4) [qs.length, l1.length, l2.length, l3.length].length ([qs.length, l1.length, l2.length, l3.length].map fun (c : Nat) => .int .i64 (c : Int)) := by
    refine ⟨by simp, some ⟨b1, 0, none⟩, _, rfl, by simp, fun j x hj => ⟨_, rfl, ?_⟩⟩
    rw [add_addr, cell_of_row w1 b1 (0 + j) _ _ _ hs1]
    simpa [Value.cells] using hj
  refine WL_fun rfl ((spec_HeadWire _ h hid hop hcode _ [qs.length, l1.length, l2.length, l3.length] hrd (by simp)).mono ?_)
  rintro e w2 ⟨v2q, rfl, a2, g2⟩
  refine ⟨_, rfl, ?_⟩
  rw [headWire_cs, hA] at a2
  have h02 := g2.kept (g1.kept h0)
  refine GO ?_
  have G2 : Grows w w2 := g0.trans (g1.trans g2)
  have A2 : AccB w.heap.size w2 v2q A := a2.mono' (by have := g0.size; have := g1.size; omega)
  clear a2 hrd
  refine WC_loop (fun m f w' => ∃ (i : Nat) (v : Value), m = qs.length - i ∧ i ≤ qs.length ∧ EnvHas f [(1, .pointer (some ⟨b0, 0, none⟩)), (3, v), (27, .slice aa qs.length acap), (28, .int .i64 (qs.length : Int)), (29, .int .i64 (i : Int))] ∧ AccB w.heap.size w' v (A ++ (qs.take i).flatMap askWire) ∧ Grows w w' ∧ w'.heap[b0]? = w2.heap[b0]?) qs.length ?_ ?_
  · exact ⟨0, v2q, rfl, Nat.zero_le _, ⟨rfl, rfl, rfl, rfl, rfl, trivial⟩, by simpa using A2, G2, rfl⟩
  rintro m f w3 ⟨i, v, rfl, hi, he, hv, hg, hb0w⟩
  obtain ⟨f, rfl⟩ := he.form
  rw [h02] at hb0w
  refine GO ?_
  first | refine WC_sif vv (fun hc => ?_) (fun hc => ?_) | refine WC_if vv (fun hc => ?_) (fun hc => ?_)
  · have hlt : i < qs.length := by simpa using hc
    refine GO ?_
    obtain ⟨b4, o4, cap4, hv4, hcell⟩ := (ha.grow hg).at_.part (by decide) hlt
    cases hv4
    refine GO ?_
    refine WL_index vv vv hlt ?_
    refine WL_loadAgg (l := askCells qs[i]) vv rfl hcell ?_
    refine WL_alloc ?_
    intro b5 w5 hb5 h5 g5
    refine WL_storeRow (new := (askCells qs[i]).toArray) vv vv h5 rfl rfl (by simp [askCells, Value.oneCell']) ?_
    intro w6 hw6 h6
    have G6 : Grows w3 w6 := g5.wrote hw6 (by omega)
    refine GO ?_
    refine WL_loadRow vv h6 rfl ?_
    refine WL_fun rfl ((spec_AskWire _ _ (ha.ok qs[i] (by simp))).mono ?_)
    rintro e w7 ⟨v7, rfl, a7, g7⟩
    refine ⟨_, rfl, ?_⟩
    have hV := (hv.grow G6).grow g7
    have hle := fm_le askWire qs (i + 1)
    rw [fm_take _ _ _ hlt, List.length_append] at hle
    refine WL_appendB vv hV.own vv a7.reads (by rw [List.length_append]; omega) (by omega) ?_
    intro v8 w8 g8
    refine GO ?_
    refine WL_inc vv (by omega) ?_
    refine GO ?_
    have G8 := hV.grows g8 (hg.trans (G6.trans g7))
    refine ⟨qs.length - (i + 1), by omega, i + 1, v8, rfl, hlt, ⟨rfl, rfl, rfl, rfl, rfl, trivial⟩, ?_, G8, ?_⟩
    · have := hV.grew g8 (hg.trans (G6.trans g7)).size
      rw [fm_take _ _ _ hlt, ← List.append_assoc]
      exact this
    · have hk := (G6.trans g7).kept hb0w
      rw [h02, Grew.kept g8 hk (fun e => own_ne hV.own hk (by decide) e)]
  have hge : i = qs.length := by have := of_decide_eq_false hc; omega
  subst hge
  rw [List.take_length] at hv
  have hasks := hv
  have h03 := hb0w
  have G3 := hg
  generalize hB2 : A ++ qs.flatMap askWire = A' at *
  have hA' : A'.length = A.length + (qs.flatMap askWire).length := by rw [← hB2, List.length_append]
  clear hv hg hi hc he hb0w
  have hone : ∀ u ∈ [Value.slice ao1 l1.length cap1, Value.slice ao2 l2.length cap2, Value.slice ao3 l3.length cap3], u.cells = #[u] := fun u hu => hT.one hu
  refine GO ?_
  refine WL_slice (vs := [.slice ao1 l1.length cap1, .slice ao2 l2.length cap2, .slice ao3 l3.length cap3]) rfl (by simp) rfl (fun v hv => by rw [hone v hv]; rfl) rfl ?_
  intro b4 w4 hb4 hs4 g4
  have hs4' : w4.heap[b4]? = some (.cells #[.slice ao1 l1.length cap1, .slice ao2 l2.length cap2, .slice ao3 l3.length cap3] 40 (0, 0)) := by
    rw [hs4, flat_one _ hone]
  refine GO ?_
  refine WC_loop (fun m f w' => ∃ (j : Nat) (v : Value), m = 3 - j ∧ j ≤ 3 ∧ EnvHas f [(3, v), (44, .slice (some ⟨b4, 0, none⟩) 3 3), (45, .int .i64 3), (46, .int .i64 (j : Int))] ∧ AccB w.heap.size w' v (A' ++ ([l1, l2, l3].take j).flatten.flatMap (fun x => recWire k x.1)) ∧ Grows w w' ∧ w'.heap[b4]? = w4.heap[b4]?) 3 ?_ ?_
  · exact ⟨0, v, rfl, Nat.zero_le _, ⟨rfl, rfl, rfl, rfl, trivial⟩, by simpa using hasks.grow g4, G3.trans g4, rfl⟩
  rintro m f w5 ⟨j, v5, rfl, hj, he, hv, hg, hb4w⟩
  obtain ⟨f, rfl⟩ := he.form
  rw [hs4'] at hb4w
  refine GO ?_
  first | refine WC_sif vv (fun hc => ?_) (fun hc => ?_) | refine WC_if vv (fun hc => ?_) (fun hc => ?_)
  · have hlt : j < 3 := by have : (j : Int) < 3 := (by simpa using hc); omega
    obtain ⟨u, hjv⟩ : ∃ v, [Value.slice ao1 l1.length cap1, Value.slice ao2 l2.length cap2, Value.slice ao3 l3.length cap3][j]? = some v := ⟨[Value.slice ao1 l1.length cap1, Value.slice ao2 l2.length cap2, Value.slice ao3 l3.length cap3][j]'(by simpa using hlt), by simp [hlt]⟩
    obtain ⟨l, hjl⟩ : ∃ l, [l1, l2, l3][j]? = some l := ⟨[l1, l2, l3][j]'(by simpa using hlt), by simp [hlt]⟩
    have hrecs := (hT.grow hg).at_ j u l hjv hjl
    have hbl' := hbl l (List.mem_of_getElem? hjl)
    have hln := hcap _ (List.mem_of_getElem? hjl)
    have hflat : ([l1, l2, l3].take (j + 1)).flatten = ([l1, l2, l3].take j).flatten ++ l := by
      rw [flatten_take_succ [l1, l2, l3] j (by simpa using hlt)]
      congr 1
      exact (List.getElem?_eq_some_iff.1 hjl).2
    have hfl : (([l1, l2, l3].take (j + 1)).flatten.flatMap (fun x => recWire k x.1)).length ≤ ([l1, l2, l3].flatten.flatMap (fun x => recWire k x.1)).length := by
      conv => rhs; rw [← List.take_append_drop (j + 1) [l1, l2, l3], List.flatten_append, List.flatMap_append, List.length_append]
      omega
    rw [hflat, List.flatMap_append, List.length_append] at hfl
    generalize hD : ([l1, l2, l3].take j).flatten = D at *
    obtain ⟨ao, cap, rfl⟩ := hrecs.at_.at_.value
    refine GO ?_
    refine WL_index vv vv hlt ?_
    refine WL_load vv hb4w (by rw [Nat.zero_add, Nat.mul_one]; exact hjv) ?_
    refine GO ?_
    refine WC_loop (fun m f w' => ∃ (i : Nat) (v : Value), m = l.length - i ∧ i ≤ l.length ∧ EnvHas f [(3, v), (44, .slice (some ⟨b4, 0, none⟩) 3 3), (45, .int .i64 3), (46, .int .i64 (j : Int)), (50, .slice ao l.length cap), (51, .int .i64 (l.length : Int)), (52, .int .i64 (i : Int))] ∧ AccB w.heap.size w' v (A' ++ D.flatMap (fun x => recWire k x.1) ++ (l.take i).flatMap (fun x => recWire k x.1)) ∧ Grows w w' ∧ w'.heap[b4]? = w4.heap[b4]?) l.length ?_ ?_
    · exact ⟨0, v5, rfl, Nat.zero_le _, ⟨rfl, rfl, rfl, rfl, rfl, rfl, rfl, trivial⟩, by simpa using hv, hg, by rw [hb4w, hs4']⟩
    rintro m f w6 ⟨i, v6, rfl, hi, he, hv6, hg6, hb6w⟩
    obtain ⟨f, rfl⟩ := he.form
    rw [hs4'] at hb6w
    refine GO ?_
    first | refine WC_sif vv (fun hc => ?_) (fun hc => ?_) | refine WC_if vv (fun hc => ?_) (fun hc => ?_)
    · have hlti : i < l.length := by simpa using hc
      have hr6 := (hT.grow hg6).at_ j _ l hjv hjl
      have hrec := hr6.at_.recs l[i] (by simp)
      have hkind := hr6.kind l[i] (by simp)
      obtain ⟨b7, o7, cap7, hv7, hcell⟩ := hr6.at_.at_.part (by decide) hlti
      cases hv7
      refine GO ?_
      refine WL_index vv vv hlti ?_
      refine WL_loadAgg (l := recCells l[i]) vv rfl hcell ?_
      refine WL_alloc ?_
      intro b8 w8 hb8 h8 g8
      refine WL_storeRow (new := (recCells l[i]).toArray) vv vv h8 rfl rfl (recCells_one hrec) ?_
      intro w9 hw9 h9
      have G9 : Grows w6 w9 := g8.wrote hw9 (by omega)
      refine GO ?_
      refine WL_loadRow vv h9 rfl ?_
      refine WL_fun rfl ((spec_RecordWire hB h13 _ _ (hrec.grow G9) hkind (hbl' l[i] (by simp))).mono ?_)
      rintro e w10 ⟨v10, rfl, a10, g10⟩
      refine ⟨_, rfl, ?_⟩
      have hV := (hv6.grow G9).grow g10
      have hle := fm_le (fun x : RecM × RecV => recWire k x.1) l (i + 1)
      rw [fm_take _ _ _ hlti, List.length_append] at hle
      refine WL_appendB vv hV.own vv a10.reads (by simp only [List.length_append]; omega) (by omega) ?_
      intro v11 w11 g11
      refine GO ?_
      refine WL_inc vv (by omega) ?_
      refine GO ?_
      have G11 := hV.grows g11 (hg6.trans (G9.trans g10))
      refine ⟨l.length - (i + 1), by omega, i + 1, v11, rfl, hlti, ⟨rfl, rfl, rfl, rfl, rfl, rfl, rfl, trivial⟩, ?_, G11, ?_⟩
      · have := hV.grew g11 (hg6.trans (G9.trans g10)).size
        rw [fm_take _ _ _ hlti, ← List.append_assoc]
        exact this
      · have hk := (G9.trans g10).kept hb6w
        rw [hs4', Grew.kept g11 hk (fun e => own_ne hV.own hk (by decide) e)]
    · have hge : i = l.length := by have := of_decide_eq_false hc; omega
      subst hge
      rw [List.take_length] at hv6
      refine GO ?_
      refine WL_inc vv (by omega) ?_
      refine GO ?_
      refine ⟨3 - (j + 1), by omega, j + 1, v6, rfl, hlt, ⟨rfl, rfl, rfl, rfl, trivial⟩, ?_, hg6, by rw [hb6w, hs4']⟩
      rw [hflat, List.flatMap_append, ← List.append_assoc]
      exact hv6
  have hge : j = 3 := by have : ¬ (j : Int) < 3 := (by simpa using hc); omega
  subst hge
  refine GO ?_
  exact ret1 (v := v5) Tryd.results21 rfl ⟨_, rfl, hv, hg⟩
end Go.Proofs.YtgkhfpkfjajdjaaDoor

/- The laws' own helpers: how what is given is turned to the reference's types. -/
namespace Go.Proofs.YtgkhfpkfjajdjaaDoor
open Go.RowKit
set_option maxHeartbeats 1000000
set_option maxRecDepth 100000

/-- a slice of the call's own, of parts -/
structure LAcc {α : Type} (B : Nat) (w : World) (e : TypeId) (g : α → List Value) (k : Nat) (v : Value) (l : List α) : Prop where
  acc : Acc B w e k v l.length (l.flatMap g)
  len : ∀ x ∈ l, (g x).length = k
section
variable {α : Type} {B : Nat} {w w' : World} {e : TypeId} {g : α → List Value} {k : Nat} {v : Value} {l : List α}
theorem LAcc.reads (h : LAcc B w e g k v l) : ListAt w g k v l := ⟨h.len, h.acc.reads⟩
theorem LAcc.grow (h : LAcc B w e g k v l) (hg : Grows w w') : LAcc B w' e g k v l := ⟨h.acc.grow hg, h.len⟩
theorem LAcc.mono {B' : Nat} (h : LAcc B w e g k v l) (hB : B' ≤ B) : LAcc B' w e g k v l := ⟨h.acc.mono hB, h.len⟩
theorem LAcc.nil (hb : w.heap[B]? = some (.cells #[] e (0, 0)) ∨ True) {b : Nat} (hw : w.heap[b]? = some (.cells #[] e (0, 0))) (hB : B ≤ b) : LAcc B w e g k (.slice (some ⟨b, 0, none⟩) 0 0) ([] : List α) :=
  ⟨Acc.block hw hB (by decide) (by simp), by simp⟩
end
theorem reads_new {w : World} {b k : Nat} {cs : Array Value} {e : TypeId} {fr : Nat × Nat} (h : w.heap[b]? = some (.cells cs e fr)) (hs : cs.size = k) : ReadsAt w k (.slice (some ⟨b, 0, none⟩) 1 1) 1 cs.toList := by
  refine ⟨by simp [hs], some ⟨b, 0, none⟩, 1, rfl, by simp, fun j x hj => ⟨_, rfl, ?_⟩⟩
  rw [add_addr, cell_of_row w b (0 + j) _ _ _ h]
  simpa using hj
theorem Wrote.grownBy {b : Nat} {w w' : World} (h : Wrote b w w') : w.grownBy w' (some b) := ⟨h.os, h.tape, h.output, h.size, fun k hk hne => h.block k hk (fun e => hne (by rw [e]))⟩
theorem Acc.wrote {B : Nat} {w w' : World} {e size : Nat} {v : Value} {n : Nat} {xs : List Value} (h : Acc B w e size v n xs) {b : Nat} (hw : Wrote b w w') (hne : v.ownBlock ≠ some b) : Acc B w' e size v n xs :=
  ⟨h.own.kept hw.grownBy (.inr hne), h.base⟩
theorem LAcc.wrote {α : Type} {B : Nat} {w w' : World} {e : TypeId} {g : α → List Value} {k : Nat} {v : Value} {l : List α} (h : LAcc B w e g k v l) {b : Nat} (hw : Wrote b w w') (hne : v.ownBlock ≠ some b) : LAcc B w' e g k v l := ⟨h.acc.wrote hw hne, h.len⟩
/-- one part more -/
theorem WL_push {n : Nat} {P : Program} {f : Env} {w w0 : World} {ops : Array Oper} {K : Env → World → Prop} {rest : List Oper} {d1 d2 : Nat} {ty1 ty2 : TypeId} {pos1 pos2 : String} {af1 af2 : Array Edge} {α : Type} {g : α → List Value} {t e : TypeId} {k bytes : Nat} [ht : TyLit P t e k] [ha : TyApp P t e k bytes] {s x : Operand} {v : Value} {l : List α} (a : α)
    (hx : ev f x = .agg (g a).toArray) (hs : ∀ u, ev (upd f d1 u) s = v) (hl : LAcc w0.heap.size w e g k v l) (hg : Grows w0 w) (hlen : (g a).length = k) (h1 : ∀ u ∈ g a, u.oneCell' = true) (hk : Nat.ble (1 * k) 16777216 = true) (hr : Room l.length 1 bytes)
    (h : ∀ u v' w', LAcc w0.heap.size w' e g k v' (l ++ [a]) → Grows w0 w' → (∀ j o, w.heap[j]? = some o → v.ownBlock ≠ some j → w'.heap[j]? = some o) → WL n P ops K rest (upd (upd f d1 u) d2 v') w') (hn1 : Nat.blt d1 n = true := by rfl) (hn2 : Nat.blt d2 n = true := by rfl) :
    WL n P ops K (⟨some d1, .buildSlice t 1 #[(0, x)], ty1, pos1, af1, none⟩ :: ⟨some d2, .call ⟨.builtin .append, #[s, .tmp d1], #[t, t]⟩, ty2, pos2, af2, none⟩ :: rest) f w := by
  refine WL_slice (ps := [(0, x)]) (vs := [.agg (g a).toArray]) (by simp [hx]) (by simp) rfl (by simp [Value.cells, hlen]) hk ?_ hn1
  intro b w1 hb hw1 g1
  have hw1' : w1.heap[b]? = some (.cells (g a).toArray e (0, 0)) := by rw [hw1]; simp [Value.cells]
  have hrd := reads_new hw1' (k := k) (by simp [hlen])
  refine WL_append (hs _) (hl.acc.grow g1).own (by simp [ev, upd]) hrd (by simpa using h1) hr ?_ hn2
  intro v' w' hgr
  refine h _ v' w' ⟨?_, ?_⟩ ?_ ?_
  · have := (hl.acc.grow g1).grew hgr (hg.trans g1).size
    simpa using this
  · intro y hy
    rcases List.mem_append.1 hy with hy | hy
    · exact hl.len y hy
    · rw [List.mem_singleton.1 hy]; exact hlen
  · exact (hl.acc.grow g1).below hgr (hg.trans g1).size (hg.trans g1)
  · intro j o hj hne
    exact Grew.kept hgr (g1.kept hj) hne
theorem laws_specAsks (w : World) (v : Value) (qs : List AskM) (h : AsksAt w v qs) : Calls Tryd.prog 34 #[v] w fun e w' => ∃ v', e = .returned v' ∧ LAcc w.heap.size w' 90 askCells 3 v' qs ∧ Grows w w' := by
  obtain ⟨aa, acap, rfl⟩ := h.at_.value
  have hna := h.len
  simp only [lim] at hna
  refine calls_of_WC Tryd.func34 rfl Tryd.ntmps34 rfl ?_
  refine GO ?_
  refine WL_slice0 ?_
  intro b1 w1 hb1 h1 g1
  refine GO ?_
  refine WC_loop (fun m f w' => ∃ (i : Nat) (v : Value), m = qs.length - i ∧ i ≤ qs.length ∧ EnvHas f [(3, v), (7, .slice aa qs.length acap), (8, .int .i64 (qs.length : Int)), (9, .int .i64 (i : Int))] ∧ LAcc w.heap.size w' 90 askCells 3 v (qs.take i) ∧ Grows w w') qs.length ?_ ?_
  · exact ⟨0, _, rfl, Nat.zero_le _, ⟨rfl, rfl, rfl, rfl, trivial⟩, LAcc.nil (.inr trivial) h1 hb1, g1⟩
  rintro m f w2 ⟨i, v, rfl, hi, he, ha, hg⟩
  obtain ⟨f, rfl⟩ := he.form
  refine GO ?_
  first | refine WC_sif vv (fun hc => ?_) (fun hc => ?_) | refine WC_if vv (fun hc => ?_) (fun hc => ?_)
  · have hlt : i < qs.length := by simpa using hc
    refine GO ?_
    obtain ⟨b2, o2, cap2, hv2, hcell⟩ := (h.grow hg).at_.part (by decide) hlt
    cases hv2
    refine GO ?_
    refine WL_index vv vv hlt ?_
    refine WL_loadAgg (l := askCells qs[i]) vv rfl hcell ?_
    refine WL_alloc ?_
    intro b5 w5 hb5 h5 g5
    refine WL_storeRow (new := (askCells qs[i]).toArray) vv vv h5 rfl rfl (by simp [askCells, Value.oneCell']) ?_
    intro w6 hw6 h6
    have G6 : Grows w2 w6 := g5.wrote hw6 (by omega)
    refine GO ?_
    refine WL_loadRow vv h6 rfl ?_
    refine WL_push (w0 := w) (g := askCells) qs[i] vv (fun _ => vv) (ha.grow G6) (hg.trans G6) rfl (by simp [askCells, Value.oneCell']) (by decide) ⟨by simp; omega, by omega, by omega⟩ ?_
    intro u v7 w7 a7 g7 _
    refine GO ?_
    refine WL_inc vv (by omega) ?_
    refine GO ?_
    refine ⟨qs.length - (i + 1), by omega, i + 1, v7, rfl, hlt, ⟨rfl, rfl, rfl, rfl, trivial⟩, ?_, g7⟩
    rw [List.take_succ_eq_append_getElem hlt]
    exact a7
  have hge : i = qs.length := by have := of_decide_eq_false hc; omega
  subst hge
  rw [List.take_length] at ha
  refine GO ?_
  exact ret1 (v := v) Tryd.results34 rfl ⟨_, rfl, ha, hg⟩
end Go.Proofs.YtgkhfpkfjajdjaaDoor

/- The laws' own helpers: records and messages, turned to the reference's types. -/
namespace Go.Proofs.YtgkhfpkfjajdjaaDoor
open Go.RowKit
set_option maxHeartbeats 1000000
set_option maxRecDepth 100000

theorem Acc.block_kept {B : Nat} {w w' : World} {e size : Nat} {v : Value} {n : Nat} {xs : List Value} (h : Acc B w e size v n xs) (hk : ∀ j o, w.heap[j]? = some o → v.ownBlock = some j → w'.heap[j]? = some o) : Acc B w' e size v n xs := by
  refine ⟨⟨h.own.1, ?_⟩, h.base⟩
  rcases h.own.2 with h0 | ⟨g, cap, cur, rfl, hb, hg, hr⟩
  · exact .inl h0
  · exact .inr ⟨g, cap, cur, rfl, hb, hk g _ hg rfl, hr⟩
/-- a record whose bytes and texts are old, and whose list of pairs is the call's own -/
structure NewRec (w w' : World) (x : RecM × RecV) : Prop where
  ok : RecOkV x.1
  data : BytesAt w x.2.dv x.1.data
  texts : TextsAt w x.2.tv x.1.texts
  pairs : ∃ l : List (PairM × Value), l.map (·.1) = x.1.pairs ∧ LAcc w.heap.size w' 102 pairCells 2 x.2.pv l ∧ ∀ y ∈ l, BytesAt w y.2 y.1.data
theorem NewRec.recAt {w w' : World} {x : RecM × RecV} (h : NewRec w w' x) (hg : Grows w w') : RecAt w' x := by
  obtain ⟨l, h1, h2, h3⟩ := h.pairs
  exact ⟨h.ok, h.data.grow hg, ReadsAt.grow h.texts hg, ⟨l, h1, h2.reads, fun y hy => (h3 y hy).grow hg⟩⟩
theorem NewRec.grow {w w' w2 : World} {x : RecM × RecV} (h : NewRec w w' x) (hg : Grows w' w2) : NewRec w w2 x := by
  obtain ⟨l, h1, h2, h3⟩ := h.pairs
  exact ⟨h.ok, h.data, h.texts, ⟨l, h1, h2.grow hg, h3⟩⟩
/-- behind a row of another type that grows -/
theorem NewRec.kept {w w' w2 : World} {x : RecM × RecV} (h : NewRec w w' x) {v : Value} {e size n : Nat} {xs : List Value} (ho : w'.ownsRow 0 e size v n xs) (he : 102 ≠ e) (hk : ∀ j o, w'.heap[j]? = some o → v.ownBlock ≠ some j → w2.heap[j]? = some o) : NewRec w w2 x := by
  obtain ⟨l, h1, h2, h3⟩ := h.pairs
  refine ⟨h.ok, h.data, h.texts, ⟨l, h1, ⟨h2.acc.block_kept fun j o hj hb => hk j o hj ?_, h2.len⟩, h3⟩⟩
  rcases h2.acc.own.2 with ⟨e0, _⟩ | ⟨g, cap, cur, e0, _, hg, _⟩
  · rw [e0] at hb; simp [Value.ownBlock] at hb
  · rw [e0] at hb
    simp only [Value.ownBlock, Option.some.injEq] at hb
    subst hb
    rw [hg] at hj
    exact own_ne ho (by rw [hg]) he
theorem laws_specRecord (w : World) (r : RecM) (dv tv pv : Value) (hx : RecAt w (r, ⟨dv, tv, pv⟩)) (k : Int) (l : List (PairM × Value)) (hl1 : l.map (·.1) = r.pairs) (hl2 : ListAt w pairCells 2 pv l) (hl3 : ∀ x ∈ l, BytesAt w x.2 x.1.data) :
    Calls Tryd.prog 28 #[.agg (recCells (r, ⟨dv, tv, pv⟩)).toArray, .int .i64 k] w fun e w' => ∃ pv', e = .returned (.agg (recCells ({ r with kind := k }, ⟨dv, tv, pv'⟩)).toArray) ∧ LAcc w.heap.size w' 102 pairCells 2 pv' l ∧ Grows w w' := by
  have hpn := hx.ok.pairs.1
  simp only [lim] at hpn
  have hln : l.length = r.pairs.length := by
    have := congrArg List.length hl1
    simpa using this
  obtain ⟨ao1, cap1, e1⟩ := ReadsAt.value hx.data
  obtain ⟨ao2, cap2, e2⟩ := ReadsAt.value hx.texts
  obtain ⟨ao3, cap3, e3⟩ := hl2.value
  simp only at e1 e2 e3 hl2
  subst e1 e2 e3
  refine calls_of_WC Tryd.func28 rfl Tryd.ntmps28 rfl ?_
  refine GO ?_
  refine WL_box vv ?_
  intro b0 w0 hb0 h0 g0
  refine WL_alloc ?_
  intro b1 w1 hb1 h1 g1
  refine GO ?_
  refine WL_slice0 ?_
  intro b2 w2 hb2 h2 g2
  have h02 := g2.kept (g1.kept h0)
  have h12 := g2.kept h1
  have G2 := g0.trans (g1.trans g2)
  have hb1w : w.heap.size ≤ b1 := by have := g0.size; omega
  refine GO ?_
  refine WC_loop (fun m f w' => ∃ (i : Nat) (v : Value), m = l.length - i ∧ i ≤ l.length ∧ EnvHas f [(1, .int .i64 k), (2, .pointer (some ⟨b0, 0, none⟩)), (4, .pointer (some ⟨b1, 0, none⟩)), (5, v), (10, .slice ao3 l.length cap3), (11, .int .i64 (l.length : Int)), (12, .int .i64 (i : Int))] ∧ LAcc w.heap.size w' 102 pairCells 2 v (l.take i) ∧ Grows w w' ∧ w'.heap[b0]? = w2.heap[b0]? ∧ w'.heap[b1]? = w2.heap[b1]?) l.length ?_ ?_
  · exact ⟨0, _, rfl, Nat.zero_le _, ⟨rfl, rfl, rfl, rfl, rfl, rfl, rfl, trivial⟩, LAcc.nil (.inr trivial) h2 (by have := g0.size; have := g1.size; omega), G2, rfl, rfl⟩
  rintro m f w3 ⟨i, v, rfl, hi, he, ha, hg, hk0, hk1⟩
  obtain ⟨f, rfl⟩ := he.form
  rw [h02] at hk0
  rw [h12] at hk1
  refine GO ?_
  first | refine WC_sif vv (fun hc => ?_) (fun hc => ?_) | refine WC_if vv (fun hc => ?_) (fun hc => ?_)
  · have hlt : i < l.length := by simpa using hc
    refine GO ?_
    obtain ⟨b4, o4, cap4, hv4, hcell⟩ := (hl2.grow hg).part (by decide) hlt
    cases hv4
    refine GO ?_
    refine WL_index vv vv hlt ?_
    refine WL_loadAgg (l := pairCells l[i]) vv rfl hcell ?_
    refine WL_alloc ?_
    intro b5 w5 hb5 h5 g5
    have hone : ∀ u ∈ pairCells l[i], u.oneCell' = true := by
      obtain ⟨ao, cap, e⟩ := ReadsAt.value (hl3 l[i] (by simp))
      simp [pairCells, e, Value.oneCell']
    refine WL_storeRow (new := (pairCells l[i]).toArray) vv vv h5 rfl rfl hone ?_
    intro w6 hw6 h6
    have G6 : Grows w3 w6 := g5.wrote hw6 (by omega)
    refine GO ?_
    refine WL_loadRow vv h6 rfl ?_
    refine WL_push (w0 := w) (g := pairCells) l[i] vv (fun _ => vv) (ha.grow G6) (hg.trans G6) rfl hone (by decide) ⟨by simp; omega, by omega, by omega⟩ ?_
    intro u v7 w7 a7 g7 hkeep
    refine GO ?_
    refine WL_inc vv (by omega) ?_
    refine GO ?_
    refine ⟨l.length - (i + 1), by omega, i + 1, v7, rfl, hlt, ⟨rfl, rfl, rfl, rfl, rfl, rfl, rfl, trivial⟩, ?_, g7, ?_, ?_⟩
    · rw [List.take_succ_eq_append_getElem hlt]
      exact a7
    · rw [h02]; exact hkeep b0 _ (G6.kept hk0) (own_ne (ha.grow G6).acc.own (G6.kept hk0) (by decide))
    · rw [h12]; exact hkeep b1 _ (G6.kept hk1) (own_ne (ha.grow G6).acc.own (G6.kept hk1) (by decide))
  have hge : i = l.length := by have := of_decide_eq_false hc; omega
  subst hge
  rw [List.take_length] at ha
  obtain ⟨ao7, cap7, rfl⟩ := ha.reads.value
  refine GO ?_
  refine WL_build (vs := [(0, strOf r.name), (1, .int .u16 (r.type : Int)), (2, .int .u16 (r.cls : Int)), (3, .int .u32 (r.ttl : Int)), (4, .int .u16 (r.len : Int)), (5, .int .i64 k), (6, .slice ao1 r.data.length cap1), (7, strOf r.host), (8, strOf r.box), (9, .int .u32 (r.n1 : Int)), (10, .int .u32 (r.n2 : Int)), (11, .int .u32 (r.n3 : Int)), (12, .int .u32 (r.n4 : Int)), (13, .int .u32 (r.n5 : Int)), (14, .slice ao2 r.texts.length cap2), (15, .slice ao7 l.length cap7)]) (l := recCells ({ r with kind := k }, ⟨.slice ao1 r.data.length cap1, .slice ao2 r.texts.length cap2, .slice ao7 l.length cap7⟩)) (EvL.eq ⟨rfl, vv, rfl, vv, rfl, vv, rfl, vv, rfl, vv, rfl, vv, rfl, vv, rfl, vv, rfl, vv, rfl, vv, rfl, vv, rfl, vv, rfl, vv, rfl, vv, rfl, vv, rfl, vv, trivial⟩) ⟨⟨_, rfl⟩, ⟨_, rfl⟩, ⟨_, rfl⟩, ⟨_, rfl⟩, ⟨_, rfl⟩, ⟨_, rfl⟩, ⟨_, rfl⟩, ⟨_, rfl⟩, ⟨_, rfl⟩, ⟨_, rfl⟩, ⟨_, rfl⟩, ⟨_, rfl⟩, ⟨_, rfl⟩, ⟨_, rfl⟩, ⟨_, rfl⟩, ⟨_, rfl⟩, trivial⟩ (by kernel_rfl) ?_
  have hpok : RecOkV ({ r with kind := k } : RecM) := ⟨hx.ok.name, hx.ok.host, hx.ok.box, hx.ok.data, hx.ok.type, hx.ok.cls, hx.ok.ttl, hx.ok.len, hx.ok.n1, hx.ok.n2, hx.ok.n3, hx.ok.n4, hx.ok.n5, hx.ok.texts, hx.ok.pairs⟩
  have hnew : RecAt w3 (({ r with kind := k } : RecM), ⟨.slice ao1 r.data.length cap1, .slice ao2 r.texts.length cap2, .slice ao7 l.length cap7⟩) :=
    ⟨hpok, BytesAt.grow hx.data hg, ReadsAt.grow hx.texts hg, ⟨l, hl1, ha.reads, fun x hxm => (hl3 x hxm).grow hg⟩⟩
  refine WL_storeRow (new := (recCells (({ r with kind := k } : RecM), ⟨.slice ao1 r.data.length cap1, .slice ao2 r.texts.length cap2, .slice ao7 l.length cap7⟩)).toArray) vv vv hk1 rfl rfl (recCells_one hnew) ?_
  intro w8 hw8 h8
  have G8 := hg.wrote hw8 hb1w
  have ha8 := ha.wrote hw8 (own_ne ha.acc.own hk1 (by decide))
  refine GO ?_
  exact retc Tryd.results28 rfl h8 Tryd.underlying61 rfl (by kernel_rfl) ⟨.slice ao7 l.length cap7, rfl, ha8, G8⟩
/-- a record for the reference: the same, but for its kind and the place of its pairs -/
def specRec (k : Int) (x : RecM × RecV) (y : RecM × RecV) : Prop := y.1 = { x.1 with kind := k } ∧ y.2.dv = x.2.dv ∧ y.2.tv = x.2.tv
/-- records that the call has made for the reference, out of records that lay in wb -/
structure NewRecs (wb w' : World) (k : Nat) (v : Value) (l : List (RecM × RecV)) : Prop where
  acc : LAcc wb.heap.size w' 61 recCells 16 v l
  recs : ∀ x ∈ l, NewRec wb w' x ∧ x.1.kind = (k : Int)
  len : l.length * 168 ≤ lim + 4096
theorem NewRecs.srecs {wb w' : World} {k : Nat} {v : Value} {l : List (RecM × RecV)} (h : NewRecs wb w' k v l) (hg : Grows wb w') : SRecs w' k v l := ⟨⟨h.acc.reads, fun x hx => (h.recs x hx).1.recAt hg, h.len⟩, fun x hx => (h.recs x hx).2⟩
theorem NewRecs.grow {wb w' w2 : World} {k : Nat} {v : Value} {l : List (RecM × RecV)} (h : NewRecs wb w' k v l) (hg : Grows w' w2) : NewRecs wb w2 k v l := ⟨h.acc.grow hg, fun x hx => ⟨(h.recs x hx).1.grow hg, (h.recs x hx).2⟩, h.len⟩
theorem NewRec.wrote {w w' w2 : World} {x : RecM × RecV} (h : NewRec w w' x) {b : Nat} {cs : Array Value} {t : TypeId} {fr : Nat × Nat} (hw : Wrote b w' w2) (hb : w'.heap[b]? = some (.cells cs t fr)) (ht : t ≠ 102) : NewRec w w2 x := by
  obtain ⟨l, h1, h2, h3⟩ := h.pairs
  exact ⟨h.ok, h.data, h.texts, ⟨l, h1, h2.wrote hw (own_ne h2.acc.own hb ht), h3⟩⟩
theorem NewRecs.wrote {wb w' w2 : World} {k : Nat} {v : Value} {l : List (RecM × RecV)} (h : NewRecs wb w' k v l) {b : Nat} {cs : Array Value} {t : TypeId} {fr : Nat × Nat} (hw : Wrote b w' w2) (hb : w'.heap[b]? = some (.cells cs t fr)) (ht : t ≠ 102) (ht2 : t ≠ 61) : NewRecs wb w2 k v l :=
  ⟨h.acc.wrote hw (own_ne h.acc.acc.own hb ht2), fun x hx => ⟨(h.recs x hx).1.wrote hw hb ht, (h.recs x hx).2⟩, h.len⟩
theorem laws_specRecords (wb w : World) (v : Value) (l : List (RecM × RecV)) (h0 : RecsAt wb v l) (hwb : Grows wb w) (k : Nat) : Calls Tryd.prog 35 #[v, .int .i64 (k : Int)] w fun e w' => ∃ v' l', e = .returned v' ∧ NewRecs wb w' k v' l' ∧ recsOf l' = (recsOf l).map (fun r => { r with kind := (k : Int) }) ∧ Grows w w' := by
  have h := h0.grow hwb
  obtain ⟨aa, acap, rfl⟩ := h.at_.value
  have hna := h.len
  simp only [lim] at hna
  refine calls_of_WC Tryd.func35 rfl Tryd.ntmps35 rfl ?_
  refine GO ?_
  refine WL_slice0 ?_
  intro b1 w1 hb1 h1 g1
  refine GO ?_
  refine WC_loop (fun m f w' => ∃ (i : Nat) (v : Value) (l' : List (RecM × RecV)), m = l.length - i ∧ i ≤ l.length ∧ EnvHas f [(1, .int .i64 (k : Int)), (5, v), (9, .slice aa l.length acap), (10, .int .i64 (l.length : Int)), (11, .int .i64 (i : Int))] ∧ LAcc w.heap.size w' 61 recCells 16 v l' ∧ l'.length = i ∧ (∀ x ∈ l', NewRec wb w' x ∧ x.1.kind = (k : Int)) ∧ recsOf l' = (recsOf (l.take i)).map (fun r => { r with kind := (k : Int) }) ∧ Grows w w') l.length ?_ ?_
  · exact ⟨0, _, [], rfl, Nat.zero_le _, ⟨rfl, rfl, rfl, rfl, rfl, trivial⟩, LAcc.nil (.inr trivial) h1 hb1, rfl, by simp, by simp [recsOf], g1⟩
  rintro m f w2 ⟨i, v, l', rfl, hi, he, ha, hl', hall, heq, hg⟩
  obtain ⟨f, rfl⟩ := he.form
  refine GO ?_
  first | refine WC_sif vv (fun hc => ?_) (fun hc => ?_) | refine WC_if vv (fun hc => ?_) (fun hc => ?_)
  · have hlt : i < l.length := by simpa using hc
    refine GO ?_
    obtain ⟨b2, o2, cap2, hv2, hcell⟩ := (h.grow hg).at_.part (by decide) hlt
    cases hv2
    have hrec := (h.grow hg).recs l[i] (by simp)
    refine GO ?_
    refine WL_index vv vv hlt ?_
    refine WL_loadAgg (l := recCells l[i]) vv rfl hcell ?_
    refine WL_alloc ?_
    intro b5 w5 hb5 h5 g5
    refine WL_storeRow (new := (recCells l[i]).toArray) vv vv h5 rfl rfl (recCells_one hrec) ?_
    intro w6 hw6 h6
    have G6 : Grows w2 w6 := g5.wrote hw6 (by omega)
    refine GO ?_
    refine WL_loadRow vv h6 rfl ?_
    refine GO ?_
    have hr0 := h0.recs l[i] (by simp)
    obtain ⟨lp, hp1, hp2, hp3⟩ := hr0.pairs.at_
    refine WL_fun rfl ((laws_specRecord _ l[i].1 l[i].2.dv l[i].2.tv l[i].2.pv (hrec.grow G6) _ lp hp1 (hp2.grow (hwb.trans (hg.trans G6))) (fun x hx => (hp3 x hx).grow (hwb.trans (hg.trans G6)))).mono ?_)
    rintro e w7 ⟨pv, rfl, hlp, g7⟩
    refine ⟨_, rfl, ?_⟩
    have hn7 : NewRec wb w7 (({ l[i].1 with kind := (k : Int) } : RecM), ⟨l[i].2.dv, l[i].2.tv, pv⟩) :=
      ⟨⟨hr0.ok.name, hr0.ok.host, hr0.ok.box, hr0.ok.data, hr0.ok.type, hr0.ok.cls, hr0.ok.ttl, hr0.ok.len, hr0.ok.n1, hr0.ok.n2, hr0.ok.n3, hr0.ok.n4, hr0.ok.n5, hr0.ok.texts, hr0.ok.pairs⟩, hr0.data, hr0.texts, ⟨lp, hp1, hlp.mono (hwb.trans (hg.trans G6)).size, hp3⟩⟩
    have hr7 := hn7.recAt (hwb.trans (hg.trans (G6.trans g7)))
    refine WL_push (w0 := w) (g := recCells) (({ l[i].1 with kind := (k : Int) } : RecM), ⟨l[i].2.dv, l[i].2.tv, pv⟩) vv (fun _ => vv) ((ha.grow G6).grow g7) (hg.trans (G6.trans g7)) rfl (recCells_one hr7) (by decide) ⟨by omega, by omega, by omega⟩ ?_
    intro u v8 w8 a8 g8 hkeep
    have hown := ((ha.grow G6).grow g7).acc
    refine GO ?_
    refine WL_inc vv (by omega) ?_
    refine GO ?_
    refine ⟨l.length - (i + 1), by omega, i + 1, v8, l' ++ [(({ l[i].1 with kind := (k : Int) } : RecM), ⟨l[i].2.dv, l[i].2.tv, pv⟩)], rfl, hlt, ⟨rfl, rfl, rfl, rfl, rfl, trivial⟩, a8, by simp [hl'], ?_, ?_, g8⟩
    · intro x hx
      rcases List.mem_append.1 hx with hx | hx
      · exact ⟨((hall x hx).1.grow (G6.trans g7)).kept hown.own (by decide) hkeep, (hall x hx).2⟩
      · rw [List.mem_singleton.1 hx]
        exact ⟨hn7.kept hown.own (by decide) hkeep, rfl⟩
    · rw [List.take_succ_eq_append_getElem hlt]
      simp only [recsOf, List.map_append, List.map_cons, List.map_nil] at heq ⊢
      rw [heq]
  have hge : i = l.length := by have := of_decide_eq_false hc; omega
  subst hge
  rw [List.take_length] at heq
  refine GO ?_
  exact ret1 (v := v) Tryd.results35 rfl ⟨_, l', rfl, ⟨ha.mono hwb.size, hall, by simp only [lim]; omega⟩, heq, hg⟩
/-- what 'message' makes -/
structure MsgAt (w : World) (k : Nat) (h : HeadM) (qs : List AskM) (r1 r2 r3 : List RecM) (vs : List Value) : Prop where
  at_ : ∃ av v1 v2 v3 l1 l2 l3, vs = msgCells h av v1 v2 v3 ∧ AsksAt w av qs ∧ SRecs w k v1 l1 ∧ SRecs w k v2 l2 ∧ SRecs w k v3 l3 ∧
    recsOf l1 = r1.map (fun r => { r with kind := (k : Int) }) ∧ recsOf l2 = r2.map (fun r => { r with kind := (k : Int) }) ∧ recsOf l3 = r3.map (fun r => { r with kind := (k : Int) })
theorem MsgAt.grow {w w' : World} {k : Nat} {h : HeadM} {qs : List AskM} {r1 r2 r3 : List RecM} {vs : List Value} (hm : MsgAt w k h qs r1 r2 r3 vs) (hg : Grows w w') : MsgAt w' k h qs r1 r2 r3 vs := by
  obtain ⟨av, v1, v2, v3, l1, l2, l3, e, h1, h2, h3, h4, h5⟩ := hm.at_
  exact ⟨av, v1, v2, v3, l1, l2, l3, e, h1.grow hg, h2.grow hg, h3.grow hg, h4.grow hg, h5⟩
theorem laws_message (w : World) (k : Nat) (h : HeadM) (av v1 v2 v3 : Value) (qs : List AskM) (l1 l2 l3 : List (RecM × RecV)) (ha : AsksAt w av qs) (h1 : RecsAt w v1 l1) (h2 : RecsAt w v2 l2) (h3 : RecsAt w v3 l3) :
    Calls Tryd.prog 15 #[.int .i64 (k : Int), .agg (hcells h), av, v1, v2, v3] w fun e w' => ∃ vs, e = .returned (.agg vs.toArray) ∧ MsgAt w' k h qs (recsOf l1) (recsOf l2) (recsOf l3) vs ∧ Grows w w' := by
  refine calls_of_WC Tryd.func15 rfl Tryd.ntmps15 rfl ?_
  refine GO ?_
  refine WL_box vv ?_
  intro b0 w0 hb0 h0 g0
  refine WL_alloc ?_
  intro b1 w1 hb1 hz1 g1
  refine GO ?_
  refine WL_loadRow vv (g1.kept h0) rfl ?_
  refine WL_fun rfl ((laws_specHead _ _ _ _ _ _ _ _ _ _ _).mono ?_)
  rintro e w2 ⟨rfl, g2⟩
  refine ⟨_, rfl, ?_⟩
  have g2 : Grows w1 w2 := g2
  refine GO ?_
  refine WL_fun rfl ((laws_specAsks _ _ _ (((ha.grow g0).grow g1).grow g2)).mono ?_)
  rintro e w3 ⟨av3, rfl, a3, g3⟩
  refine ⟨_, rfl, ?_⟩
  refine GO ?_
  refine WL_fun rfl ((laws_specRecords w _ _ _ h1 (g0.trans (g1.trans (g2.trans g3))) k).mono ?_)
  rintro e w4 ⟨v4, l4, rfl, a4, e4, g4⟩
  refine ⟨_, rfl, ?_⟩
  refine GO ?_
  refine WL_fun rfl ((laws_specRecords w _ _ _ h2 (g0.trans (g1.trans (g2.trans (g3.trans g4)))) k).mono ?_)
  rintro e w5 ⟨v5, l5, rfl, a5, e5, g5⟩
  refine ⟨_, rfl, ?_⟩
  refine GO ?_
  refine WL_fun rfl ((laws_specRecords w _ _ _ h3 (g0.trans (g1.trans (g2.trans (g3.trans (g4.trans g5))))) k).mono ?_)
  rintro e w6 ⟨v6, l6, rfl, a6, e6, g6⟩
  refine ⟨_, rfl, ?_⟩
  obtain ⟨aoa, capa, rfl⟩ := a3.reads.value
  obtain ⟨ao4, cap4, rfl⟩ := a4.acc.reads.value
  obtain ⟨ao5, cap5, rfl⟩ := a5.acc.reads.value
  obtain ⟨ao6, cap6, rfl⟩ := a6.acc.reads.value
  refine WL_build (vs := [(0, .agg (hcells h)), (1, .slice aoa qs.length capa), (2, .slice ao4 l4.length cap4), (3, .slice ao5 l5.length cap5), (4, .slice ao6 l6.length cap6)]) (l := msgCells h (.slice aoa qs.length capa) (.slice ao4 l4.length cap4) (.slice ao5 l5.length cap5) (.slice ao6 l6.length cap6)) (EvL.eq ⟨rfl, vv, rfl, vv, rfl, vv, rfl, vv, rfl, vv, trivial⟩) ⟨⟨_, rfl⟩, ⟨_, rfl⟩, ⟨_, rfl⟩, ⟨_, rfl⟩, ⟨_, rfl⟩, trivial⟩ (by kernel_rfl) ?_
  have G16 : Grows w1 w6 := g2.trans (g3.trans (g4.trans (g5.trans g6)))
  refine WL_storeRow (new := (msgCells h (.slice aoa qs.length capa) (.slice ao4 l4.length cap4) (.slice ao5 l5.length cap5) (.slice ao6 l6.length cap6)).toArray) vv vv (G16.kept hz1) rfl rfl (by simp [msgCells, Value.oneCell']) ?_
  intro w7 hw7 h7
  have G7 := (g0.trans (g1.trans G16)).wrote hw7 (by have := g0.size; omega)
  have hz6 := G16.kept hz1
  have a3' := (((a3.grow g4).grow g5).grow g6).wrote hw7 (own_ne (((a3.grow g4).grow g5).grow g6).acc.own hz6 (by decide))
  refine GO ?_
  exact retc Tryd.results15 rfl h7 Tryd.underlying42 rfl (by kernel_rfl) ⟨_, rfl, ⟨_, _, _, _, l4, l5, l6, rfl, ⟨a3'.reads, ha.ok, ha.len⟩, (((a4.grow g5).grow g6).wrote hw7 hz6 (by decide) (by decide)).srecs G7, ((a5.grow g6).wrote hw7 hz6 (by decide) (by decide)).srecs G7, (a6.wrote hw7 hz6 (by decide) (by decide)).srecs G7, e4, e5, e6⟩, G7⟩
end Go.Proofs.YtgkhfpkfjajdjaaDoor
