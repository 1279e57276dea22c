/- laws.FnTooLong: what its text says of the law is shown here of the given program: the law returns true for each input that its row speaks of. Its walk, its row and its card. -/
import Derived.Test.YthdjgcegpkjhmaaDoorKUnknown
import Derived.Test.YthdjgcegpkjhmaaDoorG17
import Derived.Test.YthdjgcegpkjhmaaDoorMuch
import Derived.Test.YthdjgcegpkjhmaaDoorG12
import Derived.Test.YthdjgcegpkjhmaaDoorG13
set_option linter.unusedVariables false
set_option linter.unusedSimpArgs false
namespace Go.Proofs.YthdjgcegpkjhmaaDoor
open Go.RowKit Go.ChangeShapes Go.WideShapes Go.ChangeAt
set_option maxHeartbeats 4000000
set_option maxRecDepth 100000

theorem laws_FnTooLong (w : World) (h : HeadM) (hid : h.id < 65536) (x1 : RecM × RecV) (hx1 : RecAt w x1) (hc1 : CapOk x1.2.dv) (x2 : RecM × RecV) (hx2 : RecAt w x2) (x3 : Nat) (hx3 : x3 < 256) (hE : Errs w) (hKn : Known w) : Calls Tryd.prog 5 #[.agg (hcells h), .agg (recCells x1).toArray, .agg (recCells x2).toArray, .int .u8 (x3 : Int)] w (RetV w (.bool true)) := by
  refine calls_of_WC Tryd.func5 rfl Tryd.ntmps5 rfl ?_
  refine GO ?_
  refine WL_box vv ?_
  intro b1 w1 hb1 h1 g1
  refine WL_box vv ?_
  intro b2 w2 hb2 h2 g2
  refine WL_box vv ?_
  intro b3 w3 hb3 h3 g3
  have hl1 := (Array.getElem?_eq_some_iff.1 h1).1
  have hl2 := (Array.getElem?_eq_some_iff.1 h2).1
  have h1 := g3.kept (g2.kept h1)
  have h2 : w3.heap[b2]? = some (.cells (recCells x1).toArray 30 (0, 0)) := g3.kept h2
  have h3 : w3.heap[b3]? = some (.cells (recCells x2).toArray 30 (0, 0)) := h3
  have G3 := g1.trans (g2.trans g3)
  have hz2 : w.heap.size ≤ b2 := Nat.le_trans g1.size hb2
  refine GO ?_
  refine WL_fun rfl ((spec_NameOk w3 x1.1.name hx1.ok.name).mono ?_)
  rintro e w4 ⟨rfl, rfl⟩
  refine ⟨_, rfl, ?_⟩
  cases hnm : nameOk x1.1.name with
  | false =>
    refine RUN ?_
    exact ret1 (v := .bool true) Tryd.results5 rfl ⟨rfl, G3⟩
  | true =>
    refine RUN ?_
    obtain ⟨ao, len, cap, hdv, hcap⟩ := hc1
    have hdat := BytesAt.grow hx1.data G3
    obtain ⟨ao', cap', hdv'⟩ := ReadsAt.value hx1.data
    rw [hdv] at hdv'
    simp only [Value.slice.injEq] at hdv'
    obtain ⟨_, hlen, _⟩ := hdv'
    subst hlen
    have hdl := hx1.ok.data
    simp only [lim] at hdl
    generalize hk : x1.1.data.length % 256 = k
    have hk1 : k < 256 := by omega
    have hk2 : k ≤ x1.1.data.length := by rw [← hk]; exact Nat.mod_le _ _
    refine WC_seq (WC_draws (fun _ => True) (by kernel_rfl) (fun _ _ => trivial) ?_)
    intro w5 g5 _
    have hS5 := g5.kept h2
    have hval : (recCells x1).toArray.toList[6]? = some (.slice ao x1.1.data.length cap) := by rw [← hdv]; rfl
    refine WT 0 ?_
    refine WT 5 ?_
    refine WD_take (i := 6) rfl rfl rfl rfl (by kernel_rfl) (by assumption) (fun w' hS => by exact Y_conv (c := (x3 : Int)) vv (by rw [IntWalk.i64_in _ (by omega)])) ?_
    refine WT 9 ?_
    refine WT 11 ?_
    refine WD_three (c := 1) (c' := 10) (c'' := 12) (by kernel_rfl) rfl rfl rfl ?_ ?_ ?_
    · refine WL_load vv (by assumption) hval ?_
      refine WL_nil ⟨trivial, ?_⟩
      refine WT 2 ?_
      refine WD_take (i := 3) rfl rfl rfl rfl (by kernel_rfl) (by assumption) (fun w' hS => by exact Y_rem vv rfl (by decide)) ?_
      rw [hk]
      refine WD_take (i := 4) rfl rfl rfl rfl (by kernel_rfl) (by assumption) (fun w' hS => by exact Y_sub (c := ((65536 - k : Nat) : Int)) vv vv (by rw [IntWalk.i64_in _ (by omega)]; omega)) ?_
      refine WD_take (i := 7) rfl rfl rfl rfl (by kernel_rfl) (by assumption) (fun w' hS => by exact Y_add (c := ((65536 - k + x3 : Nat) : Int)) vv vv (by rw [IntWalk.i64_in _ (by omega)]; omega)) ?_
      refine WD_three (c := 8) (c' := 10) (c'' := 12) (by kernel_rfl) rfl rfl rfl ?_ ?_ ?_
      · refine WL_makeB vv (by omega) ?_
        intro b8 w6 hb8 h8 g6
        have hS6 := g6.kept hS5
        refine WL_nil ⟨trivial, ?_⟩
        refine WD_two (c := 10) (c' := 12) (by kernel_rfl) rfl rfl ?_ ?_
        · refine WL_load vv (by assumption) hval ?_
          refine WL_nil ⟨trivial, ?_⟩
          refine WD_one (c := 12) (by kernel_rfl) rfl ?_
          refine WL_load vv (by assumption) hval ?_
          refine WL_nil ⟨trivial, ?_⟩
          refine WT 13 ?_
          refine WD_take (i := 14) rfl rfl rfl rfl (by kernel_rfl) (by assumption) (fun w' hS => by exact Y_rem vv rfl (by decide)) ?_
          rw [hk]
          refine WD_take (i := 15) rfl rfl rfl rfl (by kernel_rfl) (by assumption) (fun w' hS => by exact Y_sliceTo (h := k) vv vv (by omega)) ?_
          have hA : AccB w.heap.size w6 (.slice (some ⟨b8, 0, none⟩) (65536 - k + x3) (65536 - k + x3)) (List.replicate (65536 - k + x3) 0) := accB_cells h8 (zeros_cells _) (by simp) (by simp only [maxLen]; omega) (by have := (G3.trans g5).size; omega)
          have hsub : BytesAt w6 (.slice (if cap = 0 then ao else ao.map (·.add (0 * 1))) (0 + k - 0) (cap - 0)) ((x1.1.data.drop 0).take k) := by
            have hb : BytesAt w6 x1.2.dv x1.1.data := BytesAt.grow hdat (g5.trans g6)
            rw [hdv] at hb
            exact sub_bytes hb hcap (l := 0) (n := k) (by omega)
          rw [List.drop_zero] at hsub
          refine WD_one (c := 16) (by kernel_rfl) rfl ?_
          refine WL_appendB vv hA.own vv hsub (by simp only [List.length_replicate, List.length_take]; omega) (by simp only [List.length_take]; omega) ?_
          intro dv w7 hgr
          have hA7 := AccB.grew hA hgr (G3.trans (g5.trans g6)).size
          have G7 : Grows w w7 := AccB.grows hA hgr (G3.trans (g5.trans g6))
          have h87 := own_ne hA.own hS6 (by decide)
          have hS7 := Grew.kept hgr hS6 h87
          have h17 := Grew.kept hgr ((g5.trans g6).kept h1) (own_ne hA.own ((g5.trans g6).kept h1) (by decide))
          have h37 := Grew.kept hgr ((g5.trans g6).kept h3) (own_ne hA.own ((g5.trans g6).kept h3) (by decide))
          refine WL_nil ⟨trivial, ?_⟩
          refine WT 17 ?_
          refine WD_one (c := 18) (by kernel_rfl) rfl ?_
          obtain ⟨aoz, capz, hdz⟩ := ReadsAt.value hA7.reads
          refine WL_store1 vv vv hS7 (by simp [recCells]) (by rw [hdz]; rfl) ?_
          intro w8 hw8 h8'
          generalize hnew : (List.replicate (65536 - k + x3) (0 : UInt8) ++ x1.1.data.take k) = nd at hA7
          have hnl : nd.length = 65536 + x3 := by rw [← hnew, List.length_append, List.length_replicate, List.length_take]; omega
          have h28 : w8.heap[b2]? = some (.cells (recCells ({ x1.1 with data := nd }, { x1.2 with dv := dv })).toArray 30 (0, 0)) := h8'
          have G8 : Grows w w8 := G7.wrote hw8 hz2
          have hdat8 : BytesAt w8 dv nd := AccB.reads (Acc.wrote_ hA7 hw8 (own_ne hA7.own hS7 (by decide)))
          have n12 : b1 ≠ b2 := by omega
          have n32 : b3 ≠ b2 := by omega
          have h18 := hw8.kept h17 (by have := hb2; omega)
          have h38 := hw8.kept h37 n32
          have hr8 : RecAt w8 ({ x1.1 with data := nd }, { x1.2 with dv := dv }) := by
            have o := hx1.ok
            have q := hx1.grow G8
            exact ⟨⟨o.name, o.host, o.box, by simp only [lim]; omega, o.type, o.cls, o.ttl, o.len, o.n1, o.n2, o.n3, o.n4, o.n5, o.texts, o.pairs⟩, hdat8, q.texts, q.pairs⟩
          obtain ⟨r, hr⟩ : ∃ r : RecM × RecV, r = ({ x1.1 with data := nd }, { x1.2 with dv := dv }) := ⟨_, rfl⟩
          have hrn : nameOk r.1.name = true := by rw [hr]; exact hnm
          have hrl : r.1.data.length = 65536 + x3 := by rw [hr]; exact hnl
          rw [← hr] at h28 hr8
          refine WL_nil ⟨trivial, ?_⟩
          refine WD_done (by kernel_rfl) ?_
          refine GO ?_
          refine WL_loadRow vv h18 rfl ?_
          refine WL_loadRow vv h28 rfl ?_
          refine WL_loadRow vv h38 rfl ?_
          refine WL_fun rfl ((laws_refused kc_Unknown w8 h r x2 hid hr8 (hx2.grow G8) (tooLong hrn (by omega)) (by first | omega | (simp only; omega)) (hE.grow G8) (hKn.grow G8)).mono ?_)
          rintro e w9 ⟨rfl, g9⟩
          refine ⟨_, rfl, ?_⟩
          have g9 : Grows w8 w9 := g9
          refine GO ?_
          exact ret1 (v := .bool true) Tryd.results5 rfl ⟨rfl, G8.trans g9⟩
        · refine WL_load vv (by assumption) hval ?_
          refine WL_nil ⟨trivial, ?_⟩
          refine WT 13 ?_
          refine WD_take (i := 14) rfl rfl rfl rfl (by kernel_rfl) (by assumption) (fun w' hS => by exact Y_rem vv rfl (by decide)) ?_
          rw [hk]
          refine WD_one (c := 10) (by kernel_rfl) rfl ?_
          refine WL_load vv (by assumption) hval ?_
          refine WL_nil ⟨trivial, ?_⟩
          refine WD_take (i := 15) rfl rfl rfl rfl (by kernel_rfl) (by assumption) (fun w' hS => by exact Y_sliceTo (h := k) vv vv (by omega)) ?_
          have hA : AccB w.heap.size w6 (.slice (some ⟨b8, 0, none⟩) (65536 - k + x3) (65536 - k + x3)) (List.replicate (65536 - k + x3) 0) := accB_cells h8 (zeros_cells _) (by simp) (by simp only [maxLen]; omega) (by have := (G3.trans g5).size; omega)
          have hsub : BytesAt w6 (.slice (if cap = 0 then ao else ao.map (·.add (0 * 1))) (0 + k - 0) (cap - 0)) ((x1.1.data.drop 0).take k) := by
            have hb : BytesAt w6 x1.2.dv x1.1.data := BytesAt.grow hdat (g5.trans g6)
            rw [hdv] at hb
            exact sub_bytes hb hcap (l := 0) (n := k) (by omega)
          rw [List.drop_zero] at hsub
          refine WD_one (c := 16) (by kernel_rfl) rfl ?_
          refine WL_appendB vv hA.own vv hsub (by simp only [List.length_replicate, List.length_take]; omega) (by simp only [List.length_take]; omega) ?_
          intro dv w7 hgr
          have hA7 := AccB.grew hA hgr (G3.trans (g5.trans g6)).size
          have G7 : Grows w w7 := AccB.grows hA hgr (G3.trans (g5.trans g6))
          have h87 := own_ne hA.own hS6 (by decide)
          have hS7 := Grew.kept hgr hS6 h87
          have h17 := Grew.kept hgr ((g5.trans g6).kept h1) (own_ne hA.own ((g5.trans g6).kept h1) (by decide))
          have h37 := Grew.kept hgr ((g5.trans g6).kept h3) (own_ne hA.own ((g5.trans g6).kept h3) (by decide))
          refine WL_nil ⟨trivial, ?_⟩
          refine WT 17 ?_
          refine WD_one (c := 18) (by kernel_rfl) rfl ?_
          obtain ⟨aoz, capz, hdz⟩ := ReadsAt.value hA7.reads
          refine WL_store1 vv vv hS7 (by simp [recCells]) (by rw [hdz]; rfl) ?_
          intro w8 hw8 h8'
          generalize hnew : (List.replicate (65536 - k + x3) (0 : UInt8) ++ x1.1.data.take k) = nd at hA7
          have hnl : nd.length = 65536 + x3 := by rw [← hnew, List.length_append, List.length_replicate, List.length_take]; omega
          have h28 : w8.heap[b2]? = some (.cells (recCells ({ x1.1 with data := nd }, { x1.2 with dv := dv })).toArray 30 (0, 0)) := h8'
          have G8 : Grows w w8 := G7.wrote hw8 hz2
          have hdat8 : BytesAt w8 dv nd := AccB.reads (Acc.wrote_ hA7 hw8 (own_ne hA7.own hS7 (by decide)))
          have n12 : b1 ≠ b2 := by omega
          have n32 : b3 ≠ b2 := by omega
          have h18 := hw8.kept h17 (by have := hb2; omega)
          have h38 := hw8.kept h37 n32
          have hr8 : RecAt w8 ({ x1.1 with data := nd }, { x1.2 with dv := dv }) := by
            have o := hx1.ok
            have q := hx1.grow G8
            exact ⟨⟨o.name, o.host, o.box, by simp only [lim]; omega, o.type, o.cls, o.ttl, o.len, o.n1, o.n2, o.n3, o.n4, o.n5, o.texts, o.pairs⟩, hdat8, q.texts, q.pairs⟩
          obtain ⟨r, hr⟩ : ∃ r : RecM × RecV, r = ({ x1.1 with data := nd }, { x1.2 with dv := dv }) := ⟨_, rfl⟩
          have hrn : nameOk r.1.name = true := by rw [hr]; exact hnm
          have hrl : r.1.data.length = 65536 + x3 := by rw [hr]; exact hnl
          rw [← hr] at h28 hr8
          refine WL_nil ⟨trivial, ?_⟩
          refine WD_done (by kernel_rfl) ?_
          refine GO ?_
          refine WL_loadRow vv h18 rfl ?_
          refine WL_loadRow vv h28 rfl ?_
          refine WL_loadRow vv h38 rfl ?_
          refine WL_fun rfl ((laws_refused kc_Unknown w8 h r x2 hid hr8 (hx2.grow G8) (tooLong hrn (by omega)) (by first | omega | (simp only; omega)) (hE.grow G8) (hKn.grow G8)).mono ?_)
          rintro e w9 ⟨rfl, g9⟩
          refine ⟨_, rfl, ?_⟩
          have g9 : Grows w8 w9 := g9
          refine GO ?_
          exact ret1 (v := .bool true) Tryd.results5 rfl ⟨rfl, G8.trans g9⟩
      · refine WL_load vv (by assumption) hval ?_
        refine WL_nil ⟨trivial, ?_⟩
        refine WD_two (c := 8) (c' := 12) (by kernel_rfl) rfl rfl ?_ ?_
        · refine WL_makeB vv (by omega) ?_
          intro b8 w6 hb8 h8 g6
          have hS6 := g6.kept hS5
          refine WL_nil ⟨trivial, ?_⟩
          refine WD_one (c := 12) (by kernel_rfl) rfl ?_
          refine WL_load vv (by assumption) hval ?_
          refine WL_nil ⟨trivial, ?_⟩
          refine WT 13 ?_
          refine WD_take (i := 14) rfl rfl rfl rfl (by kernel_rfl) (by assumption) (fun w' hS => by exact Y_rem vv rfl (by decide)) ?_
          rw [hk]
          refine WD_take (i := 15) rfl rfl rfl rfl (by kernel_rfl) (by assumption) (fun w' hS => by exact Y_sliceTo (h := k) vv vv (by omega)) ?_
          have hA : AccB w.heap.size w6 (.slice (some ⟨b8, 0, none⟩) (65536 - k + x3) (65536 - k + x3)) (List.replicate (65536 - k + x3) 0) := accB_cells h8 (zeros_cells _) (by simp) (by simp only [maxLen]; omega) (by have := (G3.trans g5).size; omega)
          have hsub : BytesAt w6 (.slice (if cap = 0 then ao else ao.map (·.add (0 * 1))) (0 + k - 0) (cap - 0)) ((x1.1.data.drop 0).take k) := by
            have hb : BytesAt w6 x1.2.dv x1.1.data := BytesAt.grow hdat (g5.trans g6)
            rw [hdv] at hb
            exact sub_bytes hb hcap (l := 0) (n := k) (by omega)
          rw [List.drop_zero] at hsub
          refine WD_one (c := 16) (by kernel_rfl) rfl ?_
          refine WL_appendB vv hA.own vv hsub (by simp only [List.length_replicate, List.length_take]; omega) (by simp only [List.length_take]; omega) ?_
          intro dv w7 hgr
          have hA7 := AccB.grew hA hgr (G3.trans (g5.trans g6)).size
          have G7 : Grows w w7 := AccB.grows hA hgr (G3.trans (g5.trans g6))
          have h87 := own_ne hA.own hS6 (by decide)
          have hS7 := Grew.kept hgr hS6 h87
          have h17 := Grew.kept hgr ((g5.trans g6).kept h1) (own_ne hA.own ((g5.trans g6).kept h1) (by decide))
          have h37 := Grew.kept hgr ((g5.trans g6).kept h3) (own_ne hA.own ((g5.trans g6).kept h3) (by decide))
          refine WL_nil ⟨trivial, ?_⟩
          refine WT 17 ?_
          refine WD_one (c := 18) (by kernel_rfl) rfl ?_
          obtain ⟨aoz, capz, hdz⟩ := ReadsAt.value hA7.reads
          refine WL_store1 vv vv hS7 (by simp [recCells]) (by rw [hdz]; rfl) ?_
          intro w8 hw8 h8'
          generalize hnew : (List.replicate (65536 - k + x3) (0 : UInt8) ++ x1.1.data.take k) = nd at hA7
          have hnl : nd.length = 65536 + x3 := by rw [← hnew, List.length_append, List.length_replicate, List.length_take]; omega
          have h28 : w8.heap[b2]? = some (.cells (recCells ({ x1.1 with data := nd }, { x1.2 with dv := dv })).toArray 30 (0, 0)) := h8'
          have G8 : Grows w w8 := G7.wrote hw8 hz2
          have hdat8 : BytesAt w8 dv nd := AccB.reads (Acc.wrote_ hA7 hw8 (own_ne hA7.own hS7 (by decide)))
          have n12 : b1 ≠ b2 := by omega
          have n32 : b3 ≠ b2 := by omega
          have h18 := hw8.kept h17 (by have := hb2; omega)
          have h38 := hw8.kept h37 n32
          have hr8 : RecAt w8 ({ x1.1 with data := nd }, { x1.2 with dv := dv }) := by
            have o := hx1.ok
            have q := hx1.grow G8
            exact ⟨⟨o.name, o.host, o.box, by simp only [lim]; omega, o.type, o.cls, o.ttl, o.len, o.n1, o.n2, o.n3, o.n4, o.n5, o.texts, o.pairs⟩, hdat8, q.texts, q.pairs⟩
          obtain ⟨r, hr⟩ : ∃ r : RecM × RecV, r = ({ x1.1 with data := nd }, { x1.2 with dv := dv }) := ⟨_, rfl⟩
          have hrn : nameOk r.1.name = true := by rw [hr]; exact hnm
          have hrl : r.1.data.length = 65536 + x3 := by rw [hr]; exact hnl
          rw [← hr] at h28 hr8
          refine WL_nil ⟨trivial, ?_⟩
          refine WD_done (by kernel_rfl) ?_
          refine GO ?_
          refine WL_loadRow vv h18 rfl ?_
          refine WL_loadRow vv h28 rfl ?_
          refine WL_loadRow vv h38 rfl ?_
          refine WL_fun rfl ((laws_refused kc_Unknown w8 h r x2 hid hr8 (hx2.grow G8) (tooLong hrn (by omega)) (by first | omega | (simp only; omega)) (hE.grow G8) (hKn.grow G8)).mono ?_)
          rintro e w9 ⟨rfl, g9⟩
          refine ⟨_, rfl, ?_⟩
          have g9 : Grows w8 w9 := g9
          refine GO ?_
          exact ret1 (v := .bool true) Tryd.results5 rfl ⟨rfl, G8.trans g9⟩
        · refine WL_load vv (by assumption) hval ?_
          refine WL_nil ⟨trivial, ?_⟩
          refine WT 13 ?_
          refine WD_take (i := 14) rfl rfl rfl rfl (by kernel_rfl) (by assumption) (fun w' hS => by exact Y_rem vv rfl (by decide)) ?_
          rw [hk]
          refine WD_take (i := 15) rfl rfl rfl rfl (by kernel_rfl) (by assumption) (fun w' hS => by exact Y_sliceTo (h := k) vv vv (by omega)) ?_
          refine WD_one (c := 8) (by kernel_rfl) rfl ?_
          refine WL_makeB vv (by omega) ?_
          intro b8 w6 hb8 h8 g6
          have hS6 := g6.kept hS5
          refine WL_nil ⟨trivial, ?_⟩
          have hA : AccB w.heap.size w6 (.slice (some ⟨b8, 0, none⟩) (65536 - k + x3) (65536 - k + x3)) (List.replicate (65536 - k + x3) 0) := accB_cells h8 (zeros_cells _) (by simp) (by simp only [maxLen]; omega) (by have := (G3.trans g5).size; omega)
          have hsub : BytesAt w6 (.slice (if cap = 0 then ao else ao.map (·.add (0 * 1))) (0 + k - 0) (cap - 0)) ((x1.1.data.drop 0).take k) := by
            have hb : BytesAt w6 x1.2.dv x1.1.data := BytesAt.grow hdat (g5.trans g6)
            rw [hdv] at hb
            exact sub_bytes hb hcap (l := 0) (n := k) (by omega)
          rw [List.drop_zero] at hsub
          refine WD_one (c := 16) (by kernel_rfl) rfl ?_
          refine WL_appendB vv hA.own vv hsub (by simp only [List.length_replicate, List.length_take]; omega) (by simp only [List.length_take]; omega) ?_
          intro dv w7 hgr
          have hA7 := AccB.grew hA hgr (G3.trans (g5.trans g6)).size
          have G7 : Grows w w7 := AccB.grows hA hgr (G3.trans (g5.trans g6))
          have h87 := own_ne hA.own hS6 (by decide)
          have hS7 := Grew.kept hgr hS6 h87
          have h17 := Grew.kept hgr ((g5.trans g6).kept h1) (own_ne hA.own ((g5.trans g6).kept h1) (by decide))
          have h37 := Grew.kept hgr ((g5.trans g6).kept h3) (own_ne hA.own ((g5.trans g6).kept h3) (by decide))
          refine WL_nil ⟨trivial, ?_⟩
          refine WT 17 ?_
          refine WD_one (c := 18) (by kernel_rfl) rfl ?_
          obtain ⟨aoz, capz, hdz⟩ := ReadsAt.value hA7.reads
          refine WL_store1 vv vv hS7 (by simp [recCells]) (by rw [hdz]; rfl) ?_
          intro w8 hw8 h8'
          generalize hnew : (List.replicate (65536 - k + x3) (0 : UInt8) ++ x1.1.data.take k) = nd at hA7
          have hnl : nd.length = 65536 + x3 := by rw [← hnew, List.length_append, List.length_replicate, List.length_take]; omega
          have h28 : w8.heap[b2]? = some (.cells (recCells ({ x1.1 with data := nd }, { x1.2 with dv := dv })).toArray 30 (0, 0)) := h8'
          have G8 : Grows w w8 := G7.wrote hw8 hz2
          have hdat8 : BytesAt w8 dv nd := AccB.reads (Acc.wrote_ hA7 hw8 (own_ne hA7.own hS7 (by decide)))
          have n12 : b1 ≠ b2 := by omega
          have n32 : b3 ≠ b2 := by omega
          have h18 := hw8.kept h17 (by have := hb2; omega)
          have h38 := hw8.kept h37 n32
          have hr8 : RecAt w8 ({ x1.1 with data := nd }, { x1.2 with dv := dv }) := by
            have o := hx1.ok
            have q := hx1.grow G8
            exact ⟨⟨o.name, o.host, o.box, by simp only [lim]; omega, o.type, o.cls, o.ttl, o.len, o.n1, o.n2, o.n3, o.n4, o.n5, o.texts, o.pairs⟩, hdat8, q.texts, q.pairs⟩
          obtain ⟨r, hr⟩ : ∃ r : RecM × RecV, r = ({ x1.1 with data := nd }, { x1.2 with dv := dv }) := ⟨_, rfl⟩
          have hrn : nameOk r.1.name = true := by rw [hr]; exact hnm
          have hrl : r.1.data.length = 65536 + x3 := by rw [hr]; exact hnl
          rw [← hr] at h28 hr8
          refine WL_nil ⟨trivial, ?_⟩
          refine WD_done (by kernel_rfl) ?_
          refine GO ?_
          refine WL_loadRow vv h18 rfl ?_
          refine WL_loadRow vv h28 rfl ?_
          refine WL_loadRow vv h38 rfl ?_
          refine WL_fun rfl ((laws_refused kc_Unknown w8 h r x2 hid hr8 (hx2.grow G8) (tooLong hrn (by omega)) (by first | omega | (simp only; omega)) (hE.grow G8) (hKn.grow G8)).mono ?_)
          rintro e w9 ⟨rfl, g9⟩
          refine ⟨_, rfl, ?_⟩
          have g9 : Grows w8 w9 := g9
          refine GO ?_
          exact ret1 (v := .bool true) Tryd.results5 rfl ⟨rfl, G8.trans g9⟩
      · refine WL_load vv (by assumption) hval ?_
        refine WL_nil ⟨trivial, ?_⟩
        refine WT 13 ?_
        refine WD_take (i := 14) rfl rfl rfl rfl (by kernel_rfl) (by assumption) (fun w' hS => by exact Y_rem vv rfl (by decide)) ?_
        rw [hk]
        refine WD_two (c := 8) (c' := 10) (by kernel_rfl) rfl rfl ?_ ?_
        · refine WL_makeB vv (by omega) ?_
          intro b8 w6 hb8 h8 g6
          have hS6 := g6.kept hS5
          refine WL_nil ⟨trivial, ?_⟩
          refine WD_one (c := 10) (by kernel_rfl) rfl ?_
          refine WL_load vv (by assumption) hval ?_
          refine WL_nil ⟨trivial, ?_⟩
          refine WD_take (i := 15) rfl rfl rfl rfl (by kernel_rfl) (by assumption) (fun w' hS => by exact Y_sliceTo (h := k) vv vv (by omega)) ?_
          have hA : AccB w.heap.size w6 (.slice (some ⟨b8, 0, none⟩) (65536 - k + x3) (65536 - k + x3)) (List.replicate (65536 - k + x3) 0) := accB_cells h8 (zeros_cells _) (by simp) (by simp only [maxLen]; omega) (by have := (G3.trans g5).size; omega)
          have hsub : BytesAt w6 (.slice (if cap = 0 then ao else ao.map (·.add (0 * 1))) (0 + k - 0) (cap - 0)) ((x1.1.data.drop 0).take k) := by
            have hb : BytesAt w6 x1.2.dv x1.1.data := BytesAt.grow hdat (g5.trans g6)
            rw [hdv] at hb
            exact sub_bytes hb hcap (l := 0) (n := k) (by omega)
          rw [List.drop_zero] at hsub
          refine WD_one (c := 16) (by kernel_rfl) rfl ?_
          refine WL_appendB vv hA.own vv hsub (by simp only [List.length_replicate, List.length_take]; omega) (by simp only [List.length_take]; omega) ?_
          intro dv w7 hgr
          have hA7 := AccB.grew hA hgr (G3.trans (g5.trans g6)).size
          have G7 : Grows w w7 := AccB.grows hA hgr (G3.trans (g5.trans g6))
          have h87 := own_ne hA.own hS6 (by decide)
          have hS7 := Grew.kept hgr hS6 h87
          have h17 := Grew.kept hgr ((g5.trans g6).kept h1) (own_ne hA.own ((g5.trans g6).kept h1) (by decide))
          have h37 := Grew.kept hgr ((g5.trans g6).kept h3) (own_ne hA.own ((g5.trans g6).kept h3) (by decide))
          refine WL_nil ⟨trivial, ?_⟩
          refine WT 17 ?_
          refine WD_one (c := 18) (by kernel_rfl) rfl ?_
          obtain ⟨aoz, capz, hdz⟩ := ReadsAt.value hA7.reads
          refine WL_store1 vv vv hS7 (by simp [recCells]) (by rw [hdz]; rfl) ?_
          intro w8 hw8 h8'
          generalize hnew : (List.replicate (65536 - k + x3) (0 : UInt8) ++ x1.1.data.take k) = nd at hA7
          have hnl : nd.length = 65536 + x3 := by rw [← hnew, List.length_append, List.length_replicate, List.length_take]; omega
          have h28 : w8.heap[b2]? = some (.cells (recCells ({ x1.1 with data := nd }, { x1.2 with dv := dv })).toArray 30 (0, 0)) := h8'
          have G8 : Grows w w8 := G7.wrote hw8 hz2
          have hdat8 : BytesAt w8 dv nd := AccB.reads (Acc.wrote_ hA7 hw8 (own_ne hA7.own hS7 (by decide)))
          have n12 : b1 ≠ b2 := by omega
          have n32 : b3 ≠ b2 := by omega
          have h18 := hw8.kept h17 (by have := hb2; omega)
          have h38 := hw8.kept h37 n32
          have hr8 : RecAt w8 ({ x1.1 with data := nd }, { x1.2 with dv := dv }) := by
            have o := hx1.ok
            have q := hx1.grow G8
            exact ⟨⟨o.name, o.host, o.box, by simp only [lim]; omega, o.type, o.cls, o.ttl, o.len, o.n1, o.n2, o.n3, o.n4, o.n5, o.texts, o.pairs⟩, hdat8, q.texts, q.pairs⟩
          obtain ⟨r, hr⟩ : ∃ r : RecM × RecV, r = ({ x1.1 with data := nd }, { x1.2 with dv := dv }) := ⟨_, rfl⟩
          have hrn : nameOk r.1.name = true := by rw [hr]; exact hnm
          have hrl : r.1.data.length = 65536 + x3 := by rw [hr]; exact hnl
          rw [← hr] at h28 hr8
          refine WL_nil ⟨trivial, ?_⟩
          refine WD_done (by kernel_rfl) ?_
          refine GO ?_
          refine WL_loadRow vv h18 rfl ?_
          refine WL_loadRow vv h28 rfl ?_
          refine WL_loadRow vv h38 rfl ?_
          refine WL_fun rfl ((laws_refused kc_Unknown w8 h r x2 hid hr8 (hx2.grow G8) (tooLong hrn (by omega)) (by first | omega | (simp only; omega)) (hE.grow G8) (hKn.grow G8)).mono ?_)
          rintro e w9 ⟨rfl, g9⟩
          refine ⟨_, rfl, ?_⟩
          have g9 : Grows w8 w9 := g9
          refine GO ?_
          exact ret1 (v := .bool true) Tryd.results5 rfl ⟨rfl, G8.trans g9⟩
        · refine WL_load vv (by assumption) hval ?_
          refine WL_nil ⟨trivial, ?_⟩
          refine WD_take (i := 15) rfl rfl rfl rfl (by kernel_rfl) (by assumption) (fun w' hS => by exact Y_sliceTo (h := k) vv vv (by omega)) ?_
          refine WD_one (c := 8) (by kernel_rfl) rfl ?_
          refine WL_makeB vv (by omega) ?_
          intro b8 w6 hb8 h8 g6
          have hS6 := g6.kept hS5
          refine WL_nil ⟨trivial, ?_⟩
          have hA : AccB w.heap.size w6 (.slice (some ⟨b8, 0, none⟩) (65536 - k + x3) (65536 - k + x3)) (List.replicate (65536 - k + x3) 0) := accB_cells h8 (zeros_cells _) (by simp) (by simp only [maxLen]; omega) (by have := (G3.trans g5).size; omega)
          have hsub : BytesAt w6 (.slice (if cap = 0 then ao else ao.map (·.add (0 * 1))) (0 + k - 0) (cap - 0)) ((x1.1.data.drop 0).take k) := by
            have hb : BytesAt w6 x1.2.dv x1.1.data := BytesAt.grow hdat (g5.trans g6)
            rw [hdv] at hb
            exact sub_bytes hb hcap (l := 0) (n := k) (by omega)
          rw [List.drop_zero] at hsub
          refine WD_one (c := 16) (by kernel_rfl) rfl ?_
          refine WL_appendB vv hA.own vv hsub (by simp only [List.length_replicate, List.length_take]; omega) (by simp only [List.length_take]; omega) ?_
          intro dv w7 hgr
          have hA7 := AccB.grew hA hgr (G3.trans (g5.trans g6)).size
          have G7 : Grows w w7 := AccB.grows hA hgr (G3.trans (g5.trans g6))
          have h87 := own_ne hA.own hS6 (by decide)
          have hS7 := Grew.kept hgr hS6 h87
          have h17 := Grew.kept hgr ((g5.trans g6).kept h1) (own_ne hA.own ((g5.trans g6).kept h1) (by decide))
          have h37 := Grew.kept hgr ((g5.trans g6).kept h3) (own_ne hA.own ((g5.trans g6).kept h3) (by decide))
          refine WL_nil ⟨trivial, ?_⟩
          refine WT 17 ?_
          refine WD_one (c := 18) (by kernel_rfl) rfl ?_
          obtain ⟨aoz, capz, hdz⟩ := ReadsAt.value hA7.reads
          refine WL_store1 vv vv hS7 (by simp [recCells]) (by rw [hdz]; rfl) ?_
          intro w8 hw8 h8'
          generalize hnew : (List.replicate (65536 - k + x3) (0 : UInt8) ++ x1.1.data.take k) = nd at hA7
          have hnl : nd.length = 65536 + x3 := by rw [← hnew, List.length_append, List.length_replicate, List.length_take]; omega
          have h28 : w8.heap[b2]? = some (.cells (recCells ({ x1.1 with data := nd }, { x1.2 with dv := dv })).toArray 30 (0, 0)) := h8'
          have G8 : Grows w w8 := G7.wrote hw8 hz2
          have hdat8 : BytesAt w8 dv nd := AccB.reads (Acc.wrote_ hA7 hw8 (own_ne hA7.own hS7 (by decide)))
          have n12 : b1 ≠ b2 := by omega
          have n32 : b3 ≠ b2 := by omega
          have h18 := hw8.kept h17 (by have := hb2; omega)
          have h38 := hw8.kept h37 n32
          have hr8 : RecAt w8 ({ x1.1 with data := nd }, { x1.2 with dv := dv }) := by
            have o := hx1.ok
            have q := hx1.grow G8
            exact ⟨⟨o.name, o.host, o.box, by simp only [lim]; omega, o.type, o.cls, o.ttl, o.len, o.n1, o.n2, o.n3, o.n4, o.n5, o.texts, o.pairs⟩, hdat8, q.texts, q.pairs⟩
          obtain ⟨r, hr⟩ : ∃ r : RecM × RecV, r = ({ x1.1 with data := nd }, { x1.2 with dv := dv }) := ⟨_, rfl⟩
          have hrn : nameOk r.1.name = true := by rw [hr]; exact hnm
          have hrl : r.1.data.length = 65536 + x3 := by rw [hr]; exact hnl
          rw [← hr] at h28 hr8
          refine WL_nil ⟨trivial, ?_⟩
          refine WD_done (by kernel_rfl) ?_
          refine GO ?_
          refine WL_loadRow vv h18 rfl ?_
          refine WL_loadRow vv h28 rfl ?_
          refine WL_loadRow vv h38 rfl ?_
          refine WL_fun rfl ((laws_refused kc_Unknown w8 h r x2 hid hr8 (hx2.grow G8) (tooLong hrn (by omega)) (by first | omega | (simp only; omega)) (hE.grow G8) (hKn.grow G8)).mono ?_)
          rintro e w9 ⟨rfl, g9⟩
          refine ⟨_, rfl, ?_⟩
          have g9 : Grows w8 w9 := g9
          refine GO ?_
          exact ret1 (v := .bool true) Tryd.results5 rfl ⟨rfl, G8.trans g9⟩
    · refine WL_load vv (by assumption) hval ?_
      refine WL_nil ⟨trivial, ?_⟩
      refine WD_two (c := 1) (c' := 12) (by kernel_rfl) rfl rfl ?_ ?_
      · refine WL_load vv (by assumption) hval ?_
        refine WL_nil ⟨trivial, ?_⟩
        refine WT 2 ?_
        refine WD_take (i := 3) rfl rfl rfl rfl (by kernel_rfl) (by assumption) (fun w' hS => by exact Y_rem vv rfl (by decide)) ?_
        rw [hk]
        refine WD_take (i := 4) rfl rfl rfl rfl (by kernel_rfl) (by assumption) (fun w' hS => by exact Y_sub (c := ((65536 - k : Nat) : Int)) vv vv (by rw [IntWalk.i64_in _ (by omega)]; omega)) ?_
        refine WD_take (i := 7) rfl rfl rfl rfl (by kernel_rfl) (by assumption) (fun w' hS => by exact Y_add (c := ((65536 - k + x3 : Nat) : Int)) vv vv (by rw [IntWalk.i64_in _ (by omega)]; omega)) ?_
        refine WD_two (c := 8) (c' := 12) (by kernel_rfl) rfl rfl ?_ ?_
        · refine WL_makeB vv (by omega) ?_
          intro b8 w6 hb8 h8 g6
          have hS6 := g6.kept hS5
          refine WL_nil ⟨trivial, ?_⟩
          refine WD_one (c := 12) (by kernel_rfl) rfl ?_
          refine WL_load vv (by assumption) hval ?_
          refine WL_nil ⟨trivial, ?_⟩
          refine WT 13 ?_
          refine WD_take (i := 14) rfl rfl rfl rfl (by kernel_rfl) (by assumption) (fun w' hS => by exact Y_rem vv rfl (by decide)) ?_
          rw [hk]
          refine WD_take (i := 15) rfl rfl rfl rfl (by kernel_rfl) (by assumption) (fun w' hS => by exact Y_sliceTo (h := k) vv vv (by omega)) ?_
          have hA : AccB w.heap.size w6 (.slice (some ⟨b8, 0, none⟩) (65536 - k + x3) (65536 - k + x3)) (List.replicate (65536 - k + x3) 0) := accB_cells h8 (zeros_cells _) (by simp) (by simp only [maxLen]; omega) (by have := (G3.trans g5).size; omega)
          have hsub : BytesAt w6 (.slice (if cap = 0 then ao else ao.map (·.add (0 * 1))) (0 + k - 0) (cap - 0)) ((x1.1.data.drop 0).take k) := by
            have hb : BytesAt w6 x1.2.dv x1.1.data := BytesAt.grow hdat (g5.trans g6)
            rw [hdv] at hb
            exact sub_bytes hb hcap (l := 0) (n := k) (by omega)
          rw [List.drop_zero] at hsub
          refine WD_one (c := 16) (by kernel_rfl) rfl ?_
          refine WL_appendB vv hA.own vv hsub (by simp only [List.length_replicate, List.length_take]; omega) (by simp only [List.length_take]; omega) ?_
          intro dv w7 hgr
          have hA7 := AccB.grew hA hgr (G3.trans (g5.trans g6)).size
          have G7 : Grows w w7 := AccB.grows hA hgr (G3.trans (g5.trans g6))
          have h87 := own_ne hA.own hS6 (by decide)
          have hS7 := Grew.kept hgr hS6 h87
          have h17 := Grew.kept hgr ((g5.trans g6).kept h1) (own_ne hA.own ((g5.trans g6).kept h1) (by decide))
          have h37 := Grew.kept hgr ((g5.trans g6).kept h3) (own_ne hA.own ((g5.trans g6).kept h3) (by decide))
          refine WL_nil ⟨trivial, ?_⟩
          refine WT 17 ?_
          refine WD_one (c := 18) (by kernel_rfl) rfl ?_
          obtain ⟨aoz, capz, hdz⟩ := ReadsAt.value hA7.reads
          refine WL_store1 vv vv hS7 (by simp [recCells]) (by rw [hdz]; rfl) ?_
          intro w8 hw8 h8'
          generalize hnew : (List.replicate (65536 - k + x3) (0 : UInt8) ++ x1.1.data.take k) = nd at hA7
          have hnl : nd.length = 65536 + x3 := by rw [← hnew, List.length_append, List.length_replicate, List.length_take]; omega
          have h28 : w8.heap[b2]? = some (.cells (recCells ({ x1.1 with data := nd }, { x1.2 with dv := dv })).toArray 30 (0, 0)) := h8'
          have G8 : Grows w w8 := G7.wrote hw8 hz2
          have hdat8 : BytesAt w8 dv nd := AccB.reads (Acc.wrote_ hA7 hw8 (own_ne hA7.own hS7 (by decide)))
          have n12 : b1 ≠ b2 := by omega
          have n32 : b3 ≠ b2 := by omega
          have h18 := hw8.kept h17 (by have := hb2; omega)
          have h38 := hw8.kept h37 n32
          have hr8 : RecAt w8 ({ x1.1 with data := nd }, { x1.2 with dv := dv }) := by
            have o := hx1.ok
            have q := hx1.grow G8
            exact ⟨⟨o.name, o.host, o.box, by simp only [lim]; omega, o.type, o.cls, o.ttl, o.len, o.n1, o.n2, o.n3, o.n4, o.n5, o.texts, o.pairs⟩, hdat8, q.texts, q.pairs⟩
          obtain ⟨r, hr⟩ : ∃ r : RecM × RecV, r = ({ x1.1 with data := nd }, { x1.2 with dv := dv }) := ⟨_, rfl⟩
          have hrn : nameOk r.1.name = true := by rw [hr]; exact hnm
          have hrl : r.1.data.length = 65536 + x3 := by rw [hr]; exact hnl
          rw [← hr] at h28 hr8
          refine WL_nil ⟨trivial, ?_⟩
          refine WD_done (by kernel_rfl) ?_
          refine GO ?_
          refine WL_loadRow vv h18 rfl ?_
          refine WL_loadRow vv h28 rfl ?_
          refine WL_loadRow vv h38 rfl ?_
          refine WL_fun rfl ((laws_refused kc_Unknown w8 h r x2 hid hr8 (hx2.grow G8) (tooLong hrn (by omega)) (by first | omega | (simp only; omega)) (hE.grow G8) (hKn.grow G8)).mono ?_)
          rintro e w9 ⟨rfl, g9⟩
          refine ⟨_, rfl, ?_⟩
          have g9 : Grows w8 w9 := g9
          refine GO ?_
          exact ret1 (v := .bool true) Tryd.results5 rfl ⟨rfl, G8.trans g9⟩
        · refine WL_load vv (by assumption) hval ?_
          refine WL_nil ⟨trivial, ?_⟩
          refine WT 13 ?_
          refine WD_take (i := 14) rfl rfl rfl rfl (by kernel_rfl) (by assumption) (fun w' hS => by exact Y_rem vv rfl (by decide)) ?_
          rw [hk]
          refine WD_take (i := 15) rfl rfl rfl rfl (by kernel_rfl) (by assumption) (fun w' hS => by exact Y_sliceTo (h := k) vv vv (by omega)) ?_
          refine WD_one (c := 8) (by kernel_rfl) rfl ?_
          refine WL_makeB vv (by omega) ?_
          intro b8 w6 hb8 h8 g6
          have hS6 := g6.kept hS5
          refine WL_nil ⟨trivial, ?_⟩
          have hA : AccB w.heap.size w6 (.slice (some ⟨b8, 0, none⟩) (65536 - k + x3) (65536 - k + x3)) (List.replicate (65536 - k + x3) 0) := accB_cells h8 (zeros_cells _) (by simp) (by simp only [maxLen]; omega) (by have := (G3.trans g5).size; omega)
          have hsub : BytesAt w6 (.slice (if cap = 0 then ao else ao.map (·.add (0 * 1))) (0 + k - 0) (cap - 0)) ((x1.1.data.drop 0).take k) := by
            have hb : BytesAt w6 x1.2.dv x1.1.data := BytesAt.grow hdat (g5.trans g6)
            rw [hdv] at hb
            exact sub_bytes hb hcap (l := 0) (n := k) (by omega)
          rw [List.drop_zero] at hsub
          refine WD_one (c := 16) (by kernel_rfl) rfl ?_
          refine WL_appendB vv hA.own vv hsub (by simp only [List.length_replicate, List.length_take]; omega) (by simp only [List.length_take]; omega) ?_
          intro dv w7 hgr
          have hA7 := AccB.grew hA hgr (G3.trans (g5.trans g6)).size
          have G7 : Grows w w7 := AccB.grows hA hgr (G3.trans (g5.trans g6))
          have h87 := own_ne hA.own hS6 (by decide)
          have hS7 := Grew.kept hgr hS6 h87
          have h17 := Grew.kept hgr ((g5.trans g6).kept h1) (own_ne hA.own ((g5.trans g6).kept h1) (by decide))
          have h37 := Grew.kept hgr ((g5.trans g6).kept h3) (own_ne hA.own ((g5.trans g6).kept h3) (by decide))
          refine WL_nil ⟨trivial, ?_⟩
          refine WT 17 ?_
          refine WD_one (c := 18) (by kernel_rfl) rfl ?_
          obtain ⟨aoz, capz, hdz⟩ := ReadsAt.value hA7.reads
          refine WL_store1 vv vv hS7 (by simp [recCells]) (by rw [hdz]; rfl) ?_
          intro w8 hw8 h8'
          generalize hnew : (List.replicate (65536 - k + x3) (0 : UInt8) ++ x1.1.data.take k) = nd at hA7
          have hnl : nd.length = 65536 + x3 := by rw [← hnew, List.length_append, List.length_replicate, List.length_take]; omega
          have h28 : w8.heap[b2]? = some (.cells (recCells ({ x1.1 with data := nd }, { x1.2 with dv := dv })).toArray 30 (0, 0)) := h8'
          have G8 : Grows w w8 := G7.wrote hw8 hz2
          have hdat8 : BytesAt w8 dv nd := AccB.reads (Acc.wrote_ hA7 hw8 (own_ne hA7.own hS7 (by decide)))
          have n12 : b1 ≠ b2 := by omega
          have n32 : b3 ≠ b2 := by omega
          have h18 := hw8.kept h17 (by have := hb2; omega)
          have h38 := hw8.kept h37 n32
          have hr8 : RecAt w8 ({ x1.1 with data := nd }, { x1.2 with dv := dv }) := by
            have o := hx1.ok
            have q := hx1.grow G8
            exact ⟨⟨o.name, o.host, o.box, by simp only [lim]; omega, o.type, o.cls, o.ttl, o.len, o.n1, o.n2, o.n3, o.n4, o.n5, o.texts, o.pairs⟩, hdat8, q.texts, q.pairs⟩
          obtain ⟨r, hr⟩ : ∃ r : RecM × RecV, r = ({ x1.1 with data := nd }, { x1.2 with dv := dv }) := ⟨_, rfl⟩
          have hrn : nameOk r.1.name = true := by rw [hr]; exact hnm
          have hrl : r.1.data.length = 65536 + x3 := by rw [hr]; exact hnl
          rw [← hr] at h28 hr8
          refine WL_nil ⟨trivial, ?_⟩
          refine WD_done (by kernel_rfl) ?_
          refine GO ?_
          refine WL_loadRow vv h18 rfl ?_
          refine WL_loadRow vv h28 rfl ?_
          refine WL_loadRow vv h38 rfl ?_
          refine WL_fun rfl ((laws_refused kc_Unknown w8 h r x2 hid hr8 (hx2.grow G8) (tooLong hrn (by omega)) (by first | omega | (simp only; omega)) (hE.grow G8) (hKn.grow G8)).mono ?_)
          rintro e w9 ⟨rfl, g9⟩
          refine ⟨_, rfl, ?_⟩
          have g9 : Grows w8 w9 := g9
          refine GO ?_
          exact ret1 (v := .bool true) Tryd.results5 rfl ⟨rfl, G8.trans g9⟩
      · refine WL_load vv (by assumption) hval ?_
        refine WL_nil ⟨trivial, ?_⟩
        refine WT 13 ?_
        refine WD_take (i := 14) rfl rfl rfl rfl (by kernel_rfl) (by assumption) (fun w' hS => by exact Y_rem vv rfl (by decide)) ?_
        rw [hk]
        refine WD_take (i := 15) rfl rfl rfl rfl (by kernel_rfl) (by assumption) (fun w' hS => by exact Y_sliceTo (h := k) vv vv (by omega)) ?_
        refine WD_one (c := 1) (by kernel_rfl) rfl ?_
        refine WL_load vv (by assumption) hval ?_
        refine WL_nil ⟨trivial, ?_⟩
        refine WT 2 ?_
        refine WD_take (i := 3) rfl rfl rfl rfl (by kernel_rfl) (by assumption) (fun w' hS => by exact Y_rem vv rfl (by decide)) ?_
        rw [hk]
        refine WD_take (i := 4) rfl rfl rfl rfl (by kernel_rfl) (by assumption) (fun w' hS => by exact Y_sub (c := ((65536 - k : Nat) : Int)) vv vv (by rw [IntWalk.i64_in _ (by omega)]; omega)) ?_
        refine WD_take (i := 7) rfl rfl rfl rfl (by kernel_rfl) (by assumption) (fun w' hS => by exact Y_add (c := ((65536 - k + x3 : Nat) : Int)) vv vv (by rw [IntWalk.i64_in _ (by omega)]; omega)) ?_
        refine WD_one (c := 8) (by kernel_rfl) rfl ?_
        refine WL_makeB vv (by omega) ?_
        intro b8 w6 hb8 h8 g6
        have hS6 := g6.kept hS5
        refine WL_nil ⟨trivial, ?_⟩
        have hA : AccB w.heap.size w6 (.slice (some ⟨b8, 0, none⟩) (65536 - k + x3) (65536 - k + x3)) (List.replicate (65536 - k + x3) 0) := accB_cells h8 (zeros_cells _) (by simp) (by simp only [maxLen]; omega) (by have := (G3.trans g5).size; omega)
        have hsub : BytesAt w6 (.slice (if cap = 0 then ao else ao.map (·.add (0 * 1))) (0 + k - 0) (cap - 0)) ((x1.1.data.drop 0).take k) := by
          have hb : BytesAt w6 x1.2.dv x1.1.data := BytesAt.grow hdat (g5.trans g6)
          rw [hdv] at hb
          exact sub_bytes hb hcap (l := 0) (n := k) (by omega)
        rw [List.drop_zero] at hsub
        refine WD_one (c := 16) (by kernel_rfl) rfl ?_
        refine WL_appendB vv hA.own vv hsub (by simp only [List.length_replicate, List.length_take]; omega) (by simp only [List.length_take]; omega) ?_
        intro dv w7 hgr
        have hA7 := AccB.grew hA hgr (G3.trans (g5.trans g6)).size
        have G7 : Grows w w7 := AccB.grows hA hgr (G3.trans (g5.trans g6))
        have h87 := own_ne hA.own hS6 (by decide)
        have hS7 := Grew.kept hgr hS6 h87
        have h17 := Grew.kept hgr ((g5.trans g6).kept h1) (own_ne hA.own ((g5.trans g6).kept h1) (by decide))
        have h37 := Grew.kept hgr ((g5.trans g6).kept h3) (own_ne hA.own ((g5.trans g6).kept h3) (by decide))
        refine WL_nil ⟨trivial, ?_⟩
        refine WT 17 ?_
        refine WD_one (c := 18) (by kernel_rfl) rfl ?_
        obtain ⟨aoz, capz, hdz⟩ := ReadsAt.value hA7.reads
        refine WL_store1 vv vv hS7 (by simp [recCells]) (by rw [hdz]; rfl) ?_
        intro w8 hw8 h8'
        generalize hnew : (List.replicate (65536 - k + x3) (0 : UInt8) ++ x1.1.data.take k) = nd at hA7
        have hnl : nd.length = 65536 + x3 := by rw [← hnew, List.length_append, List.length_replicate, List.length_take]; omega
        have h28 : w8.heap[b2]? = some (.cells (recCells ({ x1.1 with data := nd }, { x1.2 with dv := dv })).toArray 30 (0, 0)) := h8'
        have G8 : Grows w w8 := G7.wrote hw8 hz2
        have hdat8 : BytesAt w8 dv nd := AccB.reads (Acc.wrote_ hA7 hw8 (own_ne hA7.own hS7 (by decide)))
        have n12 : b1 ≠ b2 := by omega
        have n32 : b3 ≠ b2 := by omega
        have h18 := hw8.kept h17 (by have := hb2; omega)
        have h38 := hw8.kept h37 n32
        have hr8 : RecAt w8 ({ x1.1 with data := nd }, { x1.2 with dv := dv }) := by
          have o := hx1.ok
          have q := hx1.grow G8
          exact ⟨⟨o.name, o.host, o.box, by simp only [lim]; omega, o.type, o.cls, o.ttl, o.len, o.n1, o.n2, o.n3, o.n4, o.n5, o.texts, o.pairs⟩, hdat8, q.texts, q.pairs⟩
        obtain ⟨r, hr⟩ : ∃ r : RecM × RecV, r = ({ x1.1 with data := nd }, { x1.2 with dv := dv }) := ⟨_, rfl⟩
        have hrn : nameOk r.1.name = true := by rw [hr]; exact hnm
        have hrl : r.1.data.length = 65536 + x3 := by rw [hr]; exact hnl
        rw [← hr] at h28 hr8
        refine WL_nil ⟨trivial, ?_⟩
        refine WD_done (by kernel_rfl) ?_
        refine GO ?_
        refine WL_loadRow vv h18 rfl ?_
        refine WL_loadRow vv h28 rfl ?_
        refine WL_loadRow vv h38 rfl ?_
        refine WL_fun rfl ((laws_refused kc_Unknown w8 h r x2 hid hr8 (hx2.grow G8) (tooLong hrn (by omega)) (by first | omega | (simp only; omega)) (hE.grow G8) (hKn.grow G8)).mono ?_)
        rintro e w9 ⟨rfl, g9⟩
        refine ⟨_, rfl, ?_⟩
        have g9 : Grows w8 w9 := g9
        refine GO ?_
        exact ret1 (v := .bool true) Tryd.results5 rfl ⟨rfl, G8.trans g9⟩
    · refine WL_load vv (by assumption) hval ?_
      refine WL_nil ⟨trivial, ?_⟩
      refine WT 13 ?_
      refine WD_take (i := 14) rfl rfl rfl rfl (by kernel_rfl) (by assumption) (fun w' hS => by exact Y_rem vv rfl (by decide)) ?_
      rw [hk]
      refine WD_two (c := 1) (c' := 10) (by kernel_rfl) rfl rfl ?_ ?_
      · refine WL_load vv (by assumption) hval ?_
        refine WL_nil ⟨trivial, ?_⟩
        refine WT 2 ?_
        refine WD_take (i := 3) rfl rfl rfl rfl (by kernel_rfl) (by assumption) (fun w' hS => by exact Y_rem vv rfl (by decide)) ?_
        rw [hk]
        refine WD_take (i := 4) rfl rfl rfl rfl (by kernel_rfl) (by assumption) (fun w' hS => by exact Y_sub (c := ((65536 - k : Nat) : Int)) vv vv (by rw [IntWalk.i64_in _ (by omega)]; omega)) ?_
        refine WD_take (i := 7) rfl rfl rfl rfl (by kernel_rfl) (by assumption) (fun w' hS => by exact Y_add (c := ((65536 - k + x3 : Nat) : Int)) vv vv (by rw [IntWalk.i64_in _ (by omega)]; omega)) ?_
        refine WD_two (c := 8) (c' := 10) (by kernel_rfl) rfl rfl ?_ ?_
        · refine WL_makeB vv (by omega) ?_
          intro b8 w6 hb8 h8 g6
          have hS6 := g6.kept hS5
          refine WL_nil ⟨trivial, ?_⟩
          refine WD_one (c := 10) (by kernel_rfl) rfl ?_
          refine WL_load vv (by assumption) hval ?_
          refine WL_nil ⟨trivial, ?_⟩
          refine WD_take (i := 15) rfl rfl rfl rfl (by kernel_rfl) (by assumption) (fun w' hS => by exact Y_sliceTo (h := k) vv vv (by omega)) ?_
          have hA : AccB w.heap.size w6 (.slice (some ⟨b8, 0, none⟩) (65536 - k + x3) (65536 - k + x3)) (List.replicate (65536 - k + x3) 0) := accB_cells h8 (zeros_cells _) (by simp) (by simp only [maxLen]; omega) (by have := (G3.trans g5).size; omega)
          have hsub : BytesAt w6 (.slice (if cap = 0 then ao else ao.map (·.add (0 * 1))) (0 + k - 0) (cap - 0)) ((x1.1.data.drop 0).take k) := by
            have hb : BytesAt w6 x1.2.dv x1.1.data := BytesAt.grow hdat (g5.trans g6)
            rw [hdv] at hb
            exact sub_bytes hb hcap (l := 0) (n := k) (by omega)
          rw [List.drop_zero] at hsub
          refine WD_one (c := 16) (by kernel_rfl) rfl ?_
          refine WL_appendB vv hA.own vv hsub (by simp only [List.length_replicate, List.length_take]; omega) (by simp only [List.length_take]; omega) ?_
          intro dv w7 hgr
          have hA7 := AccB.grew hA hgr (G3.trans (g5.trans g6)).size
          have G7 : Grows w w7 := AccB.grows hA hgr (G3.trans (g5.trans g6))
          have h87 := own_ne hA.own hS6 (by decide)
          have hS7 := Grew.kept hgr hS6 h87
          have h17 := Grew.kept hgr ((g5.trans g6).kept h1) (own_ne hA.own ((g5.trans g6).kept h1) (by decide))
          have h37 := Grew.kept hgr ((g5.trans g6).kept h3) (own_ne hA.own ((g5.trans g6).kept h3) (by decide))
          refine WL_nil ⟨trivial, ?_⟩
          refine WT 17 ?_
          refine WD_one (c := 18) (by kernel_rfl) rfl ?_
          obtain ⟨aoz, capz, hdz⟩ := ReadsAt.value hA7.reads
          refine WL_store1 vv vv hS7 (by simp [recCells]) (by rw [hdz]; rfl) ?_
          intro w8 hw8 h8'
          generalize hnew : (List.replicate (65536 - k + x3) (0 : UInt8) ++ x1.1.data.take k) = nd at hA7
          have hnl : nd.length = 65536 + x3 := by rw [← hnew, List.length_append, List.length_replicate, List.length_take]; omega
          have h28 : w8.heap[b2]? = some (.cells (recCells ({ x1.1 with data := nd }, { x1.2 with dv := dv })).toArray 30 (0, 0)) := h8'
          have G8 : Grows w w8 := G7.wrote hw8 hz2
          have hdat8 : BytesAt w8 dv nd := AccB.reads (Acc.wrote_ hA7 hw8 (own_ne hA7.own hS7 (by decide)))
          have n12 : b1 ≠ b2 := by omega
          have n32 : b3 ≠ b2 := by omega
          have h18 := hw8.kept h17 (by have := hb2; omega)
          have h38 := hw8.kept h37 n32
          have hr8 : RecAt w8 ({ x1.1 with data := nd }, { x1.2 with dv := dv }) := by
            have o := hx1.ok
            have q := hx1.grow G8
            exact ⟨⟨o.name, o.host, o.box, by simp only [lim]; omega, o.type, o.cls, o.ttl, o.len, o.n1, o.n2, o.n3, o.n4, o.n5, o.texts, o.pairs⟩, hdat8, q.texts, q.pairs⟩
          obtain ⟨r, hr⟩ : ∃ r : RecM × RecV, r = ({ x1.1 with data := nd }, { x1.2 with dv := dv }) := ⟨_, rfl⟩
          have hrn : nameOk r.1.name = true := by rw [hr]; exact hnm
          have hrl : r.1.data.length = 65536 + x3 := by rw [hr]; exact hnl
          rw [← hr] at h28 hr8
          refine WL_nil ⟨trivial, ?_⟩
          refine WD_done (by kernel_rfl) ?_
          refine GO ?_
          refine WL_loadRow vv h18 rfl ?_
          refine WL_loadRow vv h28 rfl ?_
          refine WL_loadRow vv h38 rfl ?_
          refine WL_fun rfl ((laws_refused kc_Unknown w8 h r x2 hid hr8 (hx2.grow G8) (tooLong hrn (by omega)) (by first | omega | (simp only; omega)) (hE.grow G8) (hKn.grow G8)).mono ?_)
          rintro e w9 ⟨rfl, g9⟩
          refine ⟨_, rfl, ?_⟩
          have g9 : Grows w8 w9 := g9
          refine GO ?_
          exact ret1 (v := .bool true) Tryd.results5 rfl ⟨rfl, G8.trans g9⟩
        · refine WL_load vv (by assumption) hval ?_
          refine WL_nil ⟨trivial, ?_⟩
          refine WD_take (i := 15) rfl rfl rfl rfl (by kernel_rfl) (by assumption) (fun w' hS => by exact Y_sliceTo (h := k) vv vv (by omega)) ?_
          refine WD_one (c := 8) (by kernel_rfl) rfl ?_
          refine WL_makeB vv (by omega) ?_
          intro b8 w6 hb8 h8 g6
          have hS6 := g6.kept hS5
          refine WL_nil ⟨trivial, ?_⟩
          have hA : AccB w.heap.size w6 (.slice (some ⟨b8, 0, none⟩) (65536 - k + x3) (65536 - k + x3)) (List.replicate (65536 - k + x3) 0) := accB_cells h8 (zeros_cells _) (by simp) (by simp only [maxLen]; omega) (by have := (G3.trans g5).size; omega)
          have hsub : BytesAt w6 (.slice (if cap = 0 then ao else ao.map (·.add (0 * 1))) (0 + k - 0) (cap - 0)) ((x1.1.data.drop 0).take k) := by
            have hb : BytesAt w6 x1.2.dv x1.1.data := BytesAt.grow hdat (g5.trans g6)
            rw [hdv] at hb
            exact sub_bytes hb hcap (l := 0) (n := k) (by omega)
          rw [List.drop_zero] at hsub
          refine WD_one (c := 16) (by kernel_rfl) rfl ?_
          refine WL_appendB vv hA.own vv hsub (by simp only [List.length_replicate, List.length_take]; omega) (by simp only [List.length_take]; omega) ?_
          intro dv w7 hgr
          have hA7 := AccB.grew hA hgr (G3.trans (g5.trans g6)).size
          have G7 : Grows w w7 := AccB.grows hA hgr (G3.trans (g5.trans g6))
          have h87 := own_ne hA.own hS6 (by decide)
          have hS7 := Grew.kept hgr hS6 h87
          have h17 := Grew.kept hgr ((g5.trans g6).kept h1) (own_ne hA.own ((g5.trans g6).kept h1) (by decide))
          have h37 := Grew.kept hgr ((g5.trans g6).kept h3) (own_ne hA.own ((g5.trans g6).kept h3) (by decide))
          refine WL_nil ⟨trivial, ?_⟩
          refine WT 17 ?_
          refine WD_one (c := 18) (by kernel_rfl) rfl ?_
          obtain ⟨aoz, capz, hdz⟩ := ReadsAt.value hA7.reads
          refine WL_store1 vv vv hS7 (by simp [recCells]) (by rw [hdz]; rfl) ?_
          intro w8 hw8 h8'
          generalize hnew : (List.replicate (65536 - k + x3) (0 : UInt8) ++ x1.1.data.take k) = nd at hA7
          have hnl : nd.length = 65536 + x3 := by rw [← hnew, List.length_append, List.length_replicate, List.length_take]; omega
          have h28 : w8.heap[b2]? = some (.cells (recCells ({ x1.1 with data := nd }, { x1.2 with dv := dv })).toArray 30 (0, 0)) := h8'
          have G8 : Grows w w8 := G7.wrote hw8 hz2
          have hdat8 : BytesAt w8 dv nd := AccB.reads (Acc.wrote_ hA7 hw8 (own_ne hA7.own hS7 (by decide)))
          have n12 : b1 ≠ b2 := by omega
          have n32 : b3 ≠ b2 := by omega
          have h18 := hw8.kept h17 (by have := hb2; omega)
          have h38 := hw8.kept h37 n32
          have hr8 : RecAt w8 ({ x1.1 with data := nd }, { x1.2 with dv := dv }) := by
            have o := hx1.ok
            have q := hx1.grow G8
            exact ⟨⟨o.name, o.host, o.box, by simp only [lim]; omega, o.type, o.cls, o.ttl, o.len, o.n1, o.n2, o.n3, o.n4, o.n5, o.texts, o.pairs⟩, hdat8, q.texts, q.pairs⟩
          obtain ⟨r, hr⟩ : ∃ r : RecM × RecV, r = ({ x1.1 with data := nd }, { x1.2 with dv := dv }) := ⟨_, rfl⟩
          have hrn : nameOk r.1.name = true := by rw [hr]; exact hnm
          have hrl : r.1.data.length = 65536 + x3 := by rw [hr]; exact hnl
          rw [← hr] at h28 hr8
          refine WL_nil ⟨trivial, ?_⟩
          refine WD_done (by kernel_rfl) ?_
          refine GO ?_
          refine WL_loadRow vv h18 rfl ?_
          refine WL_loadRow vv h28 rfl ?_
          refine WL_loadRow vv h38 rfl ?_
          refine WL_fun rfl ((laws_refused kc_Unknown w8 h r x2 hid hr8 (hx2.grow G8) (tooLong hrn (by omega)) (by first | omega | (simp only; omega)) (hE.grow G8) (hKn.grow G8)).mono ?_)
          rintro e w9 ⟨rfl, g9⟩
          refine ⟨_, rfl, ?_⟩
          have g9 : Grows w8 w9 := g9
          refine GO ?_
          exact ret1 (v := .bool true) Tryd.results5 rfl ⟨rfl, G8.trans g9⟩
      · refine WL_load vv (by assumption) hval ?_
        refine WL_nil ⟨trivial, ?_⟩
        refine WD_take (i := 15) rfl rfl rfl rfl (by kernel_rfl) (by assumption) (fun w' hS => by exact Y_sliceTo (h := k) vv vv (by omega)) ?_
        refine WD_one (c := 1) (by kernel_rfl) rfl ?_
        refine WL_load vv (by assumption) hval ?_
        refine WL_nil ⟨trivial, ?_⟩
        refine WT 2 ?_
        refine WD_take (i := 3) rfl rfl rfl rfl (by kernel_rfl) (by assumption) (fun w' hS => by exact Y_rem vv rfl (by decide)) ?_
        rw [hk]
        refine WD_take (i := 4) rfl rfl rfl rfl (by kernel_rfl) (by assumption) (fun w' hS => by exact Y_sub (c := ((65536 - k : Nat) : Int)) vv vv (by rw [IntWalk.i64_in _ (by omega)]; omega)) ?_
        refine WD_take (i := 7) rfl rfl rfl rfl (by kernel_rfl) (by assumption) (fun w' hS => by exact Y_add (c := ((65536 - k + x3 : Nat) : Int)) vv vv (by rw [IntWalk.i64_in _ (by omega)]; omega)) ?_
        refine WD_one (c := 8) (by kernel_rfl) rfl ?_
        refine WL_makeB vv (by omega) ?_
        intro b8 w6 hb8 h8 g6
        have hS6 := g6.kept hS5
        refine WL_nil ⟨trivial, ?_⟩
        have hA : AccB w.heap.size w6 (.slice (some ⟨b8, 0, none⟩) (65536 - k + x3) (65536 - k + x3)) (List.replicate (65536 - k + x3) 0) := accB_cells h8 (zeros_cells _) (by simp) (by simp only [maxLen]; omega) (by have := (G3.trans g5).size; omega)
        have hsub : BytesAt w6 (.slice (if cap = 0 then ao else ao.map (·.add (0 * 1))) (0 + k - 0) (cap - 0)) ((x1.1.data.drop 0).take k) := by
          have hb : BytesAt w6 x1.2.dv x1.1.data := BytesAt.grow hdat (g5.trans g6)
          rw [hdv] at hb
          exact sub_bytes hb hcap (l := 0) (n := k) (by omega)
        rw [List.drop_zero] at hsub
        refine WD_one (c := 16) (by kernel_rfl) rfl ?_
        refine WL_appendB vv hA.own vv hsub (by simp only [List.length_replicate, List.length_take]; omega) (by simp only [List.length_take]; omega) ?_
        intro dv w7 hgr
        have hA7 := AccB.grew hA hgr (G3.trans (g5.trans g6)).size
        have G7 : Grows w w7 := AccB.grows hA hgr (G3.trans (g5.trans g6))
        have h87 := own_ne hA.own hS6 (by decide)
        have hS7 := Grew.kept hgr hS6 h87
        have h17 := Grew.kept hgr ((g5.trans g6).kept h1) (own_ne hA.own ((g5.trans g6).kept h1) (by decide))
        have h37 := Grew.kept hgr ((g5.trans g6).kept h3) (own_ne hA.own ((g5.trans g6).kept h3) (by decide))
        refine WL_nil ⟨trivial, ?_⟩
        refine WT 17 ?_
        refine WD_one (c := 18) (by kernel_rfl) rfl ?_
        obtain ⟨aoz, capz, hdz⟩ := ReadsAt.value hA7.reads
        refine WL_store1 vv vv hS7 (by simp [recCells]) (by rw [hdz]; rfl) ?_
        intro w8 hw8 h8'
        generalize hnew : (List.replicate (65536 - k + x3) (0 : UInt8) ++ x1.1.data.take k) = nd at hA7
        have hnl : nd.length = 65536 + x3 := by rw [← hnew, List.length_append, List.length_replicate, List.length_take]; omega
        have h28 : w8.heap[b2]? = some (.cells (recCells ({ x1.1 with data := nd }, { x1.2 with dv := dv })).toArray 30 (0, 0)) := h8'
        have G8 : Grows w w8 := G7.wrote hw8 hz2
        have hdat8 : BytesAt w8 dv nd := AccB.reads (Acc.wrote_ hA7 hw8 (own_ne hA7.own hS7 (by decide)))
        have n12 : b1 ≠ b2 := by omega
        have n32 : b3 ≠ b2 := by omega
        have h18 := hw8.kept h17 (by have := hb2; omega)
        have h38 := hw8.kept h37 n32
        have hr8 : RecAt w8 ({ x1.1 with data := nd }, { x1.2 with dv := dv }) := by
          have o := hx1.ok
          have q := hx1.grow G8
          exact ⟨⟨o.name, o.host, o.box, by simp only [lim]; omega, o.type, o.cls, o.ttl, o.len, o.n1, o.n2, o.n3, o.n4, o.n5, o.texts, o.pairs⟩, hdat8, q.texts, q.pairs⟩
        obtain ⟨r, hr⟩ : ∃ r : RecM × RecV, r = ({ x1.1 with data := nd }, { x1.2 with dv := dv }) := ⟨_, rfl⟩
        have hrn : nameOk r.1.name = true := by rw [hr]; exact hnm
        have hrl : r.1.data.length = 65536 + x3 := by rw [hr]; exact hnl
        rw [← hr] at h28 hr8
        refine WL_nil ⟨trivial, ?_⟩
        refine WD_done (by kernel_rfl) ?_
        refine GO ?_
        refine WL_loadRow vv h18 rfl ?_
        refine WL_loadRow vv h28 rfl ?_
        refine WL_loadRow vv h38 rfl ?_
        refine WL_fun rfl ((laws_refused kc_Unknown w8 h r x2 hid hr8 (hx2.grow G8) (tooLong hrn (by omega)) (by first | omega | (simp only; omega)) (hE.grow G8) (hKn.grow G8)).mono ?_)
        rintro e w9 ⟨rfl, g9⟩
        refine ⟨_, rfl, ?_⟩
        have g9 : Grows w8 w9 := g9
        refine GO ?_
        exact ret1 (v := .bool true) Tryd.results5 rfl ⟨rfl, G8.trans g9⟩
namespace fnTooLong
def argv : Array Value := #[.agg #[.int .u16 0, .bool false, .int .u16 0, .bool false, .bool false, .bool false, .bool false, .bool false, .bool false, .int .u16 0], .agg #[.string ⟨#[]⟩, .int .u16 0, .int .u16 0, .int .u32 0, .int .u16 0, .int .i64 0, .slice none 0 0, .string ⟨#[]⟩, .string ⟨#[]⟩, .int .u32 0, .int .u32 0, .int .u32 0, .int .u32 0, .int .u32 0, .slice none 0 0, .slice none 0 0], .agg #[.string ⟨#[]⟩, .int .u16 0, .int .u16 0, .int .u32 0, .int .u16 0, .int .i64 0, .slice none 0 0, .string ⟨#[]⟩, .string ⟨#[]⟩, .int .u32 0, .int .u32 0, .int .u32 0, .int .u32 0, .int .u32 0, .slice none 0 0, .slice none 0 0], .int .u8 0]
theorem contract (H : Type) (enc : TypeId × Value → H) (W : World) (base : Nat) (args : Array Value) (ds gs : List (DataW H)) (before : List MemPlace)
    (hval : ∀ (j : Nat) t v, Tryd.f5.params[j]? = some t → args[j]? = some v → Value.okWide Tryd.prog W .any base t v)
    (hW : DataW.Whole enc Tryd.prog Tryd.f5.params.toList Rows.fnTooLongSpec.vars false W args.toList ds gs before)
    (hwt : (DataW.weightsEach Tryd.prog (Tryd.f5.params.toList ++ (OpenSpec.ofChange Rows.fnTooLongSpec).bare.plain.varTypes Tryd.prog) (ds ++ gs)).all (· ≤ reachBytes) = true)
    (hL : laidMetH Tryd.prog Rows.fnTooLongRow.laid W) (hSh : W.ShapedOpen Tryd.prog) :
    Calls Tryd.prog 5 args W fun e W' => ∃ v, e = .returned v ∧ Rows.fnTooLongSpec.post enc Tryd.prog Tryd.f5 false true false false W args v W' := by
  obtain ⟨hE, hKn⟩ := known_of_laid (show laidMetH Tryd.prog laidL W from hL) hSh
  have hW' := hW
  obtain ⟨p, q, hA0, hV, rfl, hfz, hnd⟩ := hW
  have hA : DataW.TrodAll enc Tryd.prog W 0 (fun _ => true) true Tryd.f5.params.toList args.toList ds p := hA0
  have hg := trodVars_length _ _ _ hV
  rw [Tryd.params5] at hA hval hwt
  obtain ⟨v0, vs0, d0, ds0, p0, q0, hargs, rfl, rfl, h0, r0⟩ := trodAll_cons hA
  obtain ⟨v1, vs1, d1, ds1, p1, q1, rfl, rfl, rfl, h1, r1⟩ := trodAll_cons r0
  obtain ⟨v2, vs2, d2, ds2, p2, q2, rfl, rfl, rfl, h2, r2⟩ := trodAll_cons r1
  obtain ⟨v3, vs3, d3, ds3, p3, q3, rfl, rfl, rfl, h3, r3⟩ := trodAll_cons r2
  obtain ⟨rfl, rfl, rfl⟩ := trodAll_nil r3
  obtain rfl : args = #[v0, v1, v2, v3] := by cases args; simp_all
  have hsm := sml_append (by rfl) hwt
  obtain ⟨id, op, code, qr, aa, tc, rd, ra, ad, cd, rfl, hid, _, _⟩ := head_form (hval 0 24 v0 rfl rfl) h0
  obtain ⟨x1, rfl, hx1⟩ := rec_arg (hval 1 30 v1 rfl rfl) h1 (sml_each hsm (j := 1) (t := 30) (d := d1) rfl rfl)
  obtain ⟨x2, rfl, hx2⟩ := rec_arg (hval 2 30 v2 rfl rfl) h2 (sml_each hsm (j := 2) (t := 30) (d := d2) rfl rfl)
  obtain ⟨x3, rfl, hx3⟩ := u8_arg (hval 3 5 v3 rfl rfl) h3
  refine (laws_FnTooLong W ⟨id, qr, op, aa, tc, rd, ra, ad, cd, code⟩ hid x1 hx1 (rec_cap h1 (sml_each hsm (j := 1) (t := 30) (d := d1) rfl rfl)) x2 hx2 x3 hx3 hE hKn).mono ?_
  rintro e W' ⟨rfl, hb⟩
  have hb : Below W.heap.size W W' := hb
  refine ⟨_, rfl, lift_post laid_out Tryd.underlying4 (by kernel_rfl) (of_decide_eq_true (by kernel_rfl)) (of_decide_eq_true (by kernel_rfl)) ?_ hW' hb⟩
  match gs, hg with
  | [h0, h1, h2, h3, h4, h5, h6, h7, h8, h9, h10], _ => rfl
theorem lifted (os : Os) (started : os.Started) (H : Type) (enc : TypeId × Value → H) (F : Stop.Interp) :
    ReturnsInHanded {} Tryd.checked os 5 .any ((OpenSpec.ofChange Rows.fnTooLongSpec).preRow enc Tryd.prog Tryd.f5 Rows.fnTooLongRow.domain false Rows.fnTooLongRow.laid) (((OpenSpec.ofChange Rows.fnTooLongSpec).at F).post enc Tryd.prog Tryd.f5 false true false false) := by
  refine returnsInHanded_of_row (C := Tryd.checked) (s := OpenSpec.ofChange Rows.fnTooLongSpec) own_knob started (by kernel_rfl) Tryd.func5
    (witness_of (enc := enc) (os := os) argv rfl rfl (by kernel_rfl) (ds := [.agg [.lit (.int .u16 0), .lit (.bool false), .lit (.int .u16 0), .lit (.bool false), .lit (.bool false), .lit (.bool false), .lit (.bool false), .lit (.bool false), .lit (.bool false), .lit (.int .u16 0)], .agg [.lit (.string []), .lit (.int .u16 0), .lit (.int .u16 0), .lit (.int .u32 0), .lit (.int .u16 0), .lit (.int .i64 0), .nil, .lit (.string []), .lit (.string []), .lit (.int .u32 0), .lit (.int .u32 0), .lit (.int .u32 0), .lit (.int .u32 0), .lit (.int .u32 0), .nil, .nil], .agg [.lit (.string []), .lit (.int .u16 0), .lit (.int .u16 0), .lit (.int .u32 0), .lit (.int .u16 0), .lit (.int .i64 0), .nil, .lit (.string []), .lit (.string []), .lit (.int .u32 0), .lit (.int .u32 0), .lit (.int .u32 0), .lit (.int .u32 0), .lit (.int .u32 0), .nil, .nil], .lit (.int .u8 0)]) (by kernel_rfl)
      (fun hs hl => by
        match hs, hl with
        | [h0, h1, h2, h3, h4, h5, h6, h7, h8, h9, h10], _ => exact ⟨by kernel_rfl, fun k hk => (by cases hk), by kernel_rfl⟩)) ?_
  intro W base args ds gs before hval hW _ _ hwt hL hSh _
  exact contract H enc W base args ds gs before hval hW hwt hL hSh
theorem named : Tryd.pinned.checked.prog.funcNamed "loop.example/pub-messagesbuilt/laws.FnTooLong" = some 5 := by kernel_rfl
theorem closed : joinedFacts Tryd.pinned.checked.prog 5 Tryd.f5 (OpenSpec.ofChange Rows.fnTooLongSpec).bare Rows.fnTooLongRow = true := by
  have e1 : namedTie Tryd.pinned.checked.prog Rows.fnTooLongRow.named (OpenSpec.ofChange Rows.fnTooLongSpec).bare.vars = true := prog_tie
  have e2 : ((OpenSpec.ofChange Rows.fnTooLongSpec).bare.vars.all (Program.varReadable Tryd.pinned.checked.prog ·)) = true := prog_read
  unfold joinedFacts
  rw [prog_enter, prog_lifts, prog_make, prog_laid, prog_maps, e1, e2, prog_keys, prog_heard]
  show (_ : Bool) = true
  kernel_rfl
theorem said : Rows.FnTooLongSaid :=
  OpenClaim.holds_of_cond 5 Tryd.f5 rfl rfl rfl rfl rfl rfl rfl ⟨rfl, rfl, rfl, rfl, rfl⟩ rfl rfl rfl rfl rfl named Tryd.func5 closed
    (of_decide_eq_true (by kernel_rfl)) (by unfold Func.isWrapper; first | (rw [if_pos (by decide +kernel)]; kernel_rfl) | (rw [if_neg (by decide +kernel)]; exact ⟨rfl, rfl⟩))
    (fun os started H enc _ F => by rw [OpenClaim.pre_eq_preRow]; exact lifted os started H enc F)
theorem plain (f : FuncId) (fn : Func) (hf : Tryd.pinned.checked.prog.funcNamed "loop.example/pub-messagesbuilt/laws.FnTooLong" = some f) (hfn : Tryd.pinned.checked.prog.funcs[f]? = some fn) :
    true = Tryd.pinned.checked.prog.looks [] ∧ ∀ (j : Nat) t, fn.params[j]? = some t → Tryd.pinned.checked.prog.wantsStandIn t = false := by
  obtain rfl : f = 5 := Option.some.inj (named.symm.trans hf) |>.symm
  obtain rfl : fn = Tryd.f5 := (Option.some.inj (Tryd.func5.symm.trans hfn)).symm
  refine ⟨by kernel_rfl, fun j t ht => ?_⟩
  rw [Tryd.params5] at ht
  have hall : ([24, 30, 30, 5] : List TypeId).all (fun t => !Tryd.pinned.checked.prog.wantsStandIn t) = true := by kernel_rfl
  have h1 := List.all_eq_true.1 hall t (by simpa using Array.mem_of_getElem? ht)
  simpa using h1
theorem card : Rows.FnTooLongCardSaid :=
  Claim7.holds_tied_plain_at .later [] _ _ _ _ said (fun _ h => by cases h) (by kernel_rfl) (fun _ h => by cases h) fnTooLong_row_tie rfl ⟨rfl, rfl⟩ (by kernel_rfl) rfl plain (by kernel_rfl)
end fnTooLong

end Go.Proofs.YthdjgcegpkjhmaaDoor
