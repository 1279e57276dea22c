/- The reference's reader: names. Written by gen_read4.py. -/
import Derived.Test.YtfoinoegabcigaaDoorRead3
set_option linter.unusedVariables false
set_option linter.unusedSimpArgs false
namespace Go.Proofs.YtfoinoegabcigaaDoor
open Go.RowKit
set_option maxHeartbeats 4000000
set_option maxRecDepth 100000

theorem ofNat_toNat (k : Nat) (h : k < 256) : (UInt8.ofNat k).toNat = k := by
  rw [UInt8.toNat_ofNat']
  omega
theorem shl8_i64 (a : Nat) (h1 : a < 256) : IntKind.i64.wrap ((a : Int) * 2 ^ min (8 : Int).toNat IntKind.i64.bits) = ((a * 256 : Nat) : Int) := by
  have e : (2 : Int) ^ min (8 : Int).toNat IntKind.i64.bits = 256 := by decide
  rw [e, IntWalk.i64_in _ (by omega)]
  omega
theorem reader_name (w0 w : World) (g : Nat) (bv' : Value) (F : Bytes) (p : Nat) (wh : Bool) (nm : Bytes) (n e : Nat) (h : RdrAt w0 w g bv' F p wh) (hr : Rd F n p p [] false nm e) (hnm : nm.length ≤ 1000) :
    Calls Tryd.prog 64 #[.pointer (some ⟨g, 0, none⟩)] w fun en w' => ∃ wh', en = .returned (strOf nm) ∧ RdrP w0 w g bv' F e wh' w' := by
  have hat := h.at_
  have hlen := h.src.len
  obtain ⟨x0, hx0⟩ := hr.at_
  have hF0 : 0 < F.length := by have := (List.getElem?_eq_some_iff.1 hx0).1; omega
  obtain ⟨b, o, cap, rfl, _⟩ := ReadsAt.form h.src.bytes (by rw [bv_length]; exact hF0)
  have hcap : F.length ≤ cap := by
    obtain ⟨ao', cap', hcv, hcap⟩ := h.src.cap
    cases hcv
    exact hcap
  refine calls_of_WC Tryd.func64 rfl Tryd.ntmps64 rfl ?_
  refine GO ?_
  refine WC_cut (fun f w' => EnvHas f [(0, .pointer (some ⟨g, 0, none⟩)), (3, strOf []), (4, .int .i64 (p : Int)), (5, .int .i64 (p : Int)), (6, .bool false)] ∧ Grows w w') ?_ ?_
  · refine WC_draws (fun w' => w'.heap[g]? = some (.cells #[.slice (some ⟨b, o, none⟩) F.length cap, .int .i64 (p : Int), .bool false, .bool wh] 134 (0, 0))) (by kernel_rfl) (fun w1 g => g.kept hat) ?_
    intro wa ga hS
    refine WT 0 ?_
    refine WT 1 ?_
    refine WT 2 ?_
    refine WT 3 ?_
    refine WT 4 ?_
    refine WT 5 ?_
    refine WT 6 ?_
    refine WT 7 ?_
    refine WD_one (c := 8) (by kernel_rfl) rfl ?_
    refine WL_assign vv (WL_nil ⟨hS, ?_⟩)
    refine WD_one (c := 9) (by kernel_rfl) rfl ?_
    refine WL_assign vv (WL_nil ⟨hS, ?_⟩)
    refine WD_one (c := 10) (by kernel_rfl) rfl ?_
    refine WL_assign vv (WL_nil ⟨hS, ?_⟩)
    refine WD_done (by kernel_rfl) ?_
    exact then_norm ⟨⟨rfl, rfl, rfl, rfl, rfl, trivial⟩, ga⟩
  rintro f2 w2 ⟨he, g2⟩
  obtain ⟨f, rfl⟩ := he.form
  refine GO ?_
  refine WC_loop (fun m f w' => ∃ (pos start : Nat) (acc : Bytes) (j : Bool) (atv : Nat) (wh' : Bool), Rd F m pos start acc j nm e ∧ (j = true → atv = e) ∧ EnvHas f [(0, .pointer (some ⟨g, 0, none⟩)), (3, strOf acc), (4, .int .i64 (pos : Int)), (5, .int .i64 (start : Int)), (6, .bool j)] ∧ RdrAt w0 w' g (.slice (some ⟨b, o, none⟩) F.length cap) F atv wh' ∧ Chg (· = g) w w') n ?_ ?_
  · exact ⟨p, p, [], false, p, wh, hr, (fun e => by cases e), ⟨rfl, rfl, rfl, rfl, rfl, trivial⟩, h.grow g2, Chg.of_below g2 _⟩
  rintro m f' w3 ⟨pos, start, acc, j, atv, wh3, hRd, hj, he, hR, hC⟩
  obtain ⟨f, rfl⟩ := he.form
  obtain ⟨x, hx⟩ := hRd.at_
  have hpos := (List.getElem?_eq_some_iff.1 hx).1
  have hal := hRd.acc_le
  have hat3 := hR.at_
  have hbt := hR.src.bytes.grow hR.grows
  have hatl := hR.le
  refine RUN ?_
  rw [show decide ((F.length : Int) ≤ (pos : Int)) = false from decide_eq_false (by omega)]
  refine RUN ?_
  refine WL_index vv vv hpos ?_
  refine WL_load_cell vv (rd_cell hbt hx) ?_
  refine WL_conv (c := (x.toNat : Int)) vv (by have := x.toNat_lt; rw [IntWalk.i64_in _ (by omega)]) ?_
  refine GO ?_
  cases hRd with
  | zero h1 h2 =>
    obtain rfl := u8_eq hx h1
    rw [show ((((0 : UInt8).toNat : Nat) : Int) == 0) = true from rfl]
    cases j with
    | false =>
      have he := h2 rfl
      refine RUN ?_
      refine WL_add (c := ((pos + 1 : Nat) : Int)) vv vv (by rw [IntWalk.i64_in _ (by omega)]; omega) ?_
      refine GO ?_
      refine WL_store1 vv vv hat3 (by simp) rfl ?_
      intro w4 hw4 h4
      have h4' : w4.heap[g]? = some (.cells #[.slice (some ⟨b, o, none⟩) F.length cap, .int .i64 ((pos + 1 : Nat) : Int), .bool false, .bool wh3] 134 (0, 0)) := h4
      refine GO ?_
      refine WL_y (Y_eqS (b := []) vv (by rfl)) ?_
      have hfin : RdrP w0 w g (.slice (some ⟨b, o, none⟩) F.length cap) F e wh3 w4 := ⟨hR.to hw4 (by rw [he]; exact h4') (by omega), hC.trans hw4 (fun k _ hk => hk)⟩
      cases acc with
      | nil =>
        refine RUN ?_
        exact ret1 (v := strOf [46]) Tryd.results64 rfl ⟨wh3, rfl, hfin⟩
      | cons a acc =>
        rw [show ((a :: acc) == ([] : Bytes)) = false from rfl]
        refine RUN ?_
        exact ret1 (v := strOf (a :: acc)) Tryd.results64 rfl ⟨wh3, by simp, hfin⟩
    | true =>
      have he := hj rfl
      subst he
      refine RUN ?_
      refine WL_y (Y_eqS (b := []) vv (by rfl)) ?_
      have hfin : RdrP w0 w g (.slice (some ⟨b, o, none⟩) F.length cap) F atv wh3 w3 := ⟨hR, hC⟩
      cases acc with
      | nil =>
        refine RUN ?_
        exact ret1 (v := strOf [46]) Tryd.results64 rfl ⟨wh3, rfl, hfin⟩
      | cons a acc =>
        rw [show ((a :: acc) == ([] : Bytes)) = false from rfl]
        refine RUN ?_
        exact ret1 (v := strOf (a :: acc)) Tryd.results64 rfl ⟨wh3, by simp, hfin⟩
  | label lab h1 h2 h3 h4 h5 h6 =>
    have hxl : x.toNat = lab.length := by rw [u8_eq hx h1]; exact ofNat_toNat _ (by omega)
    rw [hxl]
    rw [show ((lab.length : Int) == 0) = false from beq_eq_false_iff_ne.2 (by omega)]
    have hin := BytesIn.take (F := F) (p := pos + 1) (bs := lab) h4 (by intro e; rw [e] at h2; simp at h2)
    have hsub : ∀ w', Grows w0 w' → BytesAt w' (.slice (if cap = pos + 1 then some ⟨b, o, none⟩ else (some (⟨b, o, none⟩ : Addr)).map (·.add ((pos + 1) * 1))) (pos + 1 + lab.length - (pos + 1)) (cap - (pos + 1))) lab := by
      intro w' hg
      have := sub_bytes (l := pos + 1) (n := lab.length) hR.src.bytes hcap hin.1
      rw [hin.2] at this
      exact this.grow hg
    have hl6 := h6.acc_le
    simp only [List.length_append, List.length_cons, List.length_nil] at hl6
    refine RUN ?_
    rw [show decide ((lab.length : Int) < 64) = true from decide_eq_true (by omega)]
    refine RUN ?_
    refine WL_add (c := ((pos + 1 : Nat) : Int)) vv vv (by rw [IntWalk.i64_in _ (by omega)]; omega) ?_
    refine RUN ?_
    refine WL_add (c := ((pos + 1 + lab.length : Nat) : Int)) vv vv (by rw [IntWalk.i64_in _ (by omega)]; omega) ?_
    refine RUN ?_
    rw [show decide (((pos + 1 + lab.length : Nat) : Int) ≤ (F.length : Int)) = true from decide_eq_true (by have := hin.1; omega)]
    refine RUN ?_
    refine WL_add (c := ((pos + 1 : Nat) : Int)) vv vv (by rw [IntWalk.i64_in _ (by omega)]; omega) ?_
    refine GO ?_
    refine WL_add (c := ((pos + 1 : Nat) : Int)) vv vv (by rw [IntWalk.i64_in _ (by omega)]; omega) ?_
    refine GO ?_
    refine WL_add (c := ((pos + 1 + lab.length : Nat) : Int)) vv vv (by rw [IntWalk.i64_in _ (by omega)]; omega) ?_
    refine WL_y (Y_sliceSl (l := pos + 1) (h := pos + 1 + lab.length) vv vv vv (by omega) (by have := hin.1; omega)) ?_
    refine WL_fun rfl ((spec_dotted w3 _ lab (hsub _ hR.grows) h5 (by omega)).mono ?_)
    rintro e w4 ⟨rfl, rfl⟩
    refine ⟨_, rfl, ?_⟩
    refine GO ?_
    refine WL_store1 vv vv hat3 (by simp) rfl ?_
    intro w5 hw5 h5x
    have h5' : w5.heap[g]? = some (.cells #[.slice (some ⟨b, o, none⟩) F.length cap, .int .i64 (atv : Int), .bool false, .bool wh3] 134 (0, 0)) := h5x
    have hR5 := hR.to hw5 h5' hatl
    refine GO ?_
    refine WL_add (c := ((pos + 1 : Nat) : Int)) vv vv (by rw [IntWalk.i64_in _ (by omega)]; omega) ?_
    refine GO ?_
    refine WL_add (c := ((pos + 1 : Nat) : Int)) vv vv (by rw [IntWalk.i64_in _ (by omega)]; omega) ?_
    refine GO ?_
    refine WL_add (c := ((pos + 1 + lab.length : Nat) : Int)) vv vv (by rw [IntWalk.i64_in _ (by omega)]; omega) ?_
    refine WL_y (Y_sliceSl (l := pos + 1) (h := pos + 1 + lab.length) vv vv vv (by omega) (by have := hin.1; omega)) ?_
    refine WL_y (Y_toStr vv (hsub _ hR5.grows)) ?_
    refine WL_y (Y_addS (a := lab) (b := [46]) vv (by rfl) (by simp only [List.length_cons, List.length_nil]; omega)) ?_
    refine WL_y (Y_addS (a := acc) (b := lab ++ [46]) vv vv (by simp only [List.length_append, List.length_cons, List.length_nil]; omega)) ?_
    refine GO ?_
    refine WL_add (c := ((1 + lab.length : Nat) : Int)) vv vv (by rw [IntWalk.i64_in _ (by omega)]; omega) ?_
    refine WL_add (c := ((pos + 1 + lab.length : Nat) : Int)) vv vv (by rw [IntWalk.i64_in _ (by omega)]; omega) ?_
    refine GO ?_
    rw [← List.append_assoc]
    exact ⟨_, Nat.lt_succ_self _, pos + 1 + lab.length, start, acc ++ lab ++ [46], j, atv, wh3, h6, hj, ⟨rfl, rfl, rfl, rfl, rfl, trivial⟩, hR5, hC.trans hw5 (fun k _ hk => hk)⟩
  | ptr q h1 h2 h3 h4 h5 h6 hnext =>
    have hxl : x.toNat = 192 + q / 256 := by rw [u8_eq hx h1]; exact ofNat_toNat _ (by omega)
    have hpos1 := (List.getElem?_eq_some_iff.1 h2).1
    rw [hxl]
    rw [show (((192 + q / 256 : Nat) : Int) == 0) = false from beq_eq_false_iff_ne.2 (by omega)]
    refine RUN ?_
    rw [show decide (((192 + q / 256 : Nat) : Int) < 64) = false from decide_eq_false (by omega)]
    refine RUN ?_
    rw [show decide ((192 : Int) ≤ ((192 + q / 256 : Nat) : Int)) = true from decide_eq_true (by omega)]
    refine RUN ?_
    refine WL_add (c := ((pos + 1 : Nat) : Int)) vv vv (by rw [IntWalk.i64_in _ (by omega)]; omega) ?_
    refine RUN ?_
    rw [show decide (((pos + 1 : Nat) : Int) < (F.length : Int)) = true from decide_eq_true (by omega)]
    refine RUN ?_
    refine WL_sub (c := ((q / 256 : Nat) : Int)) vv vv (by rw [IntWalk.i64_in _ (by omega)]; omega) ?_
    refine WL_y (Y_shl (c := ((q / 256 * 256 : Nat) : Int)) vv vv (by decide) (shl8_i64 _ (by omega))) ?_
    refine GO ?_
    refine WL_add (c := ((pos + 1 : Nat) : Int)) vv vv (by rw [IntWalk.i64_in _ (by omega)]; omega) ?_
    refine WL_index vv vv hpos1 ?_
    refine WL_load_cell vv (rd_cell hbt h2) ?_
    refine WL_conv (c := ((q % 256 : Nat) : Int)) vv (by rw [ofNat_toNat _ (by omega), IntWalk.i64_in _ (by omega)]) ?_
    refine WL_y (Y_or (c := (q : Int)) vv vv (by rw [bits_or_i64_nat _ _ (by omega) (by omega), nat_join 8 _ _ (by omega) (by omega)]; omega)) ?_
    refine GO ?_
    cases j with
    | false =>
      have he := h6 rfl
      refine RUN ?_
      refine WL_add (c := ((pos + 2 : Nat) : Int)) vv vv (by rw [IntWalk.i64_in _ (by omega)]; omega) ?_
      refine GO ?_
      refine WL_store1 vv vv hat3 (by simp) rfl ?_
      intro w4 hw4 h4x
      have h4' : w4.heap[g]? = some (.cells #[.slice (some ⟨b, o, none⟩) F.length cap, .int .i64 ((pos + 2 : Nat) : Int), .bool false, .bool wh3] 134 (0, 0)) := h4x
      refine GO ?_
      rw [show decide ((start : Int) ≤ (q : Int)) = false from decide_eq_false (by omega)]
      refine WL_store1 vv vv h4' (by simp) rfl ?_
      intro w5 hw5 h5
      have h5' : w5.heap[g]? = some (.cells #[.slice (some ⟨b, o, none⟩) F.length cap, .int .i64 ((pos + 2 : Nat) : Int), .bool false, .bool wh3] 134 (0, 0)) := h5
      refine GO ?_
      refine WL_store1 vv vv h5' (by simp) rfl ?_
      intro w6 hw6 h6'
      have h6'' : w6.heap[g]? = some (.cells #[.slice (some ⟨b, o, none⟩) F.length cap, .int .i64 ((pos + 2 : Nat) : Int), .bool false, .bool false] 134 (0, 0)) := h6'
      refine GO ?_
      have hC6 : Chg (· = g) w3 w6 := (hw4.trans hw5 (fun k _ hk => hk)).trans hw6 (fun k _ hk => hk)
      exact ⟨_, Nat.lt_succ_self _, q, q, acc, true, pos + 2, false, hnext, fun _ => he.symm, ⟨rfl, rfl, rfl, rfl, rfl, trivial⟩, hR.to hC6 h6'' (by omega), hC.trans hC6 (fun k _ hk => hk)⟩
    | true =>
      have he := hj rfl
      refine RUN ?_
      rw [show decide ((start : Int) ≤ (q : Int)) = false from decide_eq_false (by omega)]
      refine WL_store1 vv vv hat3 (by simp) rfl ?_
      intro w5 hw5 h5
      have h5' : w5.heap[g]? = some (.cells #[.slice (some ⟨b, o, none⟩) F.length cap, .int .i64 ((atv : Nat) : Int), .bool false, .bool wh3] 134 (0, 0)) := h5
      refine GO ?_
      refine WL_store1 vv vv h5' (by simp) rfl ?_
      intro w6 hw6 h6'
      have h6'' : w6.heap[g]? = some (.cells #[.slice (some ⟨b, o, none⟩) F.length cap, .int .i64 ((atv : Nat) : Int), .bool false, .bool false] 134 (0, 0)) := h6'
      refine GO ?_
      have hC6 : Chg (· = g) w3 w6 := hw5.trans hw6 (fun k _ hk => hk)
      exact ⟨_, Nat.lt_succ_self _, q, q, acc, true, atv, false, hnext, fun _ => he, ⟨rfl, rfl, rfl, rfl, rfl, trivial⟩, hR.to hC6 h6'' (by omega), hC.trans hC6 (fun k _ hk => hk)⟩
end Go.Proofs.YtfoinoegabcigaaDoor
