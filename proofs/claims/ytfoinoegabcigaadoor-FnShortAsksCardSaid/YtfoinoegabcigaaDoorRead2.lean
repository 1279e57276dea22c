/- The reference's reader: numbers. -/
import Derived.Test.YtfoinoegabcigaaDoorRead1
set_option linter.unusedVariables false
set_option linter.unusedSimpArgs false
namespace Go.Proofs.YtfoinoegabcigaaDoor
open Go.RowKit
set_option maxHeartbeats 2000000
set_option maxRecDepth 100000

theorem BytesIn.take {F : Bytes} {p : Nat} {bs : Bytes} (h : BytesIn F p bs) (h0 : bs ≠ []) : p + bs.length ≤ F.length ∧ (F.drop p).take bs.length = bs := by
  have hl : 0 < bs.length := List.length_pos_iff.2 h0
  have h1 := h (bs.length - 1) bs[bs.length - 1] (by simp)
  have h2 := (List.getElem?_eq_some_iff.1 h1).1
  refine ⟨by omega, List.ext_getElem? fun i => ?_⟩
  by_cases hi : i < bs.length
  · rw [List.getElem?_take_of_lt hi, List.getElem?_drop, List.getElem?_eq_getElem hi]
    exact h i bs[i] (by simp)
  · rw [List.getElem?_eq_none (by rw [List.length_take]; omega), List.getElem?_eq_none (by omega)]
theorem BytesIn.left {F : Bytes} {p : Nat} {a b : Bytes} (h : BytesIn F p (a ++ b)) : BytesIn F p a := fun i x hx => h i x (by rw [List.getElem?_append_left (List.getElem?_eq_some_iff.1 hx).1]; exact hx)
theorem BytesIn.right {F : Bytes} {p : Nat} {a b : Bytes} (h : BytesIn F p (a ++ b)) : BytesIn F (p + a.length) b := fun i x hx => by
  have := h (a.length + i) x (by rw [List.getElem?_append_right (by omega), Nat.add_sub_cancel_left]; exact hx)
  rw [Nat.add_assoc]
  exact this
theorem rd_cell {w : World} {b o n cap : Nat} {bs : Bytes} (h : BytesAt w (.slice (some ⟨b, o, none⟩) n cap) bs) {j : Nat} {x : UInt8} (hx : bs[j]? = some x) : w.cell? ⟨b, o + j * 1, none⟩ = some (.int .u8 (x.toNat : Int)) := by
  obtain ⟨_, ao, cap', hv, _, hc⟩ := h
  obtain ⟨a, ha, hca⟩ := hc j (.int .u8 (x.toNat : Int)) (by unfold bv; rw [List.getElem?_map, hx]; rfl)
  simp only [Value.slice.injEq] at hv
  rw [← hv.1] at ha
  cases ha
  rw [add_addr] at hca
  rw [Nat.mul_one]
  exact hca
theorem two_hi (k : Int) (h0 : 0 ≤ k) (h1 : k < 65536) : ((UInt8.ofNat (k / 256).toNat).toNat : Int) = k / 256 := by
  rw [UInt8.toNat_ofNat']
  omega
theorem two_lo (k : Int) (h0 : 0 ≤ k) : ((UInt8.ofNat (k % 256).toNat).toNat : Int) = k % 256 := by
  rw [UInt8.toNat_ofNat']
  omega
theorem shl8 (a : Int) (h0 : 0 ≤ a) (h1 : a < 256) : IntKind.u16.wrap (a * 2 ^ min (8 : Int).toNat IntKind.u16.bits) = a * 256 := by
  have e : (2 : Int) ^ min (8 : Int).toNat IntKind.u16.bits = 256 := by decide
  rw [e, wrap16]
  omega
theorem shl16 (a : Int) (h0 : 0 ≤ a) (h1 : a < 65536) : IntKind.u32.wrap (a * 2 ^ min (16 : Int).toNat IntKind.u32.bits) = a * 65536 := by
  have e : (2 : Int) ^ min (16 : Int).toNat IntKind.u32.bits = 65536 := by decide
  rw [e, IntKind.wrap_u32]
  omega
theorem or_u32 (x y : Int) (hx : 0 ≤ x) (hx2 : x < 4294967296) (hy : 0 ≤ y) (hy2 : y < 65536) (h : x % 65536 = 0) : bits .or .u32 x y = x + y := by
  obtain ⟨n, rfl⟩ := Int.eq_ofNat_of_zero_le hx
  obtain ⟨m, rfl⟩ := Int.eq_ofNat_of_zero_le hy
  have e := u32_or_nat n m (by omega) (by omega)
  rw [nat_join 16 n m (by omega) (by omega)] at e
  push_cast at e
  exact e
section
variable (w0 w : World) (g : Nat) (bv' : Value) (F : Bytes) (p : Nat) (wh : Bool)
theorem reader_two (k : Int) (h0 : 0 ≤ k) (h1 : k < 65536) (h : RdrAt w0 w g bv' F p wh) (hb : BytesIn F p (two k)) : Calls Tryd.prog 63 #[.pointer (some ⟨g, 0, none⟩)] w fun e w' => e = .returned (.int .u16 k) ∧ RdrP w0 w g bv' F (p + 2) wh w' := by
  obtain ⟨hle, htk⟩ := hb.take (by simp [two])
  rw [two_length] at hle htk
  refine calls_of_WC Tryd.func63 rfl Tryd.ntmps63 rfl ?_
  refine GO ?_
  refine WL_fun rfl ((reader_take w0 w g bv' F p wh 2 h hle).mono ?_)
  rintro e w1 ⟨v, rfl, hv, hR, hC⟩
  refine ⟨_, rfl, ?_⟩
  rw [htk] at hv
  obtain ⟨b, o, cap, rfl, _⟩ := ReadsAt.form hv (by rw [bv_length, two_length]; decide)
  have hv1 := hv.grow hR.grows
  refine GO ?_
  refine WC_seq (WC_draws (fun w' => BytesAt w' (.slice (some ⟨b, o, none⟩) (two k).length cap) (two k)) (by kernel_rfl) (fun w1 g => hv1.grow g) ?_)
  intro w2 g2 hS
  refine WT 0 ?_
  refine WD_take (i := 1) rfl rfl rfl rfl (by kernel_rfl) (by assumption) (fun w' hS => by exact Y_index (i := 0) vv (by rfl) (by rw [two_length]; omega)) ?_
  refine WD_take (i := 2) rfl rfl rfl rfl (by kernel_rfl) (by assumption) (fun w' hS => by exact Y_load_cell vv (rd_cell hS (j := 0) rfl)) ?_
  refine WD_take (i := 3) rfl rfl rfl rfl (by kernel_rfl) (by assumption) (fun w' hS => by exact Y_conv (c := k / 256) vv (by rw [two_hi k h0 h1, wrap16]; omega)) ?_
  refine WD_take (i := 4) rfl rfl rfl rfl (by kernel_rfl) (by assumption) (fun w' hS => by exact Y_shl (c := k / 256 * 256) vv vv (by decide) (shl8 _ (by omega) (by omega))) ?_
  refine WT 5 ?_
  refine WD_take (i := 6) rfl rfl rfl rfl (by kernel_rfl) (by assumption) (fun w' hS => by exact Y_index (i := 1) vv (by rfl) (by rw [two_length]; omega)) ?_
  refine WD_take (i := 7) rfl rfl rfl rfl (by kernel_rfl) (by assumption) (fun w' hS => by exact Y_load_cell vv (rd_cell hS (j := 1) rfl)) ?_
  refine WD_take (i := 8) rfl rfl rfl rfl (by kernel_rfl) (by assumption) (fun w' hS => by exact Y_conv (c := k % 256) vv (by rw [two_lo k h0, wrap16]; omega)) ?_
  refine WD_take (i := 9) rfl rfl rfl rfl (by kernel_rfl) (by assumption) (fun w' hS => by exact Y_or (c := k) vv vv (by rw [low_or _ _ 8 (by omega) (by omega) (by omega)]; omega)) ?_
  refine WD_one (c := 10) (by kernel_rfl) rfl ?_
  refine WL_assign vv (WL_nil ⟨hS, ?_⟩)
  refine WD_done (by kernel_rfl) ?_
  refine GO ?_
  exact ret1 (v := .int .u16 k) Tryd.results63 rfl ⟨rfl, hR.grow g2, hC.trans (Chg.of_below g2 (· = g)) (fun k _ hk => hk)⟩
theorem four_split (k : Int) (h0 : 0 ≤ k) (h1 : k < 4294967296) : four k = two (k / 65536) ++ two (k % 65536) := rfl
theorem reader_four (k : Int) (h0 : 0 ≤ k) (h1 : k < 4294967296) (h : RdrAt w0 w g bv' F p wh) (hb : BytesIn F p (four k)) : Calls Tryd.prog 78 #[.pointer (some ⟨g, 0, none⟩)] w fun e w' => e = .returned (.int .u32 k) ∧ RdrP w0 w g bv' F (p + 4) wh w' := by
  have hb1 : BytesIn F p (two (k / 65536)) := BytesIn.left hb
  have hb2 : BytesIn F (p + 2) (two (k % 65536)) := BytesIn.right (a := two (k / 65536)) hb
  refine calls_of_WC Tryd.func78 rfl Tryd.ntmps78 rfl ?_
  refine GO ?_
  refine WL_fun rfl ((reader_two w0 w g bv' F p wh (k / 65536) (by omega) (by omega) h hb1).mono ?_)
  rintro e w1 ⟨rfl, hR, hC⟩
  refine ⟨_, rfl, ?_⟩
  refine GO ?_
  refine WL_conv (c := k / 65536) vv (by rw [IntKind.wrap_u32]; omega) ?_
  refine WL_y (Y_shl (c := k / 65536 * 65536) vv vv (by decide) (shl16 _ (by omega) (by omega))) ?_
  refine GO ?_
  refine WL_fun rfl ((reader_two w0 w1 g bv' F (p + 2) wh (k % 65536) (by omega) (by omega) hR hb2).mono ?_)
  rintro e w2 ⟨rfl, hR2, hC2⟩
  refine ⟨_, rfl, ?_⟩
  refine WL_conv (c := k % 65536) vv (by rw [IntKind.wrap_u32]; omega) ?_
  refine WL_y (Y_or (c := k) vv vv (by rw [or_u32 _ _ (by omega) (by omega) (by omega) (by omega) (by omega)]; omega)) ?_
  refine GO ?_
  exact ret1 (v := .int .u32 k) Tryd.results78 rfl ⟨rfl, hR2, hC.trans hC2 (fun k _ hk => hk)⟩
end
end Go.Proofs.YtfoinoegabcigaaDoor
