/- The contracts of same and faultOf at nil. -/
import Derived.Test.YtkhghacfhlociaaDoorBuilder
namespace Go.Proofs.YtkhghacfhlociaaDoor
open Go.RowKit
set_option maxHeartbeats 1000000
set_option maxRecDepth 100000

theorem push_all (bs : Bytes) : ∀ s : ByteArray, (bs.map fun b => (b.toNat : Int)).foldl (fun r n => r.push (UInt8.ofNat n.toNat)) s = ⟨s.data ++ bs.toArray⟩ := by
  induction bs with
  | nil => intro s; simp
  | cons b bs ih =>
    intro s
    simp only [List.map_cons, List.foldl_cons]
    rw [ih]
    have : (s.push (UInt8.ofNat (b.toNat : Int).toNat)).data = s.data.push b := by
      simp [ByteArray.push]
    rw [this]
    simp
theorem run_bytes_string (w : World) (v : Value) (bs : Bytes) (h : BytesAt w v bs) : (convert 35 9 v).run Tryd.prog w = .ok (strOf bs) w := by
  obtain ⟨hl, ao, cap, rfl, hn, hx⟩ := h
  rw [run_convert_bytes_string w 35 9 5 ao bs.length cap Tryd.underlying35 Tryd.underlying5 Tryd.underlying9]
  cases ao with
  | none =>
    obtain ⟨h0, rfl⟩ := hn rfl
    obtain rfl : bs = [] := List.eq_nil_of_length_eq_zero h0
    rfl
  | some a =>
    have hc : ∀ j x, (bv bs)[j]? = some x → w.cell? (a.add j) = some x := fun j x hj => by
      obtain ⟨a', ha, hc⟩ := hx j x hj
      cases ha
      exact hc
    have hload := run_loadCells_list (P := Tryd.prog) w a (bv bs) hc
    rw [bv_length] at hload
    have e : bv bs = (bs.map fun b => (b.toNat : Int)).map (Value.int .u8) := by simp [bv, List.map_map, Function.comp_def]
    rw [e] at hload
    rw [run_bytesToString w a bs.length cap _ hload, push_all]
    simp [strOf]

theorem laws_same (w : World) (u v : Value) (xs bs : Bytes) (hu : BytesAt w u xs) (hv : BytesAt w v bs) : Calls Tryd.prog 21 #[u, v] w fun e w' => e = .returned (.bool (xs == bs)) ∧ w = w' := by
  have r1 := run_bytes_string w u xs hu
  have r2 := run_bytes_string w v bs hv
  clear hu hv
  simp only [strOf] at r1 r2
  go_enter Tryd.func21, Tryd.ntmps21
  go_wp2

  go_ret
  exact ⟨rfl, rfl⟩
theorem impl_faultOf_nil (w : World) : Calls Tryd.prog 50 #[.nilIface] w fun e w' => e = .returned (.int .i64 0) ∧ w = w' := by
  go_enter Tryd.func50, Tryd.ntmps50
  go_wp2
  go_ret
  exact ⟨rfl, rfl⟩
end Go.Proofs.YtkhghacfhlociaaDoor
