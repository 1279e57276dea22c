/- The contracts of Header.pack, HeadOk and their kin. -/
import Derived.Test.YtkhghacfhlociaaDoorBase
namespace Go.Proofs.YtkhghacfhlociaaDoor
open Go.RowKit
set_option maxHeartbeats 400000

/-- the cells of a header -/
def headCells (id op code : Int) (r1 r2 r3 r4 r5 r6 r7 : Bool) : Array Value :=
  #[.int .u16 id, .bool r1, .int .u16 op, .bool r2, .bool r3, .bool r4, .bool r5, .bool r6, .bool r7, .int .u16 code]

theorem spec_HeadOk (id op code : Int) (r1 r2 r3 r4 r5 r6 r7 : Bool) (w : World) :
    Calls Tryd.prog 19 #[.agg #[.int .u16 id, .bool r1, .int .u16 op, .bool r2, .bool r3, .bool r4, .bool r5, .bool r6, .bool r7, .int .u16 code]] w fun e w' => e = .returned (.bool (decide (op < 16) && decide (code < 16))) ∧ Below w.heap.size w w' := by
  by_cases h : op < 16
  all_goals
    go_enter Tryd.func19, Tryd.ntmps19
    go_wp2
    go_ret
    exact ⟨by first | (simp [h]; done) | (simp; omega), (Below.refl _ _).alloc (Nat.le_refl _) _⟩

theorem laws_specHead (id op code : Int) (r1 r2 r3 r4 r5 r6 r7 : Bool) (w : World) :
    Calls Tryd.prog 20 #[.agg #[.int .u16 id, .bool r1, .int .u16 op, .bool r2, .bool r3, .bool r4, .bool r5, .bool r6, .bool r7, .int .u16 code]] w fun e w' => e = .returned (.agg #[.int .u16 id, .bool r1, .int .u16 op, .bool r2, .bool r3, .bool r4, .bool r5, .bool r6, .bool r7, .int .u16 code]) ∧ Below w.heap.size w w' := by
  go_enter Tryd.func20, Tryd.ntmps20
  go_wp2
  go_returns
  exact ⟨rfl, ((Below.refl _ _).alloc (Nat.le_refl _) _).alloc (by simp) _⟩

theorem impl_headerOf (id op code : Int) (r1 r2 r3 r4 r5 r6 r7 : Bool) (w : World) :
    Calls Tryd.prog 48 #[.agg #[.int .u16 id, .bool r1, .int .u16 op, .bool r2, .bool r3, .bool r4, .bool r5, .bool r6, .bool r7, .int .u16 code]] w fun e w' => e = .returned (.agg #[.int .u16 id, .bool r1, .int .u16 op, .bool r2, .bool r3, .bool r4, .bool r5, .bool r6, .bool r7, .int .u16 code]) ∧ Below w.heap.size w w' := by
  go_enter Tryd.func48, Tryd.ntmps48
  go_wp2
  go_returns
  exact ⟨rfl, ((Below.refl _ _).alloc (Nat.le_refl _) _).alloc (by simp) _⟩

theorem dns_Header_pack (id op code : Int) (qr aa tc rd ra ad cd : Bool) (w : World) (g : Nat) (t : TypeId)
    (hg : w.heap[g]? = some (.cells #[.int .u16 id, .bool qr, .int .u16 op, .bool aa, .bool tc, .bool rd, .bool ra, .bool ad, .bool cd, .int .u16 code] t (0, 0)))
    (h0 : 0 ≤ op) (h1 : op < 16) (h2 : 0 ≤ code) (h3 : code < 16) :
    Calls Tryd.prog 63 #[.pointer (some ⟨g, 0, none⟩)] w fun e w' => e = .returned (.tuple #[.int .u16 id, .int .u16 (hsum op code qr aa tc rd ra ad cd)]) ∧ SameHeap w w' := by
  have c0 := cell_of_row w g 0 _ t _ hg
  have c1 := cell_of_row w g 1 _ t _ hg
  have c2 := cell_of_row w g 2 _ t _ hg
  have c3 := cell_of_row w g 3 _ t _ hg
  have c4 := cell_of_row w g 4 _ t _ hg
  have c5 := cell_of_row w g 5 _ t _ hg
  have c6 := cell_of_row w g 6 _ t _ hg
  have c7 := cell_of_row w g 7 _ t _ hg
  have c8 := cell_of_row w g 8 _ t _ hg
  have c9 := cell_of_row w g 9 _ t _ hg
  clear hg
  simp at c0 c1 c2 c3 c4 c5 c6 c7 c8 c9
  have e0 : bits BinOp.or IntKind.u16 (op * 2048) code = op * 2048 + code := or_low _ _ 4 (by omega) (by omega) h2 (by simpa using h3) (by omega) (by simp; omega)
  have k0 := hor_128 op code  h0 h1 h2 h3
  have k1 := hor_256 op code ra h0 h1 h2 h3
  have k2 := hor_512 op code ra rd h0 h1 h2 h3
  have k3 := hor_1024 op code ra rd tc h0 h1 h2 h3
  have k4 := hor_32768 op code ra rd tc aa h0 h1 h2 h3
  have k5 := hor_32 op code ra rd tc aa qr h0 h1 h2 h3
  have k6 := hor_16 op code ra rd tc aa qr ad h0 h1 h2 h3
  go_enter Tryd.func63, Tryd.ntmps63
  go_wp2
  go_quiet (fail)
  go_upto_if 21 with (fail)
  go_cut [3] (fun v3 wx => v3 = .int .u16 (op * 2048 + code + bi ra * 128) ∧ wx = w.drewN nq)
  case first =>
    go_wp2
    all_goals go_meet
    all_goals (case rel => exact ⟨by simp [bi, *], rfl⟩)
  obtain ⟨rfl, rfl⟩ := hcut
  go_upto_if 27 with (fail)
  go_cut [3] (fun v3 wx => v3 = .int .u16 (op * 2048 + code + bi ra * 128 + bi rd * 256) ∧ wx = w.drewN nq)
  case first =>
    go_wp2
    all_goals go_meet
    all_goals (case rel => exact ⟨by simp [bi, *], rfl⟩)
  obtain ⟨rfl, rfl⟩ := hcut
  go_upto_if 33 with (fail)
  go_cut [3] (fun v3 wx => v3 = .int .u16 (op * 2048 + code + bi ra * 128 + bi rd * 256 + bi tc * 512) ∧ wx = w.drewN nq)
  case first =>
    go_wp2
    all_goals go_meet
    all_goals (case rel => exact ⟨by simp [bi, *], rfl⟩)
  obtain ⟨rfl, rfl⟩ := hcut
  go_upto_if 39 with (fail)
  go_cut [3] (fun v3 wx => v3 = .int .u16 (op * 2048 + code + bi ra * 128 + bi rd * 256 + bi tc * 512 + bi aa * 1024) ∧ wx = w.drewN nq)
  case first =>
    go_wp2
    all_goals go_meet
    all_goals (case rel => exact ⟨by simp [bi, *], rfl⟩)
  obtain ⟨rfl, rfl⟩ := hcut
  go_upto_if 45 with (fail)
  go_cut [3] (fun v3 wx => v3 = .int .u16 (op * 2048 + code + bi ra * 128 + bi rd * 256 + bi tc * 512 + bi aa * 1024 + bi qr * 32768) ∧ wx = w.drewN nq)
  case first =>
    go_wp2
    all_goals go_meet
    all_goals (case rel => exact ⟨by simp [bi, *], rfl⟩)
  obtain ⟨rfl, rfl⟩ := hcut
  go_upto_if 51 with (fail)
  go_cut [3] (fun v3 wx => v3 = .int .u16 (op * 2048 + code + bi ra * 128 + bi rd * 256 + bi tc * 512 + bi aa * 1024 + bi qr * 32768 + bi ad * 32) ∧ wx = w.drewN nq)
  case first =>
    go_wp2
    all_goals go_meet
    all_goals (case rel => exact ⟨by simp [bi, *], rfl⟩)
  obtain ⟨rfl, rfl⟩ := hcut
  go_upto_if 57 with (fail)
  go_cut [3] (fun v3 wx => v3 = .int .u16 (op * 2048 + code + bi ra * 128 + bi rd * 256 + bi tc * 512 + bi aa * 1024 + bi qr * 32768 + bi ad * 32 + bi cd * 16) ∧ wx = w.drewN nq)
  case first =>
    go_wp2
    all_goals go_meet
    all_goals (case rel => exact ⟨by simp [bi, *], rfl⟩)
  obtain ⟨rfl, rfl⟩ := hcut
  go_wp2
  go_ret2
  exact ⟨rfl, SameHeap.drewN w nq⟩
end Go.Proofs.YtkhghacfhlociaaDoor
