/- The contracts of Header.pack, HeadOk and their kin. -/
import Derived.Test.YtgkhfpkfjajdjaaDoorG2
import Derived.Deep.AppendLies
import Derived.WalkSpells
import Derived.StillTailTactics
import Derived.Test.YtgkhfpkfjajdjaaDoorG3
set_option linter.unusedVariables false
set_option linter.unusedSimpArgs false
namespace Go.Proofs.YtgkhfpkfjajdjaaDoor
open Go.RowKit
set_option maxHeartbeats 400000

/-- the cells of a header -/
def headCells (id op code : Int) (r1 r2 r3 r4 r5 r6 r7 : Bool) : Array Value :=
  #[.int .u16 id, .bool r1, .int .u16 op, .bool r2, .bool r3, .bool r4, .bool r5, .bool r6, .bool r7, .int .u16 code]

theorem spec_HeadOk (id op code : Int) (r1 r2 r3 r4 r5 r6 r7 : Bool) (w : World) :
    Calls Tryd.prog 38 #[.agg #[.int .u16 id, .bool r1, .int .u16 op, .bool r2, .bool r3, .bool r4, .bool r5, .bool r6, .bool r7, .int .u16 code]] w fun e w' => e = .returned (.bool (decide (op < 16) && decide (code < 16))) ∧ Below w.heap.size w w' := by
  by_cases h : op < 16
  all_goals
    go_enter Tryd.func38, Tryd.ntmps38
    go_wp2
    go_ret
    exact ⟨by first | (simp [h]; done) | (simp; omega), (Below.refl _ _).alloc (Nat.le_refl _) _⟩

theorem laws_specHead (id op code : Int) (r1 r2 r3 r4 r5 r6 r7 : Bool) (w : World) :
    Calls Tryd.prog 33 #[.agg #[.int .u16 id, .bool r1, .int .u16 op, .bool r2, .bool r3, .bool r4, .bool r5, .bool r6, .bool r7, .int .u16 code]] w fun e w' => e = .returned (.agg #[.int .u16 id, .bool r1, .int .u16 op, .bool r2, .bool r3, .bool r4, .bool r5, .bool r6, .bool r7, .int .u16 code]) ∧ Below w.heap.size w w' := by
  go_enter Tryd.func33, Tryd.ntmps33
  go_wp2
  go_returns
  exact ⟨rfl, ((Below.refl _ _).alloc (Nat.le_refl _) _).alloc (by simp) _⟩

theorem impl_headerOf (id op code : Int) (r1 r2 r3 r4 r5 r6 r7 : Bool) (w : World) :
    Calls Tryd.prog 48 #[.agg #[.int .u16 id, .bool r1, .int .u16 op, .bool r2, .bool r3, .bool r4, .bool r5, .bool r6, .bool r7, .int .u16 code]] w fun e w' => e = .returned (.agg #[.int .u16 id, .bool r1, .int .u16 op, .bool r2, .bool r3, .bool r4, .bool r5, .bool r6, .bool r7, .int .u16 code]) ∧ Below w.heap.size w w' := by
  go_enter Tryd.func48, Tryd.ntmps48
  go_wp2
  go_returns
  exact ⟨rfl, ((Below.refl _ _).alloc (Nat.le_refl _) _).alloc (by simp) _⟩

theorem dns_Header_pack (id op code : Int) (qr aa tc rd ra ad cd : Bool) (w : World) (g : Nat) (t : TypeId)
    (hg : w.heap[g]? = some (.cells #[.int .u16 id, .bool qr, .int .u16 op, .bool aa, .bool tc, .bool rd, .bool ra, .bool ad, .bool cd, .int .u16 code] t (0, 0)))
    (h0 : 0 ≤ op) (h1 : op < 16) (h2 : 0 ≤ code) (h3 : code < 16) :
    Calls Tryd.prog 72 #[.pointer (some ⟨g, 0, none⟩)] w fun e w' => e = .returned (.tuple #[.int .u16 id, .int .u16 (hsum op code qr aa tc rd ra ad cd)]) ∧ SameHeap w w' := by
  have c0 := cell_of_row w g 0 _ t _ hg
  have c1 := cell_of_row w g 1 _ t _ hg
  have c2 := cell_of_row w g 2 _ t _ hg
  have c3 := cell_of_row w g 3 _ t _ hg
  have c4 := cell_of_row w g 4 _ t _ hg
  have c5 := cell_of_row w g 5 _ t _ hg
  have c6 := cell_of_row w g 6 _ t _ hg
  have c7 := cell_of_row w g 7 _ t _ hg
  have c8 := cell_of_row w g 8 _ t _ hg
  have c9 := cell_of_row w g 9 _ t _ hg
  clear hg
  simp at c0 c1 c2 c3 c4 c5 c6 c7 c8 c9
  have e0 : bits BinOp.or IntKind.u16 (op * 2048) code = op * 2048 + code := or_low _ _ 4 (by omega) (by omega) h2 (by simpa using h3) (by omega) (by simp; omega)
  have k0 := hor_128 op code  h0 h1 h2 h3
  have k1 := hor_256 op code ra h0 h1 h2 h3
  have k2 := hor_512 op code ra rd h0 h1 h2 h3
  have k3 := hor_1024 op code ra rd tc h0 h1 h2 h3
  have k4 := hor_32768 op code ra rd tc aa h0 h1 h2 h3
  have k5 := hor_32 op code ra rd tc aa qr h0 h1 h2 h3
  have k6 := hor_16 op code ra rd tc aa qr ad h0 h1 h2 h3
  go_enter Tryd.func72, Tryd.ntmps72
  go_wp2
  go_quiet (fail)
  go_upto_if 21 with (fail)
  go_cut [3] (fun v3 wx => v3 = .int .u16 (op * 2048 + code + bi ra * 128) ∧ wx = w.drewN nq)
  case first =>
    go_wp2
    all_goals go_meet
    all_goals (case rel => exact ⟨by simp [bi, *], rfl⟩)
  obtain ⟨rfl, rfl⟩ := hcut
  go_upto_if 27 with (fail)
  go_cut [3] (fun v3 wx => v3 = .int .u16 (op * 2048 + code + bi ra * 128 + bi rd * 256) ∧ wx = w.drewN nq)
  case first =>
    go_wp2
    all_goals go_meet
    all_goals (case rel => exact ⟨by simp [bi, *], rfl⟩)
  obtain ⟨rfl, rfl⟩ := hcut
  go_upto_if 33 with (fail)
  go_cut [3] (fun v3 wx => v3 = .int .u16 (op * 2048 + code + bi ra * 128 + bi rd * 256 + bi tc * 512) ∧ wx = w.drewN nq)
  case first =>
    go_wp2
    all_goals go_meet
    all_goals (case rel => exact ⟨by simp [bi, *], rfl⟩)
  obtain ⟨rfl, rfl⟩ := hcut
  go_upto_if 39 with (fail)
  go_cut [3] (fun v3 wx => v3 = .int .u16 (op * 2048 + code + bi ra * 128 + bi rd * 256 + bi tc * 512 + bi aa * 1024) ∧ wx = w.drewN nq)
  case first =>
    go_wp2
    all_goals go_meet
    all_goals (case rel => exact ⟨by simp [bi, *], rfl⟩)
  obtain ⟨rfl, rfl⟩ := hcut
  go_upto_if 45 with (fail)
  go_cut [3] (fun v3 wx => v3 = .int .u16 (op * 2048 + code + bi ra * 128 + bi rd * 256 + bi tc * 512 + bi aa * 1024 + bi qr * 32768) ∧ wx = w.drewN nq)
  case first =>
    go_wp2
    all_goals go_meet
    all_goals (case rel => exact ⟨by simp [bi, *], rfl⟩)
  obtain ⟨rfl, rfl⟩ := hcut
  go_upto_if 51 with (fail)
  go_cut [3] (fun v3 wx => v3 = .int .u16 (op * 2048 + code + bi ra * 128 + bi rd * 256 + bi tc * 512 + bi aa * 1024 + bi qr * 32768 + bi ad * 32) ∧ wx = w.drewN nq)
  case first =>
    go_wp2
    all_goals go_meet
    all_goals (case rel => exact ⟨by simp [bi, *], rfl⟩)
  obtain ⟨rfl, rfl⟩ := hcut
  go_upto_if 57 with (fail)
  go_cut [3] (fun v3 wx => v3 = .int .u16 (op * 2048 + code + bi ra * 128 + bi rd * 256 + bi tc * 512 + bi aa * 1024 + bi qr * 32768 + bi ad * 32 + bi cd * 16) ∧ wx = w.drewN nq)
  case first =>
    go_wp2
    all_goals go_meet
    all_goals (case rel => exact ⟨by simp [bi, *], rfl⟩)
  obtain ⟨rfl, rfl⟩ := hcut
  go_wp2
  go_ret2
  exact ⟨rfl, SameHeap.drewN w nq⟩
end Go.Proofs.YtgkhfpkfjajdjaaDoor

/- The contract of NewBuilder. -/
namespace Go.Proofs.YtgkhfpkfjajdjaaDoor
open Go.RowKit
set_option maxHeartbeats 1000000
set_option maxRecDepth 100000

/-- a step of a region that draws its order: append of bytes to bytes of the call's own -/
theorem step_append_bytes {w : World} {ops : Array Oper} {o : Oper} {a : Act} {K : Act → World → Prop} {Q : Exit → Act → World → Prop} {E : Prop} (hgd : o.guard = none) (s x : Operand)
    (ho : o.op = .call { callee := .builtin .append, args := #[s, x], argTypes := #[26, 26] })
    (v : Value) (bs : Bytes) (hs : a.eval s = v) (hown : Own w v bs) (y : Value) (cs : Bytes) (hx : a.eval x = y) (hr : BytesAt w y cs)
    (hlen : bs.length + cs.length ≤ 200000000000000) (hcs : cs.length ≤ 140737488355328)
    (h : ∀ v' w', GrewB w v bs w' v' (bs ++ cs) → K (a.put o.dst v') w') :
    if Region.wanted o (yielded ops a.tmps) = true then Oper.wp Tryd.prog o a w K Q else E := by
  have hw : Region.wanted o (yielded ops a.tmps) = true := by simp [Region.wanted, hgd]
  rw [if_pos hw]
  obtain ⟨i0, hi, hz0, hz1, hz2⟩ := info_parts infoU8
  obtain ⟨v', w', hr, h2⟩ := run_append_grew (P := Tryd.prog) w 26 o.type 5 i0 (.int .u8 0) 1 1 Tryd.underlying26 hi hz0 hz1 hz2 rfl (by decide) v bs.length (bv bs) hown y cs.length (bv cs) hr (bv_one cs) (by unfold maxLen; omega) ⟨by omega, by omega, by omega⟩
  unfold Oper.wp execOp
  simp only [ho, resolve, invoke, builtin, Sem.run_bind, Sem.run_pure, Result.andThen_ok, List.map_toArray, List.map_cons, List.map_nil, hs, hx, hr]
  refine h v' w' ?_
  unfold GrewB
  rw [List.length_append, bv_append]
  exact h2

def z512 : Array Value := madeCells #[.int .u8 0] 512
theorem z512_size : z512.size = 512 := by rw [z512, size_madeCells]
theorem mk512 (w : World) : (Instr.makeSlice 26 (.int .i64 0) (.int .i64 512)).run Tryd.prog w = .ok (.slice (some ⟨w.heap.size, 0, none⟩) 0 512) (w.alloc (.cells z512 5)) := by
  obtain ⟨i0, hi, hz0, hz1, hz2⟩ := info_parts infoU8
  have h := run_make (P := Tryd.prog) w 26 5 i0 (.int .u8 0) Tryd.underlying26 hi hz0 .i64 .i64 0 512 (by omega) (by omega) (by rw [hz2]; omega) (by omega)
  rw [hz1] at h
  exact h
theorem z512_own (w : World) : Own (w.alloc (.cells z512 5)) (.slice (some ⟨w.heap.size, 0, none⟩) 0 512) [] :=
  World.ownsRow_made w z512 512 (Nat.zero_le _) (by decide) (by rw [z512_size])

/-- what NewBuilder leaves -/
def NewB (id : Int) (bits : Int) (bufv : Value) (buf : Bytes) (w : World) (e : Ending) (w' : World) : Prop :=
  ∃ g cap, e = .returned (.agg #[.slice (some ⟨g, 0, none⟩) (buf.length + 12) cap, .int .u8 1, .int .u16 id, .int .u16 bits, .int .u16 0, .int .u16 0, .int .u16 0, .int .u16 0, .int .i64 (buf.length : Int), .map none]) ∧ Own w' (.slice (some ⟨g, 0, none⟩) (buf.length + 12) cap) (buf ++ zeros12) ∧
    w.grownBy w' bufv.ownBlock ∧ (bufv.ownBlock = some g ∨ w.heap.size ≤ g)

theorem dns_NewBuilder_nil (id op code : Int) (qr aa tc rd ra ad cd : Bool) (w : World) (h0 : 0 ≤ op) (h1 : op < 16) (h2 : 0 ≤ code) (h3 : code < 16) :
    Calls Tryd.prog 47 #[.slice none 0 0, .agg #[.int .u16 id, .bool qr, .int .u16 op, .bool aa, .bool tc, .bool rd, .bool ra, .bool ad, .bool cd, .int .u16 code]] w
      (NewB id (hsum op code qr aa tc rd ra ad cd) (.slice none 0 0) [] w) := by
  have hmk := mk512
  have hnl := fun (w : World) (a : Option Addr) (l c : Nat) => Lib.run_eql_slice_nil (P := Tryd.prog) w 26 5 a l c 0 0 Tryd.underlying26
  go_enter Tryd.func47, Tryd.ntmps47
  go_wp2_with fail
  refine (dns_Header_pack id op code qr aa tc rd ra ad cd _ w.heap.size 115 (by simp (disch := (first | (simp only [World.size_alloc]; done) | (simp only [World.size_alloc]; omega) | omega)) only [hp_eq, hp_ne]) h0 h1 h2 h3).mono ?_
  rintro e w1 ⟨rfl, hs1⟩
  have hz1 : w1.heap.size = w.heap.size + 4 := by rw [hs1.heap]; simp
  have b3 := congrArg (fun h : Array Obj => h[w.heap.size + 1 + 1 + 1]?) hs1.heap
  have b1 := congrArg (fun h : Array Obj => h[w.heap.size + 1]?) hs1.heap
  have b2 := congrArg (fun h : Array Obj => h[w.heap.size + 1 + 1]?) hs1.heap
  simp (disch := (first | (simp only [World.size_alloc]; done) | (simp only [World.size_alloc]; omega) | omega)) only [hp_eq, hp_ne] at b1 b2 b3
  have hb1 : Below w.heap.size w w1 := (((((Below.refl _ w).alloc (Nat.le_refl _) _).alloc (by simp only [World.size_alloc]; omega) _).alloc (by simp only [World.size_alloc]; omega) _).alloc (by simp only [World.size_alloc]; omega) _).trans ((hs1.below _))
  clear hs1
  have c3 := fun j => cell_of_row w1 _ j _ _ _ b3
  have f3 := fun j => frozen_of_row w1 _ j _ _ b3
  have B1 := Lib.hid b1
  have B2 := Lib.hid b2
  clear b2
  have B3 := Lib.hid b3
  have HZ := Lib.hid hz1
  clear b1 b3 hz1
  go_wp2_with fail
  refine wp_letter fun w2 hw2 => ?_
  have hz2 : w2.heap.size = w.heap.size + 5 := by rw [hw2]; simp; exact HZ.out
  have b3 : w2.heap[w.heap.size + 1 + 1 + 1]? = some (.cells #[.slice (some ⟨w.heap.size + 1 + 1, 0, none⟩) 0 512, .int .u8 0, .int .u16 id, .int .u16 (hsum op code qr aa tc rd ra ad cd), .int .u16 0, .int .u16 0, .int .u16 0, .int .u16 0, .int .i64 0, .map none] 110 (0, 0)) := by
    rw [hw2, hp_ne _ _ _ (by simp [HZ.out]), hp_set _ _ _ _ _ _ (hp_set _ _ _ _ _ _ B3.out)]
    rfl
  have b2 : w2.heap[w.heap.size + 1 + 1]? = some (.cells z512 5 (0, 0)) := by
    rw [hw2, hp_ne _ _ _ (by simp [HZ.out]), hp_setCell _ _ _ _ (by simp), hp_setCell _ _ _ _ (by simp)]
    exact B2.out
  have b1 : w2.heap[w.heap.size + 1]? = some (.cells #[.slice none 0 0, .int .u8 0, .int .u16 0, .int .u16 0, .int .u16 0, .int .u16 0, .int .u16 0, .int .u16 0, .int .i64 0, .map none] 110 (0, 0)) := by
    rw [hw2, hp_ne _ _ _ (by simp [HZ.out]), hp_setCell _ _ _ _ (by simp), hp_setCell _ _ _ _ (by simp)]
    exact B1.out
  have b4 : w2.heap[w1.heap.size]? = some (.cells #[.int .u8 0, .int .u8 0, .int .u8 0, .int .u8 0, .int .u8 0, .int .u8 0, .int .u8 0, .int .u8 0, .int .u8 0, .int .u8 0, .int .u8 0, .int .u8 0] 141 (0, 0)) := by
    rw [hw2, hp_eq _ _ _ (by simp)]
  have hb2 : Below w.heap.size w w2 := by
    rw [hw2]
    exact ((hb1.setCell (by simp; omega) _).setCell (by simp; omega) _).alloc (by simp [HZ.out]) _
  clear hw2 c3 f3 B1 B3 hb1 hnl hmk B2
  have c30 := cell_of_row w2 _ 0 _ _ _ b3
  simp at c30
  have hown : Own w2 (.slice (some ⟨w.heap.size + 1 + 1, 0, none⟩) 0 512) [] := own_of_block b2 rfl (by omega) (by decide) z512_size rfl
  have hrd : BytesAt w2 (.slice (some ⟨w1.heap.size, 0, none⟩) 12 12) zeros12 := bytes_of_block b4 rfl rfl
  have HB := Lib.hid b3
  have H1 := Lib.hid b1
  have HOwn := Lib.hid hown
  have HRd := Lib.hid hrd
  have HZ2 := Lib.hid hz2
  clear b1 b2 b3 b4 hown hrd hz2
  go_still_tail 3, (by kernel_rfl)
  refine append_bytes (w := w2.drew) rfl _ _ rfl (.slice (some ⟨w.heap.size + 1 + 1, 0, none⟩) 0 512) [] rfl HOwn.out (.slice (some ⟨w1.heap.size, 0, none⟩) 12 12) zeros12 rfl HRd.out (by decide) (by decide) ?_
  intro v' w' hg
  have HB' := Lib.hid ((hg.by_.block (w.heap.size + 1 + 1 + 1) (by have := HZ2.out; show _ < w2.heap.size; omega) (by simp [Value.ownBlock])).trans HB.out)
  have H1' := Lib.hid ((hg.by_.block (w.heap.size + 1) (by have := HZ2.out; show _ < w2.heap.size; omega) (by simp [Value.ownBlock])).trans H1.out)
  have c' := fun j => cell_of_row w' _ j _ _ _ HB'.out
  have f' := fun j => frozen_of_row w' _ j _ _ HB'.out
  have c1' := fun j => cell_of_row w' _ j _ _ _ H1'.out
  have f1' := fun j => frozen_of_row w' _ j _ _ H1'.out
  obtain ⟨g', cap', rfl, hcap', hlt'⟩ := hg.own.form 12 rfl (by decide)
  have HG := Lib.hid hg
  clear hg
  go_wp2_with fail
  refine bodyPost_ret (v := .agg #[.slice (some ⟨g', 0, none⟩) 12 cap', .int .u8 1, .int .u16 id, .int .u16 (hsum op code qr aa tc rd ra ad cd), .int .u16 0, .int .u16 0, .int .u16 0, .int .u16 0, .int .i64 0, .map none]) (by simp [results, Tryd.results47, go_sem, c1']) rfl ?_
  have hG := HG.out
  have n1 := Own.ne hG.own H1'.out (by decide)
  have n2 := Own.ne hG.own HB'.out (by decide)
  refine ⟨g', cap', rfl, ?_, ?_, ?_⟩
  · show Own _ (.slice (some ⟨g', 0, none⟩) 12 cap') _
    have o := hG.own
    repeat (first | (with_reducible exact o) | ((with_reducible refine Own.setCell ?_ _ _ ?_); rotate_left; (first | (with_reducible exact n1) | (with_reducible exact n2))))
  · have hgb : w.grownBy w' (Value.ownBlock (.slice none 0 0)) := grownBy_of_below (hb2.drew.grown hG.by_ (by have := HZ2.out; show _ ≤ w2.heap.size; omega) (by intro k hk; simp only [Value.ownBlock, Option.some.injEq] at hk; omega)) _
    repeat (first | (with_reducible exact hgb) | ((with_reducible refine grownBy_setCell ?_ _ _ ?_); rotate_left; (exact .inr (by dsimp only; omega))))
  · rcases hG.at_ with h | ⟨k, hk, h⟩
    · simp only [Value.ownBlock, Option.some.injEq] at h; exact .inr (by omega)
    · simp only [Value.ownBlock, Option.some.injEq] at h; exact .inr (by have := HZ2.out; simp at hk; omega)
theorem dns_NewBuilder_buf (id op code : Int) (qr aa tc rd ra ad cd : Bool) (w : World) (h0 : 0 ≤ op) (h1 : op < 16) (h2 : 0 ≤ code) (h3 : code < 16) (g n cap : Nat) (buf : Bytes) (hn : n = buf.length) (hlen : n + 12 ≤ 200000000000000) (hown0 : Own w (.slice (some ⟨g, 0, none⟩) n cap) buf) :
    Calls Tryd.prog 47 #[.slice (some ⟨g, 0, none⟩) n cap, .agg #[.int .u16 id, .bool qr, .int .u16 op, .bool aa, .bool tc, .bool rd, .bool ra, .bool ad, .bool cd, .int .u16 code]] w
      (NewB id (hsum op code qr aa tc rd ra ad cd) (.slice (some ⟨g, 0, none⟩) n cap) buf w) := by
  have HN := Lib.hid hn
  have HO := Lib.hid hown0
  have hlt : g < w.heap.size := (hown0.lt g rfl).2
  clear hn hown0
  have hnl := fun (w : World) (a : Option Addr) (l c : Nat) => Lib.run_eql_slice_nil (P := Tryd.prog) w 26 5 a l c 0 0 Tryd.underlying26
  go_enter Tryd.func47, Tryd.ntmps47
  go_wp2_with fail
  refine (dns_Header_pack id op code qr aa tc rd ra ad cd _ w.heap.size 115 (by simp (disch := (first | (simp only [World.size_alloc]; done) | (simp only [World.size_alloc]; omega) | omega)) only [hp_eq, hp_ne]) h0 h1 h2 h3).mono ?_
  rintro e w1 ⟨rfl, hs1⟩
  have hz1 : w1.heap.size = w.heap.size + 3 := by rw [hs1.heap]; simp
  have b3 := congrArg (fun h : Array Obj => h[w.heap.size + 1 + 1]?) hs1.heap
  have b1 := congrArg (fun h : Array Obj => h[w.heap.size + 1]?) hs1.heap
  simp (disch := (first | (simp only [World.size_alloc]; done) | (simp only [World.size_alloc]; omega) | omega)) only [hp_eq, hp_ne] at b1 b3
  have hb1 : Below w.heap.size w w1 := ((((Below.refl _ w).alloc (Nat.le_refl _) _).alloc (by simp only [World.size_alloc]; omega) _).alloc (by simp only [World.size_alloc]; omega) _).trans ((hs1.below _))
  clear hs1
  have c3 := fun j => cell_of_row w1 _ j _ _ _ b3
  have f3 := fun j => frozen_of_row w1 _ j _ _ b3
  have B1 := Lib.hid b1
  have B3 := Lib.hid b3
  have HZ := Lib.hid hz1
  clear b1 b3 hz1
  go_wp2_with fail
  refine wp_letter fun w2 hw2 => ?_
  have hz2 : w2.heap.size = w.heap.size + 4 := by rw [hw2]; simp; exact HZ.out
  have b3 : w2.heap[w.heap.size + 1 + 1]? = some (.cells #[.slice (some ⟨g, 0, none⟩) n cap, .int .u8 0, .int .u16 id, .int .u16 (hsum op code qr aa tc rd ra ad cd), .int .u16 0, .int .u16 0, .int .u16 0, .int .u16 0, .int .i64 n, .map none] 110 (0, 0)) := by
    rw [hw2, hp_ne _ _ _ (by simp [HZ.out]), hp_set _ _ _ _ _ _ (hp_set _ _ _ _ _ _ B3.out)]
    rfl
  have b1 : w2.heap[w.heap.size + 1]? = some (.cells #[.slice none 0 0, .int .u8 0, .int .u16 0, .int .u16 0, .int .u16 0, .int .u16 0, .int .u16 0, .int .u16 0, .int .i64 0, .map none] 110 (0, 0)) := by
    rw [hw2, hp_ne _ _ _ (by simp [HZ.out]), hp_setCell _ _ _ _ (by simp), hp_setCell _ _ _ _ (by simp)]
    exact B1.out
  have b4 : w2.heap[w1.heap.size]? = some (.cells #[.int .u8 0, .int .u8 0, .int .u8 0, .int .u8 0, .int .u8 0, .int .u8 0, .int .u8 0, .int .u8 0, .int .u8 0, .int .u8 0, .int .u8 0, .int .u8 0] 141 (0, 0)) := by
    rw [hw2, hp_eq _ _ _ (by simp)]
  have hb2 : Below w.heap.size w w2 := by
    rw [hw2]
    exact ((hb1.setCell (by simp; omega) _).setCell (by simp; omega) _).alloc (by simp [HZ.out]) _
  clear hw2 c3 f3 B1 B3 hb1 hnl
  have c30 := cell_of_row w2 _ 0 _ _ _ b3
  simp at c30
  have hown : Own w2 (.slice (some ⟨g, 0, none⟩) n cap) buf := World.ownsRow.kept HO.out (grownBy_of_below hb2 none) (.inr (by simp [Value.ownBlock]))
  have hrd : BytesAt w2 (.slice (some ⟨w1.heap.size, 0, none⟩) 12 12) zeros12 := bytes_of_block b4 rfl rfl
  have HB := Lib.hid b3
  have H1 := Lib.hid b1
  have HOwn := Lib.hid hown
  have HRd := Lib.hid hrd
  have HZ2 := Lib.hid hz2
  clear b1 b3 b4 hown hrd hz2
  go_still_tail 3, (by kernel_rfl)
  refine append_bytes (w := w2.drew) rfl _ _ rfl (.slice (some ⟨g, 0, none⟩) n cap) buf rfl HOwn.out (.slice (some ⟨w1.heap.size, 0, none⟩) 12 12) zeros12 rfl HRd.out (by have := HN.out; simp [zeros12]; omega) (by decide) ?_
  intro v' w' hg
  have HB' := Lib.hid ((hg.by_.block (w.heap.size + 1 + 1) (by have := HZ2.out; show _ < w2.heap.size; omega) (by simp [Value.ownBlock]; omega)).trans HB.out)
  have H1' := Lib.hid ((hg.by_.block (w.heap.size + 1) (by have := HZ2.out; show _ < w2.heap.size; omega) (by simp [Value.ownBlock]; omega)).trans H1.out)
  have c' := fun j => cell_of_row w' _ j _ _ _ HB'.out
  have f' := fun j => frozen_of_row w' _ j _ _ HB'.out
  have c1' := fun j => cell_of_row w' _ j _ _ _ H1'.out
  have f1' := fun j => frozen_of_row w' _ j _ _ H1'.out
  obtain ⟨g', cap', rfl, hcap', hlt'⟩ := hg.own.form (n + 12) (by have := HN.out; simp [zeros12]; omega) (by omega)
  have HG := Lib.hid hg
  clear hg
  go_wp2_with fail
  refine bodyPost_ret (v := .agg #[.slice (some ⟨g', 0, none⟩) (n + 12) cap', .int .u8 1, .int .u16 id, .int .u16 (hsum op code qr aa tc rd ra ad cd), .int .u16 0, .int .u16 0, .int .u16 0, .int .u16 0, .int .i64 n, .map none]) (by simp [results, Tryd.results47, go_sem, c1']) rfl ?_
  have hG := HG.out
  have n1 := Own.ne hG.own H1'.out (by decide)
  have n2 := Own.ne hG.own HB'.out (by decide)
  refine ⟨g', cap', by rw [← HN.out], ?_, ?_, ?_⟩
  · rw [← HN.out]
    have o := hG.own
    repeat (first | (with_reducible exact o) | ((with_reducible refine Own.setCell ?_ _ _ ?_); rotate_left; (first | (with_reducible exact n1) | (with_reducible exact n2))))
  · have hgb : w.grownBy w' (Value.ownBlock (.slice (some ⟨g, 0, none⟩) n cap)) := grownBy_trans (grownBy_drew (grownBy_of_below hb2 _)) hG.by_ (.inl rfl)
    repeat (first | (with_reducible exact hgb) | ((with_reducible refine grownBy_setCell ?_ _ _ ?_); rotate_left; (exact .inr (by dsimp only; omega))))
  · rcases hG.at_ with h | ⟨k, hk, h⟩
    · exact .inl h.symm
    · simp only [Value.ownBlock, Option.some.injEq] at h; exact .inr (by have := HZ2.out; simp at hk; omega)
end Go.Proofs.YtgkhfpkfjajdjaaDoor

/- Bytes that are written in place; the contracts of header.pack and Finish. -/
namespace Go.Proofs.YtgkhfpkfjajdjaaDoor
open Go.RowKit
set_option maxHeartbeats 1000000
set_option maxRecDepth 100000

/-- append of bytes in place, in the midst of a row -/
theorem run_append_mid {P : Program} (w : World) (t ty e : TypeId) (i : TypeInfo) (ht : P.underlying t = some (.slice e)) (hi : P.info? e = some i) (hsize : i.size = 1)
    (g o n cap : Nat) (cur : Array Value) (hg : w.heap[g]? = some (.cells cur e (0, 0))) (y : Value) (m : Nat) (news : List Value) (hr : ReadsAt w 1 y m news) (h1 : ∀ u ∈ news, u.oneCell' = true)
    (hroom : n + m ≤ cap) (hfit : o + n + m ≤ cur.size) :
    (Builtin.append_ #[t, t] ty #[.slice (some ⟨g, o, none⟩) n cap, y]).run P w =
      .ok (.slice (some ⟨g, o, none⟩) (n + m) cap) (w.setRow g (cur.toList.take (o + n) ++ news ++ cur.toList.drop (o + n + news.length)).toArray) := by
  obtain ⟨hl, ao, c, rfl, hnil, hx⟩ := hr
  simp only [Nat.mul_one] at hl
  have hst := run_storeCells_at P g (o + n) e news 0 cur w hg (by simp only [Nat.add_zero]; omega) h1
  simp only [Nat.add_zero] at hst
  have hadd : (⟨g, o, none⟩ : Addr).add n = ⟨g, o + n, none⟩ := by unfold Addr.add; split <;> simp_all
  cases ao with
  | none =>
    obtain ⟨rfl, rfl⟩ := hnil rfl
    obtain rfl : news = [] := List.eq_nil_of_length_eq_zero (by simpa using hl)
    simp only [Nat.add_zero] at hroom
    simp [Builtin.append_, run_underlying ht, sizeOf, typeInfo, hi, Builtin.lenOf, hroom, Builtin.firstCells, storeCells]
    rw [setRow_self w g cur e (0, 0) hg]
  | some a =>
    have hnews : ∀ j u, news[j]? = some u → w.cell? (a.add j) = some u := fun j u hu => by
      obtain ⟨a', ha', hc⟩ := hx j u hu
      cases ha'
      exact hc
    have hf := run_firstCells_some (P := P) w i.size m a m c news (by rw [hsize, Nat.mul_one]; exact hl) hnews
    rw [hsize] at hf
    simp [Builtin.append_, run_underlying ht, sizeOf, typeInfo, hi, hsize, Builtin.lenOf, hroom, hf, hadd, hst]

theorem take_bv (bs : Bytes) (n : Nat) : (bv bs).take n = bv (bs.take n) := by simp [bv, List.map_take]
theorem drop_bv (bs : Bytes) (n : Nat) : (bv bs).drop n = bv (bs.drop n) := by simp [bv, List.map_drop]

theorem append_put {w : World} {ops : Array Oper} {rest : List Oper} {op : Oper} {a : Act} {Q : Exit → Act → World → Prop} (hgd : op.guard = none) (s x : Operand)
    (ho : op.op = .call { callee := .builtin .append, args := #[s, x], argTypes := #[26, 26] })
    (mv : Value) (bs : Bytes) (g L cap : Nat) (hmv : mv = .slice (some ⟨g, 0, none⟩) L cap) (hown : Own w mv bs) (o n c : Nat) (hs : a.eval s = .slice (some ⟨g, o, none⟩) n c)
    (y : Value) (cs : Bytes) (hx : a.eval x = y) (hr : BytesAt w y cs) (hc : n + cs.length ≤ c) (hin : o + n + cs.length ≤ bs.length)
    (h : ∀ w', Own w' mv (put bs (o + n) cs) → w.grownBy w' (some g) → wpList Tryd.prog ops Q rest (a.put op.dst (.slice (some ⟨g, o, none⟩) (n + cs.length) c)) w') : wpList Tryd.prog ops Q (op :: rest) a w :=
  wpList_plain hgd fun _ hK => by
    obtain ⟨i0, hi, hz0, hz1, hz2⟩ := info_parts infoU8
    subst hmv
    rcases hown.2 with ⟨hq, _⟩ | ⟨g', cap', cur, hv, _, hg, hnc, hcm, hcs, ht⟩
    · cases hq
    simp only [Value.slice.injEq, Option.some.injEq, Addr.mk.injEq] at hv
    obtain ⟨⟨rfl, _, _⟩, rfl, rfl⟩ := hv
    simp only [Nat.mul_one] at hcs ht
    have hrun := run_append_mid (P := Tryd.prog) w 26 op.type 5 i0 Tryd.underlying26 hi hz1 g o n c cur hg y cs.length (bv cs) hr (bv_one _) hc (by omega)
    unfold Oper.wp execOp
    simp only [ho, resolve, invoke, builtin, Sem.run_bind, Sem.run_pure, Result.andThen_ok, List.map_toArray, List.map_cons, List.map_nil, hs, hx, hrun]
    refine hK _ _ (h _ ?_ ⟨rfl, rfl, rfl, by simp, fun k _ hk => setRow_other w g k _ (fun e => hk (by rw [e]))⟩)
    have hpl := put_length bs (o + n) cs hin
    have hsz := splice_sizes cur (o + n) (bv cs) (by rw [bv_length]; omega)
    refine ⟨by simp [bv, hpl], .inr ⟨g, cap, _, by rw [hpl], Nat.zero_le _, setRow_heap w g cur _ 5 _ hg, by omega, hcm, by rw [hsz]; omega, ?_⟩⟩
    rw [hpl, Nat.mul_one, bv_length]
    have e : cur.toList = bv bs ++ cur.toList.drop bs.length := by rw [← ht, List.take_append_drop]
    have e1 : cur.toList.take (o + n) = bv (bs.take (o + n)) := by rw [e, List.take_append_of_le_length (by rw [bv_length]; omega), take_bv]
    have e2 : cur.toList.drop (o + n + cs.length) = bv (bs.drop (o + n + cs.length)) ++ cur.toList.drop bs.length := by
      rw [e, List.drop_append_of_le_length (by rw [bv_length]; omega), drop_bv]
      congr 1
      rw [← e]
    rw [List.toList_toArray, e1, e2, ← List.append_assoc, ← bv_append, ← bv_append, ← hpl]
    have : (put bs (o + n) cs).length = (bv (put bs (o + n) cs)).length := by rw [bv_length]
    rw [this]
    exact List.take_left
/-- a number is written in place -/
theorem dns_packUint16_at (w : World) (mv : Value) (bs : Bytes) (g L cap : Nat) (hmv : mv = .slice (some ⟨g, 0, none⟩) L cap) (hown : Own w mv bs) (o n c : Nat) (k : Int) (h0 : 0 ≤ k) (h1 : k < 65536) (hc : n + 2 ≤ c) (hin : o + n + 2 ≤ bs.length) :
    Calls Tryd.prog 84 #[.slice (some ⟨g, o, none⟩) n c, .int .u16 k] w fun e w' => e = .returned (.slice (some ⟨g, o, none⟩) (n + 2) c) ∧ Own w' mv (put bs (o + n) (two k)) ∧ w.grownBy w' (some g) := by
  have hown1 := fun o => hown.alloc o
  have hlt : g < w.heap.size := by subst hmv; exact (hown.lt g rfl).2
  clear hown
  have HM := Lib.hid hmv
  clear hmv
  go_enter Tryd.func84, Tryd.ntmps84
  go_wp2_with (at_builtin; refine append_put rfl _ _ rfl mv bs g L cap HM.out (hown1 _) o n c rfl _ (two k) rfl (bytes_new _ _ _ _ _ (two_cells k h0 h1) rfl) hc hin ?_; intro w' ho hg)
  go_ret
  exact ⟨rfl, ho, grownBy_trans (World.grownBy_alloc w _ _) hg (.inl rfl)⟩

/-- the cells of a Builder -/
def bcells (mv : Value) (sec id bits q an ns ar : Int) (st : Nat) (cv : Value) : Array Value :=
  #[mv, .int .u8 sec, .int .u16 id, .int .u16 bits, .int .u16 q, .int .u16 an, .int .u16 ns, .int .u16 ar, .int .i64 (st : Int), cv]
theorem cell_after {w w' : World} {g b : Nat} {cs : Array Value} {t : TypeId} {fr : Nat × Nat} (hB : w.heap[b]? = some (.cells cs t fr)) (hg : w.grownBy w' (some g)) (hb : b ≠ g) : w'.heap[b]? = some (.cells cs t fr) :=
  (hg.block b (Array.getElem?_eq_some_iff.1 hB).1 (by simpa using hb)).trans hB

theorem dns_header_pack (w : World) (mv : Value) (bs : Bytes) (g L cap : Nat) (hmv : mv = .slice (some ⟨g, 0, none⟩) L cap) (hown : Own w mv bs) (b : Nat) (mv0 cv : Value) (sec id bits q an ns ar : Int) (st : Nat)
    (hB : w.heap[b]? = some (.cells #[mv0, .int .u8 sec, .int .u16 id, .int .u16 bits, .int .u16 q, .int .u16 an, .int .u16 ns, .int .u16 ar, .int .i64 (st : Int), cv] 110 (0, 0))) (hb : b ≠ g)
    (i1 : 0 ≤ id ∧ id < 65536) (i2 : 0 ≤ bits ∧ bits < 65536) (i3 : 0 ≤ q ∧ q < 65536) (i4 : 0 ≤ an ∧ an < 65536) (i5 : 0 ≤ ns ∧ ns < 65536) (i6 : 0 ≤ ar ∧ ar < 65536)
    (o c : Nat) (hc : 12 ≤ c) (hin : o + 12 ≤ bs.length) :
    Calls Tryd.prog 76 #[.pointer (some ⟨b, 2, none⟩), .slice (some ⟨g, o, none⟩) 0 c] w fun e w' => e = .returned (.slice (some ⟨g, o, none⟩) 12 c) ∧ Own w' mv (put bs o (hdr id bits q an ns ar)) ∧ w.grownBy w' (some g) := by
  have HM := Lib.hid hmv
  have c0 := fun j => cell_of_row w b j _ _ _ hB
  have HB := Lib.hid hB
  have HO := Lib.hid hown
  have HI := Lib.hid hin
  clear hmv hB hown hin
  go_enter Tryd.func76, Tryd.ntmps76
  go_wp2_with fail
  refine (dns_packUint16_at w mv bs g L cap HM.out HO.out o 0 c id i1.1 i1.2 (by omega) (by have := HI.out; omega)).mono ?_
  rintro e w1 ⟨rfl, o1, g1⟩
  have O1 := Lib.hid (show Own w1 mv (put bs o (two id)) from o1)
  have G1 := Lib.hid g1
  have c1 := fun j => cell_of_row w1 b j _ _ _ (cell_after HB.out G1.out hb)
  clear o1 g1 c0
  go_wp2_with fail
  refine (dns_packUint16_at w1 mv (put bs o (two id)) g L cap HM.out O1.out o 2 c bits i2.1 i2.2 (by omega) (by have := HI.out; rw [put_length _ _ _ (by simp only [two_length]; omega)]; omega)).mono ?_
  rintro e w2 ⟨rfl, o2, g2⟩
  have O2 : Hid (Own w2 mv (put bs o (two id ++ two bits))) := by
    have h := put_put bs o (two id) (two bits) (by have := HI.out; simp only [two_length]; omega)
    simp only [two_length] at h
    rw [h] at o2
    exact o2
  have G2 := Lib.hid (grownBy_trans G1.out g2 (.inl rfl))
  have c2 := fun j => cell_of_row w2 b j _ _ _ (cell_after HB.out G2.out hb)
  clear o2 g2 c1
  go_wp2_with fail
  refine (dns_packUint16_at w2 mv (put bs o (two id ++ two bits)) g L cap HM.out O2.out o 4 c q i3.1 i3.2 (by omega) (by have := HI.out; rw [put_length _ _ _ (by simp only [List.length_append, two_length]; omega)]; omega)).mono ?_
  rintro e w3 ⟨rfl, o3, g3⟩
  have O3 : Hid (Own w3 mv (put bs o (two id ++ two bits ++ two q))) := by
    have h := put_put bs o (two id ++ two bits) (two q) (by have := HI.out; simp only [List.length_append, two_length]; omega)
    simp only [List.length_append, two_length] at h
    rw [h] at o3
    exact o3
  have G3 := Lib.hid (grownBy_trans G2.out g3 (.inl rfl))
  have c3 := fun j => cell_of_row w3 b j _ _ _ (cell_after HB.out G3.out hb)
  clear o3 g3 c2
  go_wp2_with fail
  refine (dns_packUint16_at w3 mv (put bs o (two id ++ two bits ++ two q)) g L cap HM.out O3.out o 6 c an i4.1 i4.2 (by omega) (by have := HI.out; rw [put_length _ _ _ (by simp only [List.length_append, two_length]; omega)]; omega)).mono ?_
  rintro e w4 ⟨rfl, o4, g4⟩
  have O4 : Hid (Own w4 mv (put bs o (two id ++ two bits ++ two q ++ two an))) := by
    have h := put_put bs o (two id ++ two bits ++ two q) (two an) (by have := HI.out; simp only [List.length_append, two_length]; omega)
    simp only [List.length_append, two_length] at h
    rw [h] at o4
    exact o4
  have G4 := Lib.hid (grownBy_trans G3.out g4 (.inl rfl))
  have c4 := fun j => cell_of_row w4 b j _ _ _ (cell_after HB.out G4.out hb)
  clear o4 g4 c3
  go_wp2_with fail
  refine (dns_packUint16_at w4 mv (put bs o (two id ++ two bits ++ two q ++ two an)) g L cap HM.out O4.out o 8 c ns i5.1 i5.2 (by omega) (by have := HI.out; rw [put_length _ _ _ (by simp only [List.length_append, two_length]; omega)]; omega)).mono ?_
  rintro e w5 ⟨rfl, o5, g5⟩
  have O5 : Hid (Own w5 mv (put bs o (two id ++ two bits ++ two q ++ two an ++ two ns))) := by
    have h := put_put bs o (two id ++ two bits ++ two q ++ two an) (two ns) (by have := HI.out; simp only [List.length_append, two_length]; omega)
    simp only [List.length_append, two_length] at h
    rw [h] at o5
    exact o5
  have G5 := Lib.hid (grownBy_trans G4.out g5 (.inl rfl))
  have c5 := fun j => cell_of_row w5 b j _ _ _ (cell_after HB.out G5.out hb)
  clear o5 g5 c4
  go_wp2_with fail
  refine (dns_packUint16_at w5 mv (put bs o (two id ++ two bits ++ two q ++ two an ++ two ns)) g L cap HM.out O5.out o 10 c ar i6.1 i6.2 (by omega) (by have := HI.out; rw [put_length _ _ _ (by simp only [List.length_append, two_length]; omega)]; omega)).mono ?_
  rintro e w6 ⟨rfl, o6, g6⟩
  have O6 : Hid (Own w6 mv (put bs o (two id ++ two bits ++ two q ++ two an ++ two ns ++ two ar))) := by
    have h := put_put bs o (two id ++ two bits ++ two q ++ two an ++ two ns) (two ar) (by have := HI.out; simp only [List.length_append, two_length]; omega)
    simp only [List.length_append, two_length] at h
    rw [h] at o6
    exact o6
  have G6 := Lib.hid (grownBy_trans G5.out g6 (.inl rfl))
  clear o6 g6 c5
  go_wp2_with fail
  go_ret
  exact ⟨rfl, O6.out, G6.out⟩
end Go.Proofs.YtgkhfpkfjajdjaaDoor

/- What a Builder holds in memory, and what its methods may change. -/
namespace Go.Proofs.YtgkhfpkfjajdjaaDoor
open Go.RowKit
set_option maxHeartbeats 1000000
set_option maxRecDepth 100000

/-! the map of compression -/
def mapOf (es : Array MapEntry) (m : CMap) : Prop := es.toList.map (fun e => (e.key, e.val)) = m.map fun x => (strOf x.1, Value.int .u16 (x.2 : Int))
theorem Own.solid {w : World} {v : Value} {bs : Bytes} (h : Own w v bs) {k : Nat} (e : v.ownBlock = some k) : Solid w k := by
  rcases h.2 with ⟨rfl, _⟩ | ⟨g, cap, cur, rfl, _, hg, _⟩
  · cases e
  · cases e; exact ⟨_, _, hg⟩
def CompAt (w : World) (cv : Value) : Option CMap → Prop
  | none => cv = .map none
  | some m => ∃ r es ck, cv = .map (some r) ∧ w.heap[r]? = some (.map es ck) ∧ mapOf es m
/-- the block of a map -/
def mapBlock : Value → Option Nat
  | .map r => r
  | _ => none

/-! a Builder -/
structure BSt where
  msg : Bytes
  sec : Nat
  id : Nat
  bits : Nat
  q : Nat
  an : Nat
  ns : Nat
  ar : Nat
  st : Nat
  comp : Option CMap
def BSt.ok (s : BSt) : Prop := s.sec ≤ 6 ∧ s.id < 65536 ∧ s.bits < 65536 ∧ s.q < 65536 ∧ s.an < 65536 ∧ s.ns < 65536 ∧ s.ar < 65536 ∧ s.st + 12 ≤ s.msg.length
/-- the Builder in block b, with the values mv and cv in its fields -/
structure BAt (w : World) (b : Nat) (mv cv : Value) (s : BSt) : Prop where
  cells : w.heap[b]? = some (.cells #[mv, .int .u8 (s.sec : Int), .int .u16 (s.id : Int), .int .u16 (s.bits : Int), .int .u16 (s.q : Int), .int .u16 (s.an : Int), .int .u16 (s.ns : Int), .int .u16 (s.ar : Int), .int .i64 (s.st : Int), cv] 110 (0, 0))
  own : Own w mv s.msg
  comp : CompAt w cv s.comp
  ok : s.ok
/-- the blocks that a Builder's methods may write -/
def Foot (b : Nat) (mv cv : Value) (k : Nat) : Prop := k = b ∨ mv.ownBlock = some k ∨ mapBlock cv = some k
theorem BAt.lt {w : World} {b : Nat} {mv cv : Value} {s : BSt} (h : BAt w b mv cv s) : b < w.heap.size := (Array.getElem?_eq_some_iff.1 h.cells).1
theorem BAt.ne_msg {w : World} {b : Nat} {mv cv : Value} {s : BSt} (h : BAt w b mv cv s) : mv.ownBlock ≠ some b := Own.ne h.own h.cells (by decide)
theorem CompAt.ne {w : World} {cv : Value} {m : Option CMap} (h : CompAt w cv m) {k : Nat} {cs : Array Value} {t : TypeId} {fr : Nat × Nat} (hk : w.heap[k]? = some (.cells cs t fr)) : mapBlock cv ≠ some k := by
  cases m with
  | none => rw [show cv = .map none from h]; simp [mapBlock]
  | some m =>
    obtain ⟨r, es, ck, rfl, hr, _⟩ := h
    simp only [mapBlock]
    intro e
    cases e
    rw [hk] at hr
    cases hr
theorem BAt.form {w : World} {b : Nat} {mv cv : Value} {s : BSt} (h : BAt w b mv cv s) : ∃ g cap, mv = .slice (some ⟨g, 0, none⟩) s.msg.length cap ∧ s.msg.length ≤ cap ∧ g < w.heap.size ∧ b ≠ g := by
  obtain ⟨g, cap, rfl, h1, h2⟩ := h.own.form s.msg.length rfl (by have := h.ok; unfold BSt.ok at this; omega)
  refine ⟨g, cap, rfl, h1, h2, fun e => h.ne_msg (by simp [Value.ownBlock, e])⟩
/-- a block of another kind is none of the Builder's -/
theorem BAt.far {w : World} {b : Nat} {mv cv : Value} {s : BSt} (h : BAt w b mv cv s) {k : Nat} {cs : Array Value} {t : TypeId} {fr : Nat × Nat} (hk : w.heap[k]? = some (.cells cs t fr)) (h1 : t ≠ 110) (h2 : t ≠ 5) : ¬ Foot b mv cv k := by
  rintro (rfl | hm | hc)
  · rw [h.cells] at hk; cases hk; exact h1 rfl
  · exact Own.ne h.own hk h2 hm
  · exact h.comp.ne hk hc
theorem CompAt.kept {w w' : World} {cv : Value} {m : Option CMap} (h : CompAt w cv m) (hk : ∀ r, mapBlock cv = some r → w'.heap[r]? = w.heap[r]?) : CompAt w' cv m := by
  cases m with
  | none => exact h
  | some m =>
    obtain ⟨r, es, ck, rfl, hr, hm⟩ := h
    exact ⟨r, es, ck, rfl, (hk r rfl).trans hr, hm⟩
/-- what a method of a Builder leaves: the Builder in a new state; nothing else of old has changed -/
def BStep (w : World) (b : Nat) (mv cv : Value) (w' : World) (s' : BSt) : Prop :=
  ∃ mv' cv', BAt w' b mv' cv' s' ∧ Chg (Foot b mv cv) w w' ∧ ∀ k, k < w.heap.size → Foot b mv' cv' k → Foot b mv cv k
theorem BStep.refl {w : World} {b : Nat} {mv cv : Value} {s : BSt} (h : BAt w b mv cv s) : BStep w b mv cv w s := ⟨mv, cv, h, Chg.refl _ _, fun _ _ h => h⟩
theorem BStep.trans {w : World} {b : Nat} {mv cv mv1 cv1 : Value} {w1 w2 : World} {s2 : BSt} (hc : Chg (Foot b mv cv) w w1) (hf : ∀ k, k < w.heap.size → Foot b mv1 cv1 k → Foot b mv cv k) (h1 : BStep w1 b mv1 cv1 w2 s2) : BStep w b mv cv w2 s2 := by
  obtain ⟨mv2, cv2, ha, hc2, hf2⟩ := h1
  exact ⟨mv2, cv2, ha, hc.trans hc2 hf, fun k hk h => hf k hk (hf2 k (Nat.lt_of_lt_of_le hk hc.size) h)⟩
theorem BAt.chg {w w' : World} {b : Nat} {mv cv : Value} {s : BSt} (h : BAt w b mv cv s) {S : Nat → Prop} (hc : Chg S w w') (hS : ∀ k, Foot b mv cv k → ¬ S k) : BAt w' b mv cv s := by
  refine ⟨hc.kept h.cells (hS b (.inl rfl)), ?_, h.comp.kept fun r hr => ?_, h.ok⟩
  · rcases h.own.2 with ⟨rfl, h0⟩ | ⟨g, cap, cur, rfl, hb, hg, hr⟩
    · exact ⟨h.own.1, .inl ⟨rfl, h0⟩⟩
    · exact ⟨h.own.1, .inr ⟨g, cap, cur, rfl, hb, hc.kept hg (hS g (.inr (.inl rfl))), hr⟩⟩
  · have hlt : r < w.heap.size := by
      have hcm := h.comp
      cases hm : s.comp with
      | none => rw [hm] at hcm; rw [show cv = .map none from hcm] at hr; cases hr
      | some m =>
        rw [hm] at hcm
        obtain ⟨r', es, ck, rfl, hr', _⟩ := hcm
        cases hr
        exact (Array.getElem?_eq_some_iff.1 hr').1
    exact hc.block r hlt (hS r (.inr (.inr hr)))
theorem BAt.grow {w w' : World} {b : Nat} {mv cv : Value} {s : BSt} (h : BAt w b mv cv s) (hb : Below w.heap.size w w') : BAt w' b mv cv s :=
  h.chg (Chg.of_below hb (fun _ => False)) (fun _ _ h => h)
theorem BAt.alloc {w : World} {b : Nat} {mv cv : Value} {s : BSt} (h : BAt w b mv cv s) (o : Obj) : BAt (w.alloc o) b mv cv s := h.grow ((Below.refl _ w).alloc (Nat.le_refl _) o)
theorem BAt.foot_lt {w : World} {b : Nat} {mv cv : Value} {s : BSt} (h : BAt w b mv cv s) {k : Nat} (hk : Foot b mv cv k) : k < w.heap.size := by
  rcases hk with rfl | hk | hk
  · exact h.lt
  · exact (h.own.lt k hk).2
  · have hcm := h.comp
    cases hm : s.comp with
    | none => rw [hm] at hcm; rw [show cv = .map none from hcm] at hk; cases hk
    | some m =>
      rw [hm] at hcm
      obtain ⟨r', es, ck, rfl, hr', _⟩ := hcm
      cases hk
      exact (Array.getElem?_eq_some_iff.1 hr').1
/-- a store of a new section, behind which all else is as it was -/
theorem BAt.set_sec {w : World} {b : Nat} {mv cv : Value} {s : BSt} (h : BAt w b mv cv s) (n : Nat) (hn : n ≤ 6) : BAt (w.setCell ⟨b, 1, none⟩ (.int .u8 (n : Int))) b mv cv { s with sec := n } := by
  refine ⟨?_, h.own.setCell _ _ h.ne_msg, h.comp.kept fun r hr => hp_setCell _ _ _ _ ?_, ?_⟩
  · rw [hp_set _ _ _ _ _ _ h.cells]; rfl
  · intro e
    have e' : r = b := e
    subst e'
    exact h.comp.ne h.cells hr
  · have := h.ok
    unfold BSt.ok at *
    exact ⟨hn, this.2⟩

theorem dns_Finish (w : World) (b : Nat) (mv cv : Value) (s : BSt) (h : BAt w b mv cv s) (hs : 1 ≤ s.sec) :
    Calls Tryd.prog 58 #[.pointer (some ⟨b, 0, none⟩)] w fun e w' => e = .returned (.tuple #[mv, .nilIface]) ∧ Own w' mv (put s.msg s.st (hdr s.id s.bits s.q s.an s.ns s.ar)) ∧ Chg (Foot b mv cv) w w' := by
  obtain ⟨g, cap, rfl, hcap, hlt, hne⟩ := h.form
  have hok := h.ok
  unfold BSt.ok at hok
  have c0 := fun j => cell_of_row w b j _ _ _ h.cells
  have f0 := fun j => frozen_of_row w b j _ _ h.cells
  have H := Lib.hid h
  have hs1 : (1 : Int) ≤ (s.sec : Int) := by omega
  have q0 : (0 : Int) ≤ (s.st : Int) := by omega
  have q1 : (s.st : Int) ≤ (s.msg.length : Int) := by omega
  have q2 : (s.st : Int) ≤ (cap : Int) := by omega
  clear h
  go_enter Tryd.func58, Tryd.ntmps58
  go_wp2_with fail
  refine wp_letter fun w1 hw1 => ?_
  have h1 : BAt w1 b (.slice (some ⟨g, 0, none⟩) s.msg.length cap) cv { s with sec := 6 } := by rw [hw1]; exact H.out.set_sec 6 (by omega)
  have hch : Chg (Foot b (.slice (some ⟨g, 0, none⟩) s.msg.length cap) cv) w w1 := by rw [hw1]; exact (Chg.refl _ _).setCell _ _ (.inl (.inl rfl))
  clear hw1 c0 f0
  have c1 := fun j => cell_of_row w1 b j _ _ _ h1.cells
  simp only at c1
  have H1 := Lib.hid h1
  have HC := Lib.hid hch
  clear h1 hch
  have hcs : ¬ cap = s.st := by omega
  go_still_tail 16, (by kernel_rfl)
  go_wp2_with fail
  refine (dns_header_pack w1.drew _ s.msg g s.msg.length cap rfl H1.out.own b _ _ 6 s.id s.bits s.q s.an s.ns s.ar s.st H1.out.cells hne ⟨by omega, by omega⟩ ⟨by omega, by omega⟩ ⟨by omega, by omega⟩ ⟨by omega, by omega⟩ ⟨by omega, by omega⟩ ⟨by omega, by omega⟩ s.st (cap - s.st) (by omega) (by omega)).mono ?_
  rintro e w2 ⟨rfl, o2, g2⟩
  have hB2 := cell_after (w := w1.drew) H1.out.cells g2 hne
  have c2 := fun j => cell_of_row w2 b j _ _ _ hB2
  have O2 := Lib.hid o2
  have G2 := Lib.hid g2
  clear o2 g2 hB2 c1
  go_wp2_with fail
  go_ret2
  exact ⟨rfl, O2.out, HC.out.drew.trans (Chg.of_grownBy G2.out (S := Foot b (.slice (some ⟨g, 0, none⟩) s.msg.length cap) cv) (fun k hk => by simp only [Option.some.injEq] at hk; subst hk; exact .inr (.inl rfl)) (fun k hk => O2.out.solid hk)) (fun k _ h => h)⟩
end Go.Proofs.YtgkhfpkfjajdjaaDoor

/- The contracts of same and faultOf at nil. -/
namespace Go.Proofs.YtgkhfpkfjajdjaaDoor
open Go.RowKit
set_option maxHeartbeats 1000000
set_option maxRecDepth 100000

theorem laws_same (w : World) (u v : Value) (xs bs : Bytes) (hu : BytesAt w u xs) (hv : BytesAt w v bs) : Calls Tryd.prog 20 #[u, v] w fun e w' => e = .returned (.bool (xs == bs)) ∧ w = w' := by
  have r1 := run_bytes_string w u xs hu
  have r2 := run_bytes_string w v bs hv
  clear hu hv
  simp only [strOf] at r1 r2
  go_enter Tryd.func20, Tryd.ntmps20
  go_wp2

  go_ret
  exact ⟨rfl, rfl⟩
theorem impl_faultOf_nil (w : World) : Calls Tryd.prog 50 #[.nilIface] w fun e w' => e = .returned (.int .i64 0) ∧ w = w' := by
  go_enter Tryd.func50, Tryd.ntmps50
  go_wp2
  go_ret
  exact ⟨rfl, rfl⟩
end Go.Proofs.YtgkhfpkfjajdjaaDoor

/- The map of compression: a look-up, and a new entry. -/
namespace Go.Proofs.YtgkhfpkfjajdjaaDoor
open Go.RowKit
set_option maxRecDepth 100000

theorem str_beq (a b : Bytes) : ((⟨a.toArray⟩ : ByteArray) == (⟨b.toArray⟩ : ByteArray)) = (a == b) := by
  by_cases h : a = b
  · subst h
    rw [show ((⟨a.toArray⟩ : ByteArray) == (⟨a.toArray⟩ : ByteArray)) = (a.toArray == a.toArray) from rfl]
    simp
  · rw [show ((⟨a.toArray⟩ : ByteArray) == (⟨b.toArray⟩ : ByteArray)) = (a.toArray == b.toArray) from rfl]
    simp
theorem findNow_map (k : Bytes) : ∀ (es : List MapEntry) (m : CMap) (i : Nat), es.map (fun e => (e.key, e.val)) = m.map (fun x => (strOf x.1, Value.int .u16 (x.2 : Int))) →
    ∃ r, Instr.findNow .string (strOf k) es i = some r ∧ (match lookC m k with | some p => ∃ j, r = some (j, .int .u16 (p : Int)) | none => r = none)
  | [], [], _, _ => ⟨none, rfl, rfl⟩
  | [], _ :: _, _, h => by simp at h
  | _ :: _, [], _, h => by simp at h
  | e :: es, x :: m, i, h => by
    simp only [List.map_cons, List.cons.injEq, Prod.mk.injEq] at h
    obtain ⟨⟨hk, hv⟩, hr⟩ := h
    have hs : Instr.sameNow .string (strOf k) e.key = some (k == x.1) := by
      rw [hk]
      simp only [strOf, Instr.sameNow, str_beq]
    unfold Instr.findNow
    rw [hs]
    by_cases he : k = x.1
    · subst he
      refine ⟨some (i, e.val), by simp, ?_⟩
      simp only [lookC, List.find?_cons, beq_self_eq_true, Option.map_some]
      exact ⟨i, by rw [hv]⟩
    · obtain ⟨r, h1, h2⟩ := findNow_map k es m (i + 1) hr
      have hkb : (k == x.1) = false := by simpa using he
      refine ⟨r, by rw [hkb]; exact h1, ?_⟩
      have hne : (x.1 == k) = false := by simp; exact fun h => he h.symm
      simpa [lookC, List.find?_cons, hne] using h2
theorem key_str : Tryd.prog.underlying 9 = some .string := Tryd.underlying9
theorem run_checkKey (w : World) (b : Bool) (v : Value) : (Instr.checkKey b 10000 9 v).run Tryd.prog w = .ok () w := by
  have : ∀ n : Nat, (Instr.checkKey b (n + 1) 9 v).run Tryd.prog w = .ok () w := fun n => by
    simp only [Instr.checkKey, Sem.run_bind, run_underlying key_str, Result.andThen_ok]
    rfl
  exact this 9999
theorem run_look (w : World) (r : Nat) (es : Array MapEntry) (ck : Nat) (m : CMap) (k : Bytes) (hr : w.heap[r]? = some (.map es ck)) (hm : mapOf es m) :
    (Instr.lookup 108 (.map (some r)) (strOf k) true).run Tryd.prog w = .ok (.tuple #[.int .u16 (((lookC m k).getD 0 : Nat) : Int), .bool (lookC m k).isSome]) w := by
  obtain ⟨x, h1, h2⟩ := findNow_map k es.toList m 0 hm
  have hg : (getObj r).run Tryd.prog w = .ok (.map es ck) w := by simp [getObj, Sem.run, hr]
  have hf : (Instr.findKey 9 (strOf k) es.toList).run Tryd.prog w = .ok x w := by
    simp only [Instr.findKey, Sem.run_bind, run_underlying key_str, Result.andThen_ok, h1]
    rfl
  have hz : (zeroValue 22).run Tryd.prog w = .ok (.int .u16 0) w := by kernel_rfl
  unfold Instr.lookup
  simp only [Sem.run_bind, run_underlying Tryd.underlying108, Sem.run_pure, Result.andThen_ok, hg, run_checkKey, hf]
  cases hl : lookC m k with
  | some p =>
    rw [hl] at h2
    obtain ⟨j, rfl⟩ := h2
    rfl
  | none =>
    rw [hl] at h2
    subst h2
    simp only [Sem.run_bind, hz, Result.andThen_ok]
    rfl
/-- the world with another object in a block that is no row -/
def setObjW (w : World) (r : Nat) (o : Obj) : World := { w with heap := w.heap.setIfInBounds r o }
theorem run_put (w : World) (r : Nat) (es : Array MapEntry) (ck : Nat) (m : CMap) (k : Bytes) (p : Nat) (hr : w.heap[r]? = some (.map es ck)) (hm : mapOf es m) (hl : lookC m k = none) :
    (Instr.mapUpdate 108 (.map (some r)) (strOf k) (.int .u16 (p : Int))).run Tryd.prog w = .ok () (setObjW w r (.map (es.push ⟨strOf k, .int .u16 (p : Int), ck⟩) (ck + 1))) := by
  obtain ⟨x, h1, h2⟩ := findNow_map k es.toList m 0 hm
  rw [hl] at h2
  subst h2
  have hg : (getObj r).run Tryd.prog w = .ok (.map es ck) w := by simp [getObj, Sem.run, hr]
  have hf : (Instr.findKey 9 (strOf k) es.toList).run Tryd.prog w = .ok none w := by
    simp only [Instr.findKey, Sem.run_bind, run_underlying key_str, Result.andThen_ok, h1]
    rfl
  unfold Instr.mapUpdate
  simp only [Sem.run_bind, run_underlying Tryd.underlying108, Sem.run_pure, Result.andThen_ok, hg, run_checkKey, hf]
  simp [setObj, Sem.run, hr, setObjW]
theorem setObjW_at (w : World) (r : Nat) (o o' : Obj) (hr : w.heap[r]? = some o) : (setObjW w r o').heap[r]? = some o' := by
  have := (Array.getElem?_eq_some_iff.1 hr).1
  simp [setObjW, this]
theorem setObjW_chg (w : World) (r : Nat) (o : Obj) (hn : ¬ Solid w r) : Chg (· = r) w (setObjW w r o) :=
  ⟨rfl, rfl, rfl, by simp [setObjW], fun k _ hk => by simp only [setObjW]; rw [Array.getElem?_setIfInBounds_ne (fun e => hk e.symm)], fun k hk => hk.of_eq (by
    simp only [setObjW]; rw [Array.getElem?_setIfInBounds_ne (fun e => hn (by rw [e]; exact hk))])⟩
theorem mapOf_push {es : Array MapEntry} {m : CMap} (h : mapOf es m) (k : Bytes) (p ck : Nat) : mapOf (es.push ⟨strOf k, .int .u16 (p : Int), ck⟩) (m ++ [(k, p)]) := by
  unfold mapOf at *
  simp [h]
end Go.Proofs.YtgkhfpkfjajdjaaDoor
