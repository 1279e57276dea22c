/- The contract of NewBuilder. -/
import Derived.Test.YtkhghacfhlociaaDoorBytes
import Derived.Test.YtkhghacfhlociaaDoorHead
import Derived.Deep.AppendLies
import Derived.WalkSpells
import Derived.StillTailTactics
namespace Go.Proofs.YtkhghacfhlociaaDoor
open Go.RowKit
set_option maxHeartbeats 1000000
set_option maxRecDepth 100000

/-- a step of a region that draws its order: append of bytes to bytes of the call's own -/
theorem step_append_bytes {w : World} {ops : Array Oper} {o : Oper} {a : Act} {K : Act → World → Prop} {Q : Exit → Act → World → Prop} {E : Prop} (hgd : o.guard = none) (s x : Operand)
    (ho : o.op = .call { callee := .builtin .append, args := #[s, x], argTypes := #[35, 35] })
    (v : Value) (bs : Bytes) (hs : a.eval s = v) (hown : Own w v bs) (y : Value) (cs : Bytes) (hx : a.eval x = y) (hr : BytesAt w y cs)
    (hlen : bs.length + cs.length ≤ 140737488355328)
    (h : ∀ v' w', GrewB w v bs w' v' (bs ++ cs) → K (a.put o.dst v') w') :
    if Region.wanted o (yielded ops a.tmps) = true then Oper.wp Tryd.prog o a w K Q else E := by
  have hw : Region.wanted o (yielded ops a.tmps) = true := by simp [Region.wanted, hgd]
  rw [if_pos hw]
  obtain ⟨i0, hi, hz0, hz1, hz2⟩ := info_parts infoU8
  obtain ⟨v', w', hr, h2⟩ := run_append_grew (P := Tryd.prog) w 35 o.type 5 i0 (.int .u8 0) 1 1 Tryd.underlying35 hi hz0 hz1 hz2 rfl (by decide) v bs.length (bv bs) hown y cs.length (bv cs) hr (bv_one cs) (by unfold maxLen; omega) (by omega)
  unfold Oper.wp execOp
  simp only [ho, resolve, invoke, builtin, Sem.run_bind, Sem.run_pure, Result.andThen_ok, List.map_toArray, List.map_cons, List.map_nil, hs, hx, hr]
  refine h v' w' ?_
  unfold GrewB
  rw [List.length_append, bv_append]
  exact h2

def zeros12 : Bytes := [0, 0, 0, 0, 0, 0, 0, 0, 0, 0, 0, 0]
def z512 : Array Value := madeCells #[.int .u8 0] 512
theorem z512_size : z512.size = 512 := by rw [z512, size_madeCells]
theorem mk512 (w : World) : (Instr.makeSlice 35 (.int .i64 0) (.int .i64 512)).run Tryd.prog w = .ok (.slice (some ⟨w.heap.size, 0, none⟩) 0 512) (w.alloc (.cells z512 5)) := by
  obtain ⟨i0, hi, hz0, hz1, hz2⟩ := info_parts infoU8
  have h := run_make (P := Tryd.prog) w 35 5 i0 (.int .u8 0) Tryd.underlying35 hi hz0 .i64 .i64 0 512 (by omega) (by omega) (by rw [hz2]; omega) (by omega)
  rw [hz1] at h
  exact h
theorem z512_own (w : World) : Own (w.alloc (.cells z512 5)) (.slice (some ⟨w.heap.size, 0, none⟩) 0 512) [] :=
  World.ownsRow_made w z512 512 (Nat.zero_le _) (by decide) (by rw [z512_size])

/-- what NewBuilder leaves -/
def NewB (id : Int) (bits : Int) (bufv : Value) (buf : Bytes) (w : World) (e : Ending) (w' : World) : Prop :=
  ∃ g cap, e = .returned (.agg #[.slice (some ⟨g, 0, none⟩) (buf.length + 12) cap, .int .u8 1, .int .u16 id, .int .u16 bits, .int .u16 0, .int .u16 0, .int .u16 0, .int .u16 0, .int .i64 (buf.length : Int), .map none]) ∧ Own w' (.slice (some ⟨g, 0, none⟩) (buf.length + 12) cap) (buf ++ zeros12) ∧
    w.grownBy w' bufv.ownBlock ∧ (bufv.ownBlock = some g ∨ w.heap.size ≤ g)

theorem dns_NewBuilder_nil (id op code : Int) (qr aa tc rd ra ad cd : Bool) (w : World) (h0 : 0 ≤ op) (h1 : op < 16) (h2 : 0 ≤ code) (h3 : code < 16) :
    Calls Tryd.prog 47 #[.slice none 0 0, .agg #[.int .u16 id, .bool qr, .int .u16 op, .bool aa, .bool tc, .bool rd, .bool ra, .bool ad, .bool cd, .int .u16 code]] w
      (NewB id (hsum op code qr aa tc rd ra ad cd) (.slice none 0 0) [] w) := by
  have hmk := mk512
  have hnl := fun (w : World) (a : Option Addr) (l c : Nat) => Lib.run_eql_slice_nil (P := Tryd.prog) w 35 5 a l c 0 0 Tryd.underlying35
  go_enter Tryd.func47, Tryd.ntmps47
  go_wp2_with fail
  refine (dns_Header_pack id op code qr aa tc rd ra ad cd _ w.heap.size 103 (by simp (disch := (first | (simp only [World.size_alloc]; done) | (simp only [World.size_alloc]; omega) | omega)) only [hp_eq, hp_ne]) h0 h1 h2 h3).mono ?_
  rintro e w1 ⟨rfl, hs1⟩
  have hz1 : w1.heap.size = w.heap.size + 4 := by rw [hs1.heap]; simp
  have b3 := congrArg (fun h : Array Obj => h[w.heap.size + 1 + 1 + 1]?) hs1.heap
  have b1 := congrArg (fun h : Array Obj => h[w.heap.size + 1]?) hs1.heap
  have b2 := congrArg (fun h : Array Obj => h[w.heap.size + 1 + 1]?) hs1.heap
  simp (disch := (first | (simp only [World.size_alloc]; done) | (simp only [World.size_alloc]; omega) | omega)) only [hp_eq, hp_ne] at b1 b2 b3
  have hb1 : Below w.heap.size w w1 := (((((Below.refl _ w).alloc (Nat.le_refl _) _).alloc (by simp only [World.size_alloc]; omega) _).alloc (by simp only [World.size_alloc]; omega) _).alloc (by simp only [World.size_alloc]; omega) _).trans ((hs1.below _))
  clear hs1
  have c3 := fun j => cell_of_row w1 _ j _ _ _ b3
  have f3 := fun j => frozen_of_row w1 _ j _ _ b3
  have B1 := Lib.hid b1
  have B2 := Lib.hid b2
  clear b2
  have B3 := Lib.hid b3
  have HZ := Lib.hid hz1
  clear b1 b3 hz1
  go_wp2_with fail
  refine wp_letter fun w2 hw2 => ?_
  have hz2 : w2.heap.size = w.heap.size + 5 := by rw [hw2]; simp; exact HZ.out
  have b3 : w2.heap[w.heap.size + 1 + 1 + 1]? = some (.cells #[.slice (some ⟨w.heap.size + 1 + 1, 0, none⟩) 0 512, .int .u8 0, .int .u16 id, .int .u16 (hsum op code qr aa tc rd ra ad cd), .int .u16 0, .int .u16 0, .int .u16 0, .int .u16 0, .int .i64 0, .map none] 98 (0, 0)) := by
    rw [hw2, hp_ne _ _ _ (by simp [HZ.out]), hp_set _ _ _ _ _ _ (hp_set _ _ _ _ _ _ B3.out)]
    rfl
  have b2 : w2.heap[w.heap.size + 1 + 1]? = some (.cells z512 5 (0, 0)) := by
    rw [hw2, hp_ne _ _ _ (by simp [HZ.out]), hp_setCell _ _ _ _ (by simp), hp_setCell _ _ _ _ (by simp)]
    exact B2.out
  have b1 : w2.heap[w.heap.size + 1]? = some (.cells #[.slice none 0 0, .int .u8 0, .int .u16 0, .int .u16 0, .int .u16 0, .int .u16 0, .int .u16 0, .int .u16 0, .int .i64 0, .map none] 98 (0, 0)) := by
    rw [hw2, hp_ne _ _ _ (by simp [HZ.out]), hp_setCell _ _ _ _ (by simp), hp_setCell _ _ _ _ (by simp)]
    exact B1.out
  have b4 : w2.heap[w1.heap.size]? = some (.cells #[.int .u8 0, .int .u8 0, .int .u8 0, .int .u8 0, .int .u8 0, .int .u8 0, .int .u8 0, .int .u8 0, .int .u8 0, .int .u8 0, .int .u8 0, .int .u8 0] 138 (0, 0)) := by
    rw [hw2, hp_eq _ _ _ (by simp)]
  have hb2 : Below w.heap.size w w2 := by
    rw [hw2]
    exact ((hb1.setCell (by simp; omega) _).setCell (by simp; omega) _).alloc (by simp [HZ.out]) _
  clear hw2 c3 f3 B1 B3 hb1 hnl hmk B2
  have c30 := cell_of_row w2 _ 0 _ _ _ b3
  simp at c30
  have hown : Own w2 (.slice (some ⟨w.heap.size + 1 + 1, 0, none⟩) 0 512) [] := own_of_block b2 rfl (by omega) (by decide) z512_size rfl
  have hrd : BytesAt w2 (.slice (some ⟨w1.heap.size, 0, none⟩) 12 12) zeros12 := bytes_of_block b4 rfl rfl
  have HB := Lib.hid b3
  have H1 := Lib.hid b1
  have HOwn := Lib.hid hown
  have HRd := Lib.hid hrd
  have HZ2 := Lib.hid hz2
  clear b1 b2 b3 b4 hown hrd hz2
  go_still_tail 3, (by kernel_rfl)
  refine append_bytes (w := w2.drew) rfl _ _ rfl (.slice (some ⟨w.heap.size + 1 + 1, 0, none⟩) 0 512) [] rfl HOwn.out (.slice (some ⟨w1.heap.size, 0, none⟩) 12 12) zeros12 rfl HRd.out (by decide) ?_
  intro v' w' hg
  have HB' := Lib.hid ((hg.by_.block (w.heap.size + 1 + 1 + 1) (by have := HZ2.out; show _ < w2.heap.size; omega) (by simp [Value.ownBlock])).trans HB.out)
  have H1' := Lib.hid ((hg.by_.block (w.heap.size + 1) (by have := HZ2.out; show _ < w2.heap.size; omega) (by simp [Value.ownBlock])).trans H1.out)
  have c' := fun j => cell_of_row w' _ j _ _ _ HB'.out
  have f' := fun j => frozen_of_row w' _ j _ _ HB'.out
  have c1' := fun j => cell_of_row w' _ j _ _ _ H1'.out
  have f1' := fun j => frozen_of_row w' _ j _ _ H1'.out
  obtain ⟨g', cap', rfl, hcap', hlt'⟩ := hg.own.form 12 rfl (by decide)
  have HG := Lib.hid hg
  clear hg
  go_wp2_with fail
  refine bodyPost_ret (v := .agg #[.slice (some ⟨g', 0, none⟩) 12 cap', .int .u8 1, .int .u16 id, .int .u16 (hsum op code qr aa tc rd ra ad cd), .int .u16 0, .int .u16 0, .int .u16 0, .int .u16 0, .int .i64 0, .map none]) (by simp [results, Tryd.results47, go_sem, c1']) rfl ?_
  have hG := HG.out
  have n1 := Own.ne hG.own H1'.out (by decide)
  have n2 := Own.ne hG.own HB'.out (by decide)
  refine ⟨g', cap', rfl, ?_, ?_, ?_⟩
  · show Own _ (.slice (some ⟨g', 0, none⟩) 12 cap') _
    have o := hG.own
    repeat (first | (with_reducible exact o) | ((with_reducible refine Own.setCell ?_ _ _ ?_); rotate_left; (first | (with_reducible exact n1) | (with_reducible exact n2))))
  · have hgb : w.grownBy w' (Value.ownBlock (.slice none 0 0)) := grownBy_of_below (hb2.drew.grown hG.by_ (by have := HZ2.out; show _ ≤ w2.heap.size; omega) (by intro k hk; simp only [Value.ownBlock, Option.some.injEq] at hk; omega)) _
    repeat (first | (with_reducible exact hgb) | ((with_reducible refine grownBy_setCell ?_ _ _ ?_); rotate_left; (exact .inr (by dsimp only; omega))))
  · rcases hG.at_ with h | ⟨k, hk, h⟩
    · simp only [Value.ownBlock, Option.some.injEq] at h; exact .inr (by omega)
    · simp only [Value.ownBlock, Option.some.injEq] at h; exact .inr (by have := HZ2.out; simp at hk; omega)
theorem dns_NewBuilder_buf (id op code : Int) (qr aa tc rd ra ad cd : Bool) (w : World) (h0 : 0 ≤ op) (h1 : op < 16) (h2 : 0 ≤ code) (h3 : code < 16) (g n cap : Nat) (buf : Bytes) (hn : n = buf.length) (hlen : n + 12 ≤ 140737488355328) (hown0 : Own w (.slice (some ⟨g, 0, none⟩) n cap) buf) :
    Calls Tryd.prog 47 #[.slice (some ⟨g, 0, none⟩) n cap, .agg #[.int .u16 id, .bool qr, .int .u16 op, .bool aa, .bool tc, .bool rd, .bool ra, .bool ad, .bool cd, .int .u16 code]] w
      (NewB id (hsum op code qr aa tc rd ra ad cd) (.slice (some ⟨g, 0, none⟩) n cap) buf w) := by
  have HN := Lib.hid hn
  have HO := Lib.hid hown0
  have hlt : g < w.heap.size := (hown0.lt g rfl).2
  clear hn hown0
  have hnl := fun (w : World) (a : Option Addr) (l c : Nat) => Lib.run_eql_slice_nil (P := Tryd.prog) w 35 5 a l c 0 0 Tryd.underlying35
  go_enter Tryd.func47, Tryd.ntmps47
  go_wp2_with fail
  refine (dns_Header_pack id op code qr aa tc rd ra ad cd _ w.heap.size 103 (by simp (disch := (first | (simp only [World.size_alloc]; done) | (simp only [World.size_alloc]; omega) | omega)) only [hp_eq, hp_ne]) h0 h1 h2 h3).mono ?_
  rintro e w1 ⟨rfl, hs1⟩
  have hz1 : w1.heap.size = w.heap.size + 3 := by rw [hs1.heap]; simp
  have b3 := congrArg (fun h : Array Obj => h[w.heap.size + 1 + 1]?) hs1.heap
  have b1 := congrArg (fun h : Array Obj => h[w.heap.size + 1]?) hs1.heap
  simp (disch := (first | (simp only [World.size_alloc]; done) | (simp only [World.size_alloc]; omega) | omega)) only [hp_eq, hp_ne] at b1 b3
  have hb1 : Below w.heap.size w w1 := ((((Below.refl _ w).alloc (Nat.le_refl _) _).alloc (by simp only [World.size_alloc]; omega) _).alloc (by simp only [World.size_alloc]; omega) _).trans ((hs1.below _))
  clear hs1
  have c3 := fun j => cell_of_row w1 _ j _ _ _ b3
  have f3 := fun j => frozen_of_row w1 _ j _ _ b3
  have B1 := Lib.hid b1
  have B3 := Lib.hid b3
  have HZ := Lib.hid hz1
  clear b1 b3 hz1
  go_wp2_with fail
  refine wp_letter fun w2 hw2 => ?_
  have hz2 : w2.heap.size = w.heap.size + 4 := by rw [hw2]; simp; exact HZ.out
  have b3 : w2.heap[w.heap.size + 1 + 1]? = some (.cells #[.slice (some ⟨g, 0, none⟩) n cap, .int .u8 0, .int .u16 id, .int .u16 (hsum op code qr aa tc rd ra ad cd), .int .u16 0, .int .u16 0, .int .u16 0, .int .u16 0, .int .i64 n, .map none] 98 (0, 0)) := by
    rw [hw2, hp_ne _ _ _ (by simp [HZ.out]), hp_set _ _ _ _ _ _ (hp_set _ _ _ _ _ _ B3.out)]
    rfl
  have b1 : w2.heap[w.heap.size + 1]? = some (.cells #[.slice none 0 0, .int .u8 0, .int .u16 0, .int .u16 0, .int .u16 0, .int .u16 0, .int .u16 0, .int .u16 0, .int .i64 0, .map none] 98 (0, 0)) := by
    rw [hw2, hp_ne _ _ _ (by simp [HZ.out]), hp_setCell _ _ _ _ (by simp), hp_setCell _ _ _ _ (by simp)]
    exact B1.out
  have b4 : w2.heap[w1.heap.size]? = some (.cells #[.int .u8 0, .int .u8 0, .int .u8 0, .int .u8 0, .int .u8 0, .int .u8 0, .int .u8 0, .int .u8 0, .int .u8 0, .int .u8 0, .int .u8 0, .int .u8 0] 138 (0, 0)) := by
    rw [hw2, hp_eq _ _ _ (by simp)]
  have hb2 : Below w.heap.size w w2 := by
    rw [hw2]
    exact ((hb1.setCell (by simp; omega) _).setCell (by simp; omega) _).alloc (by simp [HZ.out]) _
  clear hw2 c3 f3 B1 B3 hb1 hnl
  have c30 := cell_of_row w2 _ 0 _ _ _ b3
  simp at c30
  have hown : Own w2 (.slice (some ⟨g, 0, none⟩) n cap) buf := World.ownsRow.kept HO.out (grownBy_of_below hb2 none) (.inr (by simp [Value.ownBlock]))
  have hrd : BytesAt w2 (.slice (some ⟨w1.heap.size, 0, none⟩) 12 12) zeros12 := bytes_of_block b4 rfl rfl
  have HB := Lib.hid b3
  have H1 := Lib.hid b1
  have HOwn := Lib.hid hown
  have HRd := Lib.hid hrd
  have HZ2 := Lib.hid hz2
  clear b1 b3 b4 hown hrd hz2
  go_still_tail 3, (by kernel_rfl)
  refine append_bytes (w := w2.drew) rfl _ _ rfl (.slice (some ⟨g, 0, none⟩) n cap) buf rfl HOwn.out (.slice (some ⟨w1.heap.size, 0, none⟩) 12 12) zeros12 rfl HRd.out (by have := HN.out; simp [zeros12]; omega) ?_
  intro v' w' hg
  have HB' := Lib.hid ((hg.by_.block (w.heap.size + 1 + 1) (by have := HZ2.out; show _ < w2.heap.size; omega) (by simp [Value.ownBlock]; omega)).trans HB.out)
  have H1' := Lib.hid ((hg.by_.block (w.heap.size + 1) (by have := HZ2.out; show _ < w2.heap.size; omega) (by simp [Value.ownBlock]; omega)).trans H1.out)
  have c' := fun j => cell_of_row w' _ j _ _ _ HB'.out
  have f' := fun j => frozen_of_row w' _ j _ _ HB'.out
  have c1' := fun j => cell_of_row w' _ j _ _ _ H1'.out
  have f1' := fun j => frozen_of_row w' _ j _ _ H1'.out
  obtain ⟨g', cap', rfl, hcap', hlt'⟩ := hg.own.form (n + 12) (by have := HN.out; simp [zeros12]; omega) (by omega)
  have HG := Lib.hid hg
  clear hg
  go_wp2_with fail
  refine bodyPost_ret (v := .agg #[.slice (some ⟨g', 0, none⟩) (n + 12) cap', .int .u8 1, .int .u16 id, .int .u16 (hsum op code qr aa tc rd ra ad cd), .int .u16 0, .int .u16 0, .int .u16 0, .int .u16 0, .int .i64 n, .map none]) (by simp [results, Tryd.results47, go_sem, c1']) rfl ?_
  have hG := HG.out
  have n1 := Own.ne hG.own H1'.out (by decide)
  have n2 := Own.ne hG.own HB'.out (by decide)
  refine ⟨g', cap', by rw [← HN.out], ?_, ?_, ?_⟩
  · rw [← HN.out]
    have o := hG.own
    repeat (first | (with_reducible exact o) | ((with_reducible refine Own.setCell ?_ _ _ ?_); rotate_left; (first | (with_reducible exact n1) | (with_reducible exact n2))))
  · have hgb : w.grownBy w' (Value.ownBlock (.slice (some ⟨g, 0, none⟩) n cap)) := grownBy_trans (grownBy_drew (grownBy_of_below hb2 _)) hG.by_ (.inl rfl)
    repeat (first | (with_reducible exact hgb) | ((with_reducible refine grownBy_setCell ?_ _ _ ?_); rotate_left; (exact .inr (by dsimp only; omega))))
  · rcases hG.at_ with h | ⟨k, hk, h⟩
    · exact .inl h.symm
    · simp only [Value.ownBlock, Option.some.injEq] at h; exact .inr (by have := HZ2.out; simp at hk; omega)
end Go.Proofs.YtkhghacfhlociaaDoor
