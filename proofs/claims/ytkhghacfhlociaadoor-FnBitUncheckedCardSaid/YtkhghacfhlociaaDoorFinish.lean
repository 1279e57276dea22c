/- Bytes that are written in place; the contracts of header.pack and Finish. -/
import Derived.Test.YtkhghacfhlociaaDoorNewB
namespace Go.Proofs.YtkhghacfhlociaaDoor
open Go.RowKit
set_option maxHeartbeats 1000000
set_option maxRecDepth 100000

/-- append of bytes in place, in the midst of a row -/
theorem run_append_mid {P : Program} (w : World) (t ty e : TypeId) (i : TypeInfo) (ht : P.underlying t = some (.slice e)) (hi : P.info? e = some i) (hsize : i.size = 1)
    (g o n cap : Nat) (cur : Array Value) (hg : w.heap[g]? = some (.cells cur e (0, 0))) (y : Value) (m : Nat) (news : List Value) (hr : ReadsAt w 1 y m news) (h1 : ∀ u ∈ news, u.oneCell' = true)
    (hroom : n + m ≤ cap) (hfit : o + n + m ≤ cur.size) :
    (Builtin.append_ #[t, t] ty #[.slice (some ⟨g, o, none⟩) n cap, y]).run P w =
      .ok (.slice (some ⟨g, o, none⟩) (n + m) cap) (w.setRow g (cur.toList.take (o + n) ++ news ++ cur.toList.drop (o + n + news.length)).toArray) := by
  obtain ⟨hl, ao, c, rfl, hnil, hx⟩ := hr
  simp only [Nat.mul_one] at hl
  have hst := run_storeCells_at P g (o + n) e news 0 cur w hg (by simp only [Nat.add_zero]; omega) h1
  simp only [Nat.add_zero] at hst
  have hadd : (⟨g, o, none⟩ : Addr).add n = ⟨g, o + n, none⟩ := by unfold Addr.add; split <;> simp_all
  cases ao with
  | none =>
    obtain ⟨rfl, rfl⟩ := hnil rfl
    obtain rfl : news = [] := List.eq_nil_of_length_eq_zero (by simpa using hl)
    simp only [Nat.add_zero] at hroom
    simp [Builtin.append_, run_underlying ht, sizeOf, typeInfo, hi, Builtin.lenOf, hroom, Builtin.firstCells, storeCells]
    rw [setRow_self w g cur e (0, 0) hg]
  | some a =>
    have hnews : ∀ j u, news[j]? = some u → w.cell? (a.add j) = some u := fun j u hu => by
      obtain ⟨a', ha', hc⟩ := hx j u hu
      cases ha'
      exact hc
    have hf := run_firstCells_some (P := P) w i.size m a m c news (by rw [hsize, Nat.mul_one]; exact hl) hnews
    rw [hsize] at hf
    simp [Builtin.append_, run_underlying ht, sizeOf, typeInfo, hi, hsize, Builtin.lenOf, hroom, hf, hadd, hst]

theorem take_bv (bs : Bytes) (n : Nat) : (bv bs).take n = bv (bs.take n) := by simp [bv, List.map_take]
theorem drop_bv (bs : Bytes) (n : Nat) : (bv bs).drop n = bv (bs.drop n) := by simp [bv, List.map_drop]

/-- bytes put in the place of others -/
def put (bs : Bytes) (o : Nat) (cs : Bytes) : Bytes := bs.take o ++ cs ++ bs.drop (o + cs.length)
theorem put_length (bs : Bytes) (o : Nat) (cs : Bytes) (h : o + cs.length ≤ bs.length) : (put bs o cs).length = bs.length := by
  simp only [put, List.length_append, List.length_take, List.length_drop]
  omega
theorem put_put (bs : Bytes) (o : Nat) (cs ds : Bytes) (h : o + cs.length + ds.length ≤ bs.length) : put (put bs o cs) (o + cs.length) ds = put bs o (cs ++ ds) := by
  unfold put
  have e1 : (bs.take o ++ cs ++ bs.drop (o + cs.length)).take (o + cs.length) = bs.take o ++ cs := by
    have : (bs.take o ++ cs).length = o + cs.length := by simp only [List.length_append, List.length_take]; omega
    rw [← this]
    exact List.take_left
  have e2 : (bs.take o ++ cs ++ bs.drop (o + cs.length)).drop (o + cs.length + ds.length) = bs.drop (o + cs.length + ds.length) := by
    have hl : (bs.take o ++ cs).length = o + cs.length := by simp only [List.length_append, List.length_take]; omega
    rw [List.drop_append, hl, List.drop_of_length_le (by rw [hl]; omega), List.drop_drop]
    simp only [List.nil_append]
    congr 1
    omega
  rw [e1, e2]
  simp only [List.append_assoc, List.length_append, Nat.add_assoc]
theorem put_mid (a b c d : Bytes) (h : b.length = d.length) : put (a ++ b ++ c) a.length d = a ++ d ++ c := by
  unfold put
  have e1 : (a ++ b ++ c).take a.length = a := by rw [List.append_assoc]; exact List.take_left
  have e2 : (a ++ b ++ c).drop (a.length + d.length) = c := by
    have : a.length + d.length = (a ++ b).length := by rw [List.length_append, h]
    rw [this]
    exact List.drop_left
  rw [e1, e2]

theorem append_put {w : World} {ops : Array Oper} {rest : List Oper} {op : Oper} {a : Act} {Q : Exit → Act → World → Prop} (hgd : op.guard = none) (s x : Operand)
    (ho : op.op = .call { callee := .builtin .append, args := #[s, x], argTypes := #[35, 35] })
    (mv : Value) (bs : Bytes) (g L cap : Nat) (hmv : mv = .slice (some ⟨g, 0, none⟩) L cap) (hown : Own w mv bs) (o n c : Nat) (hs : a.eval s = .slice (some ⟨g, o, none⟩) n c)
    (y : Value) (cs : Bytes) (hx : a.eval x = y) (hr : BytesAt w y cs) (hc : n + cs.length ≤ c) (hin : o + n + cs.length ≤ bs.length)
    (h : ∀ w', Own w' mv (put bs (o + n) cs) → w.grownBy w' (some g) → wpList Tryd.prog ops Q rest (a.put op.dst (.slice (some ⟨g, o, none⟩) (n + cs.length) c)) w') : wpList Tryd.prog ops Q (op :: rest) a w :=
  wpList_plain hgd fun _ hK => by
    obtain ⟨i0, hi, hz0, hz1, hz2⟩ := info_parts infoU8
    subst hmv
    rcases hown.2 with ⟨hq, _⟩ | ⟨g', cap', cur, hv, _, hg, hnc, hcm, hcs, ht⟩
    · cases hq
    simp only [Value.slice.injEq, Option.some.injEq, Addr.mk.injEq] at hv
    obtain ⟨⟨rfl, _, _⟩, rfl, rfl⟩ := hv
    simp only [Nat.mul_one] at hcs ht
    have hrun := run_append_mid (P := Tryd.prog) w 35 op.type 5 i0 Tryd.underlying35 hi hz1 g o n c cur hg y cs.length (bv cs) hr (bv_one _) hc (by omega)
    unfold Oper.wp execOp
    simp only [ho, resolve, invoke, builtin, Sem.run_bind, Sem.run_pure, Result.andThen_ok, List.map_toArray, List.map_cons, List.map_nil, hs, hx, hrun]
    refine hK _ _ (h _ ?_ ⟨rfl, rfl, rfl, by simp, fun k _ hk => setRow_other w g k _ (fun e => hk (by rw [e]))⟩)
    have hpl := put_length bs (o + n) cs hin
    have hsz := splice_sizes cur (o + n) (bv cs) (by rw [bv_length]; omega)
    refine ⟨by simp [bv, hpl], .inr ⟨g, cap, _, by rw [hpl], Nat.zero_le _, setRow_heap w g cur _ 5 _ hg, by omega, hcm, by rw [hsz]; omega, ?_⟩⟩
    rw [hpl, Nat.mul_one, bv_length]
    have e : cur.toList = bv bs ++ cur.toList.drop bs.length := by rw [← ht, List.take_append_drop]
    have e1 : cur.toList.take (o + n) = bv (bs.take (o + n)) := by rw [e, List.take_append_of_le_length (by rw [bv_length]; omega), take_bv]
    have e2 : cur.toList.drop (o + n + cs.length) = bv (bs.drop (o + n + cs.length)) ++ cur.toList.drop bs.length := by
      rw [e, List.drop_append_of_le_length (by rw [bv_length]; omega), drop_bv]
      congr 1
      rw [← e]
    rw [List.toList_toArray, e1, e2, ← List.append_assoc, ← bv_append, ← bv_append, ← hpl]
    have : (put bs (o + n) cs).length = (bv (put bs (o + n) cs)).length := by rw [bv_length]
    rw [this]
    exact List.take_left
/-- a number is written in place -/
theorem dns_packUint16_at (w : World) (mv : Value) (bs : Bytes) (g L cap : Nat) (hmv : mv = .slice (some ⟨g, 0, none⟩) L cap) (hown : Own w mv bs) (o n c : Nat) (k : Int) (h0 : 0 ≤ k) (h1 : k < 65536) (hc : n + 2 ≤ c) (hin : o + n + 2 ≤ bs.length) :
    Calls Tryd.prog 75 #[.slice (some ⟨g, o, none⟩) n c, .int .u16 k] w fun e w' => e = .returned (.slice (some ⟨g, o, none⟩) (n + 2) c) ∧ Own w' mv (put bs (o + n) (two k)) ∧ w.grownBy w' (some g) := by
  have hown1 := fun o => hown.alloc o
  have hlt : g < w.heap.size := by subst hmv; exact (hown.lt g rfl).2
  clear hown
  have HM := Lib.hid hmv
  clear hmv
  go_enter Tryd.func75, Tryd.ntmps75
  go_wp2_with (at_builtin; refine append_put rfl _ _ rfl mv bs g L cap HM.out (hown1 _) o n c rfl _ (two k) rfl (bytes_new _ _ _ _ _ (two_cells k h0 h1) rfl) hc hin ?_; intro w' ho hg)
  go_ret
  exact ⟨rfl, ho, grownBy_trans (World.grownBy_alloc w _ _) hg (.inl rfl)⟩

def hdr (id bits q an ns ar : Int) : Bytes := two id ++ two bits ++ two q ++ two an ++ two ns ++ two ar
theorem two_length (k : Int) : (two k).length = 2 := rfl
theorem hdr_length (id bits q an ns ar : Int) : (hdr id bits q an ns ar).length = 12 := rfl
/-- the cells of a Builder -/
def bcells (mv : Value) (sec id bits q an ns ar : Int) (st : Nat) (cv : Value) : Array Value :=
  #[mv, .int .u8 sec, .int .u16 id, .int .u16 bits, .int .u16 q, .int .u16 an, .int .u16 ns, .int .u16 ar, .int .i64 (st : Int), cv]
theorem cell_after {w w' : World} {g b : Nat} {cs : Array Value} {t : TypeId} {fr : Nat × Nat} (hB : w.heap[b]? = some (.cells cs t fr)) (hg : w.grownBy w' (some g)) (hb : b ≠ g) : w'.heap[b]? = some (.cells cs t fr) :=
  (hg.block b (Array.getElem?_eq_some_iff.1 hB).1 (by simpa using hb)).trans hB

theorem dns_header_pack (w : World) (mv : Value) (bs : Bytes) (g L cap : Nat) (hmv : mv = .slice (some ⟨g, 0, none⟩) L cap) (hown : Own w mv bs) (b : Nat) (mv0 cv : Value) (sec id bits q an ns ar : Int) (st : Nat)
    (hB : w.heap[b]? = some (.cells #[mv0, .int .u8 sec, .int .u16 id, .int .u16 bits, .int .u16 q, .int .u16 an, .int .u16 ns, .int .u16 ar, .int .i64 (st : Int), cv] 98 (0, 0))) (hb : b ≠ g)
    (i1 : 0 ≤ id ∧ id < 65536) (i2 : 0 ≤ bits ∧ bits < 65536) (i3 : 0 ≤ q ∧ q < 65536) (i4 : 0 ≤ an ∧ an < 65536) (i5 : 0 ≤ ns ∧ ns < 65536) (i6 : 0 ≤ ar ∧ ar < 65536)
    (o c : Nat) (hc : 12 ≤ c) (hin : o + 12 ≤ bs.length) :
    Calls Tryd.prog 68 #[.pointer (some ⟨b, 2, none⟩), .slice (some ⟨g, o, none⟩) 0 c] w fun e w' => e = .returned (.slice (some ⟨g, o, none⟩) 12 c) ∧ Own w' mv (put bs o (hdr id bits q an ns ar)) ∧ w.grownBy w' (some g) := by
  have HM := Lib.hid hmv
  have c0 := fun j => cell_of_row w b j _ _ _ hB
  have HB := Lib.hid hB
  have HO := Lib.hid hown
  have HI := Lib.hid hin
  clear hmv hB hown hin
  go_enter Tryd.func68, Tryd.ntmps68
  go_wp2_with fail
  refine (dns_packUint16_at w mv bs g L cap HM.out HO.out o 0 c id i1.1 i1.2 (by omega) (by have := HI.out; omega)).mono ?_
  rintro e w1 ⟨rfl, o1, g1⟩
  have O1 := Lib.hid (show Own w1 mv (put bs o (two id)) from o1)
  have G1 := Lib.hid g1
  have c1 := fun j => cell_of_row w1 b j _ _ _ (cell_after HB.out G1.out hb)
  clear o1 g1 c0
  go_wp2_with fail
  refine (dns_packUint16_at w1 mv (put bs o (two id)) g L cap HM.out O1.out o 2 c bits i2.1 i2.2 (by omega) (by have := HI.out; rw [put_length _ _ _ (by simp only [two_length]; omega)]; omega)).mono ?_
  rintro e w2 ⟨rfl, o2, g2⟩
  have O2 : Hid (Own w2 mv (put bs o (two id ++ two bits))) := by
    have h := put_put bs o (two id) (two bits) (by have := HI.out; simp only [two_length]; omega)
    simp only [two_length] at h
    rw [h] at o2
    exact o2
  have G2 := Lib.hid (grownBy_trans G1.out g2 (.inl rfl))
  have c2 := fun j => cell_of_row w2 b j _ _ _ (cell_after HB.out G2.out hb)
  clear o2 g2 c1
  go_wp2_with fail
  refine (dns_packUint16_at w2 mv (put bs o (two id ++ two bits)) g L cap HM.out O2.out o 4 c q i3.1 i3.2 (by omega) (by have := HI.out; rw [put_length _ _ _ (by simp only [List.length_append, two_length]; omega)]; omega)).mono ?_
  rintro e w3 ⟨rfl, o3, g3⟩
  have O3 : Hid (Own w3 mv (put bs o (two id ++ two bits ++ two q))) := by
    have h := put_put bs o (two id ++ two bits) (two q) (by have := HI.out; simp only [List.length_append, two_length]; omega)
    simp only [List.length_append, two_length] at h
    rw [h] at o3
    exact o3
  have G3 := Lib.hid (grownBy_trans G2.out g3 (.inl rfl))
  have c3 := fun j => cell_of_row w3 b j _ _ _ (cell_after HB.out G3.out hb)
  clear o3 g3 c2
  go_wp2_with fail
  refine (dns_packUint16_at w3 mv (put bs o (two id ++ two bits ++ two q)) g L cap HM.out O3.out o 6 c an i4.1 i4.2 (by omega) (by have := HI.out; rw [put_length _ _ _ (by simp only [List.length_append, two_length]; omega)]; omega)).mono ?_
  rintro e w4 ⟨rfl, o4, g4⟩
  have O4 : Hid (Own w4 mv (put bs o (two id ++ two bits ++ two q ++ two an))) := by
    have h := put_put bs o (two id ++ two bits ++ two q) (two an) (by have := HI.out; simp only [List.length_append, two_length]; omega)
    simp only [List.length_append, two_length] at h
    rw [h] at o4
    exact o4
  have G4 := Lib.hid (grownBy_trans G3.out g4 (.inl rfl))
  have c4 := fun j => cell_of_row w4 b j _ _ _ (cell_after HB.out G4.out hb)
  clear o4 g4 c3
  go_wp2_with fail
  refine (dns_packUint16_at w4 mv (put bs o (two id ++ two bits ++ two q ++ two an)) g L cap HM.out O4.out o 8 c ns i5.1 i5.2 (by omega) (by have := HI.out; rw [put_length _ _ _ (by simp only [List.length_append, two_length]; omega)]; omega)).mono ?_
  rintro e w5 ⟨rfl, o5, g5⟩
  have O5 : Hid (Own w5 mv (put bs o (two id ++ two bits ++ two q ++ two an ++ two ns))) := by
    have h := put_put bs o (two id ++ two bits ++ two q ++ two an) (two ns) (by have := HI.out; simp only [List.length_append, two_length]; omega)
    simp only [List.length_append, two_length] at h
    rw [h] at o5
    exact o5
  have G5 := Lib.hid (grownBy_trans G4.out g5 (.inl rfl))
  have c5 := fun j => cell_of_row w5 b j _ _ _ (cell_after HB.out G5.out hb)
  clear o5 g5 c4
  go_wp2_with fail
  refine (dns_packUint16_at w5 mv (put bs o (two id ++ two bits ++ two q ++ two an ++ two ns)) g L cap HM.out O5.out o 10 c ar i6.1 i6.2 (by omega) (by have := HI.out; rw [put_length _ _ _ (by simp only [List.length_append, two_length]; omega)]; omega)).mono ?_
  rintro e w6 ⟨rfl, o6, g6⟩
  have O6 : Hid (Own w6 mv (put bs o (two id ++ two bits ++ two q ++ two an ++ two ns ++ two ar))) := by
    have h := put_put bs o (two id ++ two bits ++ two q ++ two an ++ two ns) (two ar) (by have := HI.out; simp only [List.length_append, two_length]; omega)
    simp only [List.length_append, two_length] at h
    rw [h] at o6
    exact o6
  have G6 := Lib.hid (grownBy_trans G5.out g6 (.inl rfl))
  clear o6 g6 c5
  go_wp2_with fail
  go_ret
  exact ⟨rfl, O6.out, G6.out⟩
end Go.Proofs.YtkhghacfhlociaaDoor
