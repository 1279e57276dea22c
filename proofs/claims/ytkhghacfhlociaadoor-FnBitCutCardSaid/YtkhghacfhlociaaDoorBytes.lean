/- Slices of bytes over this seat's program: the append law at bytes, and the contracts of packUint16 and its kin. -/
import Derived.Test.YtkhghacfhlociaaDoorSlices
namespace Go.Proofs.YtkhghacfhlociaaDoor
open Go.RowKit
set_option maxHeartbeats 400000

theorem infoU8 : (Tryd.prog.info? 5).map (fun i => (i.zero, i.size, i.bytes)) = some (some (.int .u8 0), 1, 1) := by kernel_rfl

/-- v is a slice of bytes of the call's own -/
def Own (w : World) (v : Value) (bs : Bytes) : Prop := w.ownsRow 0 5 1 v bs.length (bv bs)
def GrewB (w : World) (v : Value) (bs : Bytes) (w' : World) (v' : Value) (bs' : Bytes) : Prop := Grew w 5 1 v bs.length (bv bs) w' v' bs'.length (bv bs')
theorem Own.reads {w : World} {v : Value} {bs : Bytes} (h : Own w v bs) : BytesAt w v bs := ReadsAt.of_own h
theorem GrewB.own {w : World} {v : Value} {bs : Bytes} {w' : World} {v' : Value} {bs' : Bytes} (h : GrewB w v bs w' v' bs') : Own w' v' bs' := Grew.own h
theorem GrewB.old {w : World} {v : Value} {bs : Bytes} {w' : World} {v' : Value} {bs' : Bytes} (h : GrewB w v bs w' v' bs') : Own w' v bs := Grew.old h
theorem GrewB.refl {w : World} {v : Value} {bs : Bytes} (h : Own w v bs) : GrewB w v bs w v bs := Grew.refl h
theorem bv_prefix {a b : Bytes} (h : a <+: b) : bv a <+: bv b := by
  obtain ⟨t, rfl⟩ := h
  exact ⟨bv t, by rw [bv_append]⟩
theorem GrewB.trans {w : World} {v : Value} {bs : Bytes} {w1 : World} {v1 : Value} {bs1 : Bytes} {w2 : World} {v2 : Value} {bs2 : Bytes} (h : GrewB w v bs w1 v1 bs1) (h1 : GrewB w1 v1 bs1 w2 v2 bs2) (hp : bs <+: bs1) : GrewB w v bs w2 v2 bs2 :=
  Grew.trans (by decide) h h1 (bv_prefix hp)

/-- append of bytes to bytes of the call's own -/
theorem append_bytes {w : World} {ops : Array Oper} {rest : List Oper} {o : Oper} {a : Act} {Q : Exit → Act → World → Prop} (hgd : o.guard = none) (s x : Operand)
    (ho : o.op = .call { callee := .builtin .append, args := #[s, x], argTypes := #[35, 35] })
    (v : Value) (bs : Bytes) (hs : a.eval s = v) (hown : Own w v bs) (y : Value) (cs : Bytes) (hx : a.eval x = y) (hr : BytesAt w y cs)
    (hlen : bs.length + cs.length ≤ 140737488355328)
    (h : ∀ v' w', GrewB w v bs w' v' (bs ++ cs) → wpList Tryd.prog ops Q rest (a.put o.dst v') w') : wpList Tryd.prog ops Q (o :: rest) a w := by
  obtain ⟨i0, hi, hz0, hz1, hz2⟩ := info_parts infoU8
  refine wpList_append_grew hgd s x 35 ho 5 i0 (.int .u8 0) 1 1 Tryd.underlying35 hi hz0 hz1 hz2 rfl (by decide) v bs.length (bv bs) hs hown y cs.length (bv cs) hx hr (bv_one cs) (by unfold maxLen; omega) (by omega) ?_
  intro v' w' hg
  refine h v' w' ?_
  unfold GrewB
  rw [List.length_append, bv_append]
  exact hg

/-- bytes that lie in a new block -/
theorem bytes_new (w : World) (e : TypeId) (bs : Bytes) (cs : Array Value) (n : Nat) (h : cs.toList = bv bs) (hn : n = bs.length) : BytesAt (w.alloc (.cells cs e)) (.slice (some ⟨w.heap.size, 0, none⟩) n n) bs := by
  subst hn
  refine ⟨by simp [bv], some ⟨w.heap.size, 0, none⟩, bs.length, rfl, by simp, fun j x hj => ⟨_, rfl, ?_⟩⟩
  have hadd : (⟨w.heap.size, 0, none⟩ : Addr).add j = ⟨w.heap.size, j, none⟩ := by unfold Addr.add; split <;> simp_all
  rw [hadd, cell_of_row _ w.heap.size j cs e (0, 0) (heap_alloc_new w _)]
  rw [← h] at hj
  simpa using hj

/-- bytes of the call's own, out of a block that is known -/
theorem own_of_block {w : World} {g n cap : Nat} {cur : Array Value} {bs : Bytes} (hg : w.heap[g]? = some (.cells cur 5 (0, 0))) (hn : n = bs.length) (hc : n ≤ cap) (hm : cap ≤ maxLen) (hs : cur.size = cap) (ht : cur.toList.take n = bv bs) :
    Own w (.slice (some ⟨g, 0, none⟩) n cap) bs := by
  subst hn
  exact ⟨by simp [bv], .inr ⟨g, cap, cur, rfl, Nat.zero_le _, hg, hc, hm, by simpa using hs, by simpa using ht⟩⟩
/-- bytes that are read, out of a block that is known -/
theorem bytes_of_block {w : World} {g o n cap : Nat} {cur : Array Value} {t : TypeId} {fr : Nat × Nat} {bs : Bytes} (hg : w.heap[g]? = some (.cells cur t fr)) (hn : n = bs.length) (ht : (cur.toList.drop o).take n = bv bs) :
    BytesAt w (.slice (some ⟨g, o, none⟩) n cap) bs := by
  subst hn
  refine ⟨by simp [bv], some ⟨g, o, none⟩, cap, rfl, by simp, fun j x hj => ⟨_, rfl, ?_⟩⟩
  have hadd : (⟨g, o, none⟩ : Addr).add j = ⟨g, o + j, none⟩ := by unfold Addr.add; split <;> simp_all
  rw [hadd, cell_of_row _ g (o + j) cur t fr hg]
  rw [← ht, List.getElem?_take] at hj
  split at hj
  · rw [List.getElem?_drop] at hj
    simpa using hj
  · cases hj
theorem Own.setCell {w : World} {v : Value} {bs : Bytes} (h : Own w v bs) (a : Addr) (u : Value) (hne : v.ownBlock ≠ some a.block) : Own (w.setCell a u) v bs := by
  refine World.ownsRow.kept h (row := some a.block) ⟨rfl, rfl, rfl, by simp [World.setCell], fun k _ hk => hp_setCell w a u k (fun e => hk (by rw [e]))⟩ (.inr hne)
theorem Own.ne {w : World} {v : Value} {bs : Bytes} (h : Own w v bs) {g : Nat} {cs : Array Value} {t : TypeId} {fr : Nat × Nat} (hg : w.heap[g]? = some (.cells cs t fr)) (ht : t ≠ 5) : v.ownBlock ≠ some g := by
  rcases h.2 with ⟨rfl, _⟩ | ⟨g', cap, cur, rfl, _, hg', _⟩
  · simp [Value.ownBlock]
  · simp only [Value.ownBlock]
    intro e
    cases e
    rw [hg] at hg'
    cases hg'
    exact ht rfl

theorem Own.form {w : World} {v : Value} {bs : Bytes} (h : Own w v bs) (n : Nat) (hn : bs.length = n) (hp : 0 < n) : ∃ g cap, v = .slice (some ⟨g, 0, none⟩) n cap ∧ n ≤ cap ∧ g < w.heap.size := by
  subst hn
  rcases h.2 with ⟨_, h0⟩ | ⟨g, cap, cur, hv, _, hg, hc, _⟩
  · omega
  · exact ⟨g, cap, hv, hc, (Array.getElem?_eq_some_iff.1 hg).1⟩

/-- a number of two bytes, the high one first -/
def two (n : Int) : Bytes := [UInt8.ofNat (n / 256).toNat, UInt8.ofNat (n % 256).toNat]
theorem u8_of (n : Int) (h0 : 0 ≤ n) (h1 : n < 256) : ((UInt8.ofNat n.toNat).toNat : Int) = n := by
  rw [UInt8.toNat_ofNat']
  omega
theorem two_cells (n : Int) (h0 : 0 ≤ n) (h1 : n < 65536) : [Value.int .u8 (n / 256), Value.int .u8 (n % 256)] = bv (two n) := by
  simp only [bv, two, List.map_cons, List.map_nil]
  rw [u8_of _ (by omega) (by omega), u8_of _ (by omega) (by omega)]

/-- the call returns v', grown by cs from v -/
def Packs (w : World) (v : Value) (bs cs : Bytes) (e : Ending) (w' : World) : Prop := ∃ v', e = .returned v' ∧ GrewB w v bs w' v' (bs ++ cs)

theorem grewB_alloc {w : World} {v : Value} {bs : Bytes} (h : Own w v bs) (o : Obj) : GrewB w v bs (w.alloc o) v bs :=
  ⟨h, h.alloc o, h.alloc o, World.grownBy_alloc w o _, .inl rfl⟩

theorem dns_packUint16 (w : World) (v : Value) (bs : Bytes) (k : Int) (h0 : 0 ≤ k) (h1 : k < 65536) (hown : Own w v bs) (hlen : bs.length + 2 ≤ 140737488355328) :
    Calls Tryd.prog 75 #[v, .int .u16 k] w (Packs w v bs (two k)) := by
  have hown1 := fun o => hown.alloc o
  have H := Lib.hid hown
  clear hown
  go_enter Tryd.func75, Tryd.ntmps75
  go_wp2_with (at_builtin; refine append_bytes rfl _ _ rfl _ bs rfl (hown1 _) _ (two k) rfl (bytes_new _ _ _ _ _ (two_cells k h0 h1) rfl) (by simpa [two] using hlen) ?_; intro v' w' hg)
  go_ret
  exact ⟨_, rfl, (grewB_alloc H.out _).trans hg (List.prefix_refl _)⟩
end Go.Proofs.YtkhghacfhlociaaDoor
