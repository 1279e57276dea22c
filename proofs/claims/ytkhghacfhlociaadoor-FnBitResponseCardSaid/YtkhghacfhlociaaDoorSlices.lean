/- Slices that the call itself grows, and slices that are read: plain laws on worlds, for whatever program. -/
import Derived.Test.YtkhghacfhlociaaDoorBase
import Derived.Maps.AppendAt
import Derived.Laws.AppendOwnNone
namespace Go.Proofs.YtkhghacfhlociaaDoor
open Go.RowKit

/-! bytes -/
abbrev Bytes := List UInt8
/-- bytes as the values of cells -/
def bv (bs : Bytes) : List Value := bs.map fun b => .int .u8 (b.toNat : Int)
theorem bv_length (bs : Bytes) : (bv bs).length = bs.length := by simp [bv]
theorem bv_append (a b : Bytes) : bv (a ++ b) = bv a ++ bv b := by simp [bv]
theorem bv_one (bs : Bytes) : ∀ u ∈ bv bs, u.oneCell' = true := by
  intro u hu
  simp only [bv, List.mem_map] at hu
  obtain ⟨b, _, rfl⟩ := hu
  rfl

/-- the values xs lie behind the slice value v, which has n elements of 'size' cells each -/
def ReadsAt (w : World) (size : Nat) (v : Value) (n : Nat) (xs : List Value) : Prop :=
  xs.length = n * size ∧ ∃ ao cap, v = .slice ao n cap ∧ (ao = none → n = 0 ∧ cap = 0) ∧ ∀ j x, xs[j]? = some x → ∃ a, ao = some a ∧ w.cell? (a.add j) = some x
/-- v reads as bytes -/
def BytesAt (w : World) (v : Value) (bs : Bytes) : Prop := ReadsAt w 1 v bs.length (bv bs)

theorem ReadsAt.nil (w : World) (size : Nat) : ReadsAt w size (.slice none 0 0) 0 [] := ⟨by simp, none, 0, rfl, fun _ => ⟨rfl, rfl⟩, by simp⟩
theorem ReadsAt.of_own {w : World} {base e size : Nat} {v : Value} {n : Nat} {xs : List Value} (h : w.ownsRow base e size v n xs) : ReadsAt w size v n xs := by
  refine ⟨h.1, ?_⟩
  rcases h.2 with ⟨rfl, rfl⟩ | ⟨g, cap, cur, rfl, _, hg, _, _, _, ht⟩
  · refine ⟨none, 0, rfl, fun _ => ⟨rfl, rfl⟩, ?_⟩
    have : xs = [] := List.eq_nil_of_length_eq_zero (by simpa using h.1)
    subst this
    simp
  · exact ⟨some ⟨g, 0, none⟩, cap, rfl, by simp, fun j x hx => ⟨_, rfl, h.cells (g := g) rfl j x hx⟩⟩
theorem ReadsAt.kept {w w' : World} {size : Nat} {v : Value} {n : Nat} {xs : List Value} (h : ReadsAt w size v n xs) (hc : ∀ a x, w.cell? a = some x → (xs ≠ [] → v.ownBlock = some a.block) → w'.cell? a = some x) : ReadsAt w' size v n xs := by
  obtain ⟨hl, ao, cap, rfl, hn, hx⟩ := h
  refine ⟨hl, ao, cap, rfl, hn, fun j x hj => ?_⟩
  obtain ⟨a, rfl, ha⟩ := hx j x hj
  refine ⟨a, rfl, hc _ x ha fun _ => ?_⟩
  simp only [Value.ownBlock]
  unfold Addr.add
  split <;> rfl
theorem ReadsAt.below {w w' : World} {B size : Nat} {v : Value} {n : Nat} {xs : List Value} (h : ReadsAt w size v n xs) (hb : Below B w w') (hB : ∀ a x, w.cell? a = some x → a.block < B) : ReadsAt w' size v n xs :=
  h.kept fun a x ha _ => by rw [hb.cell (hB a x ha)]; exact ha
theorem ReadsAt.grow {w w' : World} {size : Nat} {v : Value} {n : Nat} {xs : List Value} (h : ReadsAt w size v n xs) (hb : Below w.heap.size w w') : ReadsAt w' size v n xs :=
  h.below hb fun a _ ha => World.block_lt_of_cell? w a ha
theorem ReadsAt.grownBy {w w' : World} {row : Option Nat} {size : Nat} {v : Value} {n : Nat} {xs : List Value} (h : ReadsAt w size v n xs) (hg : w.grownBy w' row) (hne : v.ownBlock = none ∨ v.ownBlock ≠ row) : ReadsAt w' size v n xs := by
  obtain ⟨hl, ao, cap, rfl, hn, hx⟩ := h
  refine ⟨hl, ao, cap, rfl, hn, fun j x hj => ?_⟩
  obtain ⟨a, rfl, ha⟩ := hx j x hj
  refine ⟨a, rfl, hg.cell ha ?_⟩
  have : (a.add j).block = a.block := by unfold Addr.add; split <;> rfl
  rw [this]
  simpa [Value.ownBlock] using hne
theorem ReadsAt.drewN {w : World} {size : Nat} {v : Value} {n : Nat} {xs : List Value} (h : ReadsAt w size v n xs) (k : Nat) : ReadsAt (w.drewN k) size v n xs :=
  h.kept fun a x ha _ => by simpa using ha

/-! the world, grown: two steps are one -/
theorem grownBy_refl (w : World) (row : Option Nat) : w.grownBy w row := ⟨rfl, rfl, rfl, Nat.le_refl _, fun _ _ _ => rfl⟩
theorem grownBy_drewN (w : World) (k : Nat) (row : Option Nat) : w.grownBy (w.drewN k) row := by
  induction k with
  | zero => exact grownBy_refl w row
  | succ k ih => exact ⟨ih.os, ih.tape, ih.output, ih.size, ih.block⟩
theorem grownBy_trans {w w1 w2 : World} {r r1 : Option Nat} (h : w.grownBy w1 r) (h1 : w1.grownBy w2 r1) (hr : r1 = r ∨ ∀ k, r1 = some k → w.heap.size ≤ k) : w.grownBy w2 r :=
  ⟨h1.os.trans h.os, h1.tape.trans h.tape, h1.output.trans h.output, Nat.le_trans h.size h1.size, fun k hk hne =>
    (h1.block k (Nat.lt_of_lt_of_le hk h.size) (fun e => by
      rcases hr with rfl | hr
      · exact hne e
      · have := hr k e.symm; omega)).trans (h.block k hk hne)⟩
theorem grownBy_of_below {w w' : World} (h : Below w.heap.size w w') (row : Option Nat) : w.grownBy w' row := ⟨h.os, h.tape, h.output, h.size, fun k hk _ => h.block k hk⟩
theorem below_of_grownBy {w w' : World} {row : Option Nat} {B : Nat} (h : w.grownBy w' row) (hB : B ≤ w.heap.size) (hr : ∀ k, row = some k → B ≤ k) : Below B w w' :=
  (Below.refl B w).grown h hB hr

theorem grownBy_setCell {w w' : World} {row : Option Nat} (h : w.grownBy w' row) (a : Addr) (u : Value) (ha : some a.block = row ∨ w.heap.size ≤ a.block) : w.grownBy (w'.setCell a u) row :=
  ⟨h.os, h.tape, h.output, by have := h.size; simpa [World.setCell] using this, fun k hk hne => (hp_setCell w' a u k (fun e => by
    rcases ha with ha | ha
    · exact hne (by rw [e]; exact ha)
    · omega)).trans (h.block k hk hne)⟩
theorem grownBy_alloc {w w' : World} {row : Option Nat} (h : w.grownBy w' row) (o : Obj) : w.grownBy (w'.alloc o) row :=
  ⟨h.os, h.tape, h.output, by have := h.size; simp; omega, fun k hk hne => (hp_ne w' o k (by have := h.size; omega)).trans (h.block k hk hne)⟩
theorem grownBy_same {w w1 w2 : World} {row : Option Nat} (h : w.grownBy w1 row) (hs : SameHeap w1 w2) : w.grownBy w2 row :=
  grownBy_trans h (grownBy_of_below (hs.below _) none) (.inr (by simp))
theorem grownBy_drew {w w' : World} {row : Option Nat} (h : w.grownBy w' row) : w.grownBy w'.drew row := ⟨h.os, h.tape, h.output, h.size, h.block⟩

/-! a slice that grows -/
/-- from v, which reads as xs in w, the call has come to v', which reads as xs' in w'; v still reads as xs; no other old block has changed -/
structure Grew (w : World) (e size : Nat) (v : Value) (n : Nat) (xs : List Value) (w' : World) (v' : Value) (n' : Nat) (xs' : List Value) : Prop where
  was : w.ownsRow 0 e size v n xs
  own : w'.ownsRow 0 e size v' n' xs'
  old : w'.ownsRow 0 e size v n xs
  by_ : w.grownBy w' v.ownBlock
  at_ : v'.ownBlock = v.ownBlock ∨ ∃ k, w.heap.size ≤ k ∧ v'.ownBlock = some k
theorem Grew.refl {w : World} {e size : Nat} {v : Value} {n : Nat} {xs : List Value} (h : w.ownsRow 0 e size v n xs) : Grew w e size v n xs w v n xs :=
  ⟨h, h, h, grownBy_refl _ _, .inl rfl⟩
theorem ownsRow_shorter {w : World} {e size : Nat} (hs : 0 < size) {g n cap n1 cap1 : Nat} {xs xs1 : List Value} (h : w.ownsRow 0 e size (.slice (some ⟨g, 0, none⟩) n1 cap1) n1 xs1) (hc : cap = cap1) (hp : xs <+: xs1) (hl : xs.length = n * size) :
    w.ownsRow 0 e size (.slice (some ⟨g, 0, none⟩) n cap) n xs := by
  subst hc
  refine ⟨hl, ?_⟩
  rcases h.2 with ⟨h0, _⟩ | ⟨g', cap', cur, hv, _, hg, hn, hm, hsz, ht⟩
  · cases h0
  · simp only [Value.slice.injEq, Option.some.injEq, Addr.mk.injEq] at hv
    obtain ⟨⟨rfl, _, _⟩, _, rfl⟩ := hv
    have hle : n ≤ n1 := by
      have h1 := hp.length_le
      rw [hl, h.1] at h1
      exact Nat.le_of_mul_le_mul_right h1 hs
    refine .inr ⟨g, cap, cur, rfl, Nat.zero_le _, hg, by omega, hm, hsz, ?_⟩
    obtain ⟨t, rfl⟩ := hp
    have : cur.toList.take (n * size) = (cur.toList.take (n1 * size)).take (n * size) := by
      rw [List.take_take, Nat.min_eq_left (Nat.mul_le_mul_right _ hle)]
    rw [this, ht, ← hl]
    simp
theorem ownsRow_cap {w : World} {e size : Nat} {g n cap : Nat} {xs : List Value} (h : w.ownsRow 0 e size (.slice (some ⟨g, 0, none⟩) n cap) n xs) : ∃ cur, w.heap[g]? = some (.cells cur e (0, 0)) ∧ cur.size = cap * size := by
  rcases h.2 with ⟨h0, _⟩ | ⟨g', cap', cur, hv, _, hg, hn, hm, hsz, ht⟩
  · cases h0
  · simp only [Value.slice.injEq, Option.some.injEq, Addr.mk.injEq] at hv
    obtain ⟨⟨rfl, _, _⟩, _, rfl⟩ := hv
    exact ⟨cur, hg, hsz⟩
theorem Grew.trans {w : World} {e size : Nat} {v : Value} {n : Nat} {xs : List Value} {w1 : World} {v1 : Value} {n1 : Nat} {xs1 : List Value} {w2 : World} {v2 : Value} {n2 : Nat} {xs2 : List Value} (hs : 0 < size)
    (h : Grew w e size v n xs w1 v1 n1 xs1) (h1 : Grew w1 e size v1 n1 xs1 w2 v2 n2 xs2) (hp : xs <+: xs1) : Grew w e size v n xs w2 v2 n2 xs2 := by
  refine ⟨h.was, h1.own, ?_, grownBy_trans h.by_ h1.by_ ?_, ?_⟩
  · rcases h.old.2 with ⟨rfl, rfl⟩ | ⟨g, cap, cur, rfl, _, hg, _⟩
    · exact ⟨h.old.1, .inl ⟨rfl, rfl⟩⟩
    · rcases h.at_ with ha | ⟨k, hk, ha⟩
      · rcases h1.old.2 with ⟨rfl, _⟩ | ⟨g1, cap1, cur1, rfl, _, _⟩
        · simp [Value.ownBlock] at ha
        · simp only [Value.ownBlock, Option.some.injEq] at ha
          subst ha
          obtain ⟨c1, hc1, hs1⟩ := ownsRow_cap h.own
          obtain ⟨c2, hc2, hs2⟩ := ownsRow_cap h.old
          rw [hc1] at hc2
          simp only [Option.some.injEq, Obj.cells.injEq] at hc2
          obtain ⟨rfl, _⟩ := hc2
          have : cap = cap1 := by
            rw [hs1] at hs2
            exact (Nat.eq_of_mul_eq_mul_right hs hs2).symm
          exact ownsRow_shorter hs h1.old this hp h.old.1
      · refine h.old.kept h1.by_ (.inr ?_)
        rw [ha]
        simp only [Value.ownBlock]
        intro e
        have hlt := (h.was.lt g rfl).2
        simp only [Option.some.injEq] at e
        omega
  · rcases h.at_ with ha | ⟨k, hk, ha⟩
    · exact .inl ha
    · exact .inr fun j hj => by rw [ha] at hj; cases hj; exact hk
  · rcases h1.at_ with hb | ⟨k, hk, hb⟩
    · rw [hb]; exact h.at_
    · exact .inr ⟨k, Nat.le_trans h.by_.size hk, hb⟩

/-! append -/
theorem splice_sizes (cur : Array Value) (k : Nat) (news : List Value) (h : k + news.length ≤ cur.size) : (cur.toList.take k ++ news ++ cur.toList.drop (k + news.length)).toArray.size = cur.size := by
  simp only [List.size_toArray, List.length_append, List.length_take, List.length_drop, Array.length_toList]
  omega
/-- append to a slice that the call owns, from a slice that is read: the run -/
theorem run_append_grew {P : Program} (w : World) (t ty e : TypeId) (i : TypeInfo) (z : Value) (size bytes : Nat) (ht : P.underlying t = some (.slice e)) (hi : P.info? e = some i) (hz : i.zero = some z)
    (hsize : i.size = size) (hby : i.bytes = bytes) (hzs : z.cells.size = size) (hsz : 0 < size)
    (v : Value) (n : Nat) (xs : List Value) (hown : w.ownsRow 0 e size v n xs) (y : Value) (m : Nat) (news : List Value) (hr : ReadsAt w size y m news) (h1 : ∀ u ∈ news, u.oneCell' = true)
    (h63 : n + m ≤ maxLen) (hbytes : (n + m) * bytes ≤ 140737488355328) :
    ∃ v' w', (Builtin.append_ #[t, t] ty #[v, y]).run P w = .ok v' w' ∧ Grew w e size v n xs w' v' (n + m) (xs ++ news) := by
  obtain ⟨hl, ao, c, rfl, hnil, hx⟩ := hr
  cases ao with
  | none =>
    obtain ⟨rfl, rfl⟩ := hnil rfl
    obtain rfl : news = [] := List.eq_nil_of_length_eq_zero (by simpa using hl)
    refine ⟨v, w, run_append_owned_none (P := P) (w := w) 0 t ty e i size ht hi v n xs hown, ?_⟩
    simp only [Nat.add_zero, List.append_nil]
    exact Grew.refl hown
  | some a =>
    have hnews : ∀ j u, news[j]? = some u → w.cell? (a.add j) = some u := fun j u hu => by
      obtain ⟨a', ha', hc⟩ := hx j u hu
      cases ha'
      exact hc
    rcases hown.2 with ⟨rfl, rfl⟩ | ⟨g, cap, cur, rfl, _, hg, hnc, hcm, hcs, htake⟩
    · obtain ⟨v', w', hr, h2, h3, _, h5⟩ := run_append_own_at (P := P) w 0 t ty e i z size bytes ht hi hz hsize hby hzs hsz _ _ xs hown a m c news hl hnews h1 h63 hbytes (Nat.zero_le _)
      refine ⟨v', w', hr, hown, h2, ⟨hown.1, .inl ⟨rfl, rfl⟩⟩, h3, ?_⟩
      rcases h5 with h5 | h5
      · exact .inl h5
      · exact .inr ⟨_, Nat.le_refl _, h5⟩
    · by_cases hroom : n + m ≤ cap
      · subst hsize
        have hfit : n * i.size + news.length ≤ cur.size := by rw [hl, hcs, ← Nat.add_mul]; exact Nat.mul_le_mul_right _ hroom
        have hr := run_append_room (P := P) w t ty e i ht hi g n cap cur hg a m c news hl hnews h1 hroom hfit
        have hsz2 := splice_sizes cur (n * i.size) news hfit
        have hlen : (xs ++ news).length = (n + m) * i.size := by rw [List.length_append, hown.1, hl, Nat.add_mul]
        have hhp := setRow_heap w g cur (cur.toList.take (n * i.size) ++ news ++ cur.toList.drop (n * i.size + news.length)).toArray e _ hg
        refine ⟨_, _, hr, hown, ⟨hlen, .inr ⟨g, cap, _, rfl, Nat.zero_le _, hhp, hroom, hcm, by rw [hsz2, hcs], ?_⟩⟩,
          ⟨hown.1, .inr ⟨g, cap, _, rfl, Nat.zero_le _, hhp, hnc, hcm, by rw [hsz2, hcs], ?_⟩⟩,
          ⟨rfl, rfl, rfl, by simp, fun k _ hk => setRow_other w g k _ (fun e => hk (by simp [Value.ownBlock, e]))⟩, .inl rfl⟩
        · rw [htake, ← hlen]
          exact List.take_left
        · rw [htake, List.append_assoc, ← hown.1]
          exact List.take_left
      · have hrest := run_append_own_at (P := P) w 0 t ty e i z size bytes ht hi hz hsize hby hzs hsz _ _ xs hown a m c news hl hnews h1 h63 hbytes (Nat.zero_le _)
        obtain ⟨v', w', hr, h2, h3, _, h5⟩ := hrest
        subst hsize
        subst hby
        have hgr := run_append_grow (P := P) w t ty e i z ht hi hz ⟨g, 0, none⟩ n cap xs hown.1 (hown.cells (g := g) rfl) a m c news hl hnews (by omega) (by simp only [maxLen] at h63; omega) (growslice_fits (by omega) hbytes)
        rw [hgr] at hr
        simp only [Result.ok.injEq] at hr
        obtain ⟨rfl, rfl⟩ := hr
        refine ⟨_, _, hgr, hown, h2, ?_, h3, .inr ⟨w.heap.size, Nat.le_refl _, rfl⟩⟩
        exact World.ownsRow.alloc (w := w.drew) hown _
/-- the same at the operation -/
theorem wpList_append_grew {P : Program} {w : World} {ops : Array Oper} {rest : List Oper} {o : Oper} {a : Act} {Q : Exit → Act → World → Prop} (hgd : o.guard = none) (s x : Operand) (t : TypeId)
    (ho : o.op = .call { callee := .builtin .append, args := #[s, x], argTypes := #[t, t] })
    (e : TypeId) (i : TypeInfo) (z : Value) (size bytes : Nat) (ht : P.underlying t = some (.slice e)) (hi : P.info? e = some i) (hz : i.zero = some z)
    (hsize : i.size = size) (hby : i.bytes = bytes) (hzs : z.cells.size = size) (hsz : 0 < size)
    (v : Value) (n : Nat) (xs : List Value) (hs : a.eval s = v) (hown : w.ownsRow 0 e size v n xs) (y : Value) (m : Nat) (news : List Value) (hx : a.eval x = y) (hr : ReadsAt w size y m news) (h1 : ∀ u ∈ news, u.oneCell' = true)
    (h63 : n + m ≤ maxLen) (hbytes : (n + m) * bytes ≤ 140737488355328)
    (h : ∀ v' w', Grew w e size v n xs w' v' (n + m) (xs ++ news) → wpList P ops Q rest (a.put o.dst v') w') : wpList P ops Q (o :: rest) a w :=
  wpList_plain hgd fun _ hK => by
    obtain ⟨v', w', hr, h2⟩ := run_append_grew (P := P) w t o.type e i z size bytes ht hi hz hsize hby hzs hsz v n xs hown y m news hr h1 h63 hbytes
    unfold Oper.wp execOp
    simp only [ho, resolve, invoke, builtin, Sem.run_bind, Sem.run_pure, Result.andThen_ok, List.map_toArray, List.map_cons, List.map_nil, hs, hx, hr]
    exact hK _ _ (h v' w' h2)
end Go.Proofs.YtkhghacfhlociaaDoor
