/- Plain lemmas on numbers, lists and worlds that the walks of this seat use. No program is in sight. -/
import Derived.Test.YtgkhfpkfjajdjaaDoorRows
import Derived.Test.YtgkhfpkfjajdjaaDoorG1
import Derived.WalkKit
import Derived.ProofKit
import Derived.OpenShut
import Derived.Handy
import Derived.Lib.Hide
import Derived.WalkLawsBesides
import Derived.Deep.QuietTactic
import Derived.BigQuiet
import Derived.Deep.DeepCutAuto
import Derived.Deep.RegionHeld3
import Derived.Laws.BitsAllLaws
import Derived.Maps.AppendAt
import Derived.Laws.AppendOwnNone
import Derived.Deep.DeepAppendWide
import Derived.Orders
import Derived.Deep.LoopGhost
import Derived.WalkSpells
import Derived.LaidEql
import Derived.Great.BuildSlice
set_option linter.unusedVariables false
set_option linter.unusedSimpArgs false
namespace Go.Proofs.YtgkhfpkfjajdjaaDoor
open Go.RowKit

/-! the heap of a world that is written out -/
theorem hp_alloc (w : World) (o : Obj) (k : Nat) : (w.alloc o).heap[k]? = if k = w.heap.size then some o else w.heap[k]? := by
  show (w.heap.push o)[k]? = _
  rw [Array.getElem?_push]
theorem hp_eq (w : World) (o : Obj) (k : Nat) (h : k = w.heap.size) : (w.alloc o).heap[k]? = some o := by rw [hp_alloc, if_pos h]
theorem hp_ne (w : World) (o : Obj) (k : Nat) (h : k ≠ w.heap.size) : (w.alloc o).heap[k]? = w.heap[k]? := by rw [hp_alloc, if_neg h]
/-- two worlds that differ in draws alone -/
structure SameHeap (w w' : World) : Prop where
  os : w'.os = w.os
  tape : w'.tape = w.tape
  output : w'.output = w.output
  heap : w'.heap = w.heap
theorem SameHeap.refl (w : World) : SameHeap w w := ⟨rfl, rfl, rfl, rfl⟩
theorem SameHeap.trans {w w1 w2 : World} (h : SameHeap w w1) (h1 : SameHeap w1 w2) : SameHeap w w2 := ⟨h1.os.trans h.os, h1.tape.trans h.tape, h1.output.trans h.output, h1.heap.trans h.heap⟩
theorem SameHeap.drewN (w : World) (n : Nat) : SameHeap w (w.drewN n) := by
  induction n with
  | zero => exact SameHeap.refl w
  | succ n ih => exact ⟨ih.os, ih.tape, ih.output, ih.heap⟩
theorem SameHeap.cell {w w' : World} (h : SameHeap w w') (a : Addr) : w'.cell? a = w.cell? a := World.cell?_of_block (by rw [h.heap])
theorem SameHeap.frozen {w w' : World} (h : SameHeap w w') (a : Addr) : w'.frozen? a = w.frozen? a := World.frozen?_of_block (by rw [h.heap])
theorem SameHeap.below {w w' : World} (h : SameHeap w w') (B : Nat) : Below B w w' := ⟨h.os, h.tape, h.output, by rw [h.heap]; exact Nat.le_refl _, fun _ _ => by rw [h.heap]⟩
theorem hp_drew (w : World) (k : Nat) : w.drew.heap[k]? = w.heap[k]? := rfl
theorem hp_drewN (w : World) (n k : Nat) : (w.drewN n).heap[k]? = w.heap[k]? := by
  induction n with
  | zero => rfl
  | succ n ih => exact ih
theorem hp_setCell (w : World) (a : Addr) (v : Value) (k : Nat) (h : k ≠ a.block) : (w.setCell a v).heap[k]? = w.heap[k]? := Below.heap_setCell w a v k h

/-- the world under a letter of its own -/
theorem wp_letter {P : Program} {c : Code} {Q : Exit → Act → World → Prop} {a : Act} {w : World} (h : ∀ w2, w2 = w → c.wp P Q a w2) : c.wp P Q a w := h w rfl
/-- a block behind a store into it -/
theorem hp_set (w : World) (g i : Nat) (cs : Array Value) (t : TypeId) (v : Value) (hg : w.heap[g]? = some (.cells cs t (0, 0))) : (w.setCell ⟨g, i, none⟩ v).heap[g]? = some (.cells (cs.setIfInBounds i v) t (0, 0)) := heap_setCell_same w g i cs t v hg

/-! numbers -/
theorem nat_or_bit (x j : Nat) (h : x / 2 ^ j % 2 = 0) : x ||| 2 ^ j = x + 2 ^ j := by
  have hx : x = 2 ^ (j + 1) * (x / 2 ^ (j + 1)) + x % 2 ^ j := by
    have h1 := Nat.div_add_mod x (2 ^ j)
    have h2 := Nat.div_add_mod (x / 2 ^ j) 2
    have h3 : x / 2 ^ (j + 1) = x / 2 ^ j / 2 := by rw [Nat.pow_succ, Nat.div_div_eq_div_mul]
    rw [h, Nat.add_zero] at h2
    rw [h3, Nat.pow_succ, Nat.mul_assoc, h2]
    omega
  have hr : x % 2 ^ j < 2 ^ j := Nat.mod_lt _ (Nat.two_pow_pos j)
  generalize x / 2 ^ (j + 1) = q at hx
  generalize x % 2 ^ j = r at hx hr
  subst hx
  have e1 : 2 ^ (j + 1) * q ||| r = 2 ^ (j + 1) * q + r := nat_join (j + 1) _ _ (by simp) (by rw [Nat.pow_succ]; omega)
  have e2 : 2 ^ j ||| r = 2 ^ j + r := nat_join j _ _ (by simp) hr
  have e3 : 2 ^ (j + 1) * q ||| (2 ^ j + r) = 2 ^ (j + 1) * q + (2 ^ j + r) := nat_join (j + 1) _ _ (by simp) (by rw [Nat.pow_succ]; omega)
  rw [← e1, Nat.or_assoc, Nat.or_comm r, e2, e3]
  omega
theorem or16_bit (x : Int) (j : Nat) (hx : 0 ≤ x) (hx2 : x < 65536) (hj : j < 16) (h : x / 2 ^ j % 2 = 0) : bits .or .u16 x (2 ^ j) = x + 2 ^ j := by
  obtain ⟨n, rfl⟩ := Int.eq_ofNat_of_zero_le hx
  have hp : (2 : Nat) ^ j < 65536 := by
    have := Nat.pow_lt_pow_right (a := 2) (by omega) hj
    simpa using this
  have e := u16_or_nat n (2 ^ j) (by omega) hp
  rw [nat_or_bit n j (by exact_mod_cast h)] at e
  push_cast at e
  exact e
theorem or_16 (x : Int) (hx : 0 ≤ x) (hx2 : x < 65536) (h : x / 16 % 2 = 0) : bits .or .u16 x 16 = x + 16 := or16_bit x 4 hx hx2 (by omega) (by simpa using h)
theorem or_32 (x : Int) (hx : 0 ≤ x) (hx2 : x < 65536) (h : x / 32 % 2 = 0) : bits .or .u16 x 32 = x + 32 := or16_bit x 5 hx hx2 (by omega) (by simpa using h)
theorem or_128 (x : Int) (hx : 0 ≤ x) (hx2 : x < 65536) (h : x / 128 % 2 = 0) : bits .or .u16 x 128 = x + 128 := or16_bit x 7 hx hx2 (by omega) (by simpa using h)
theorem or_256 (x : Int) (hx : 0 ≤ x) (hx2 : x < 65536) (h : x / 256 % 2 = 0) : bits .or .u16 x 256 = x + 256 := or16_bit x 8 hx hx2 (by omega) (by simpa using h)
theorem or_512 (x : Int) (hx : 0 ≤ x) (hx2 : x < 65536) (h : x / 512 % 2 = 0) : bits .or .u16 x 512 = x + 512 := or16_bit x 9 hx hx2 (by omega) (by simpa using h)
theorem or_1024 (x : Int) (hx : 0 ≤ x) (hx2 : x < 65536) (h : x / 1024 % 2 = 0) : bits .or .u16 x 1024 = x + 1024 := or16_bit x 10 hx hx2 (by omega) (by simpa using h)
theorem or_32768 (x : Int) (hx : 0 ≤ x) (hx2 : x < 65536) (h : x / 32768 % 2 = 0) : bits .or .u16 x 32768 = x + 32768 := or16_bit x 15 hx hx2 (by omega) (by simpa using h)
theorem or_0 (x : Int) (hx : 0 ≤ x) (hx2 : x < 65536) : bits .or .u16 x 0 = x := by
  obtain ⟨n, rfl⟩ := Int.eq_ofNat_of_zero_le hx
  have e := u16_or_nat n 0 (by omega) (by omega)
  simpa using e
/-- a low part of i bits beside a high part -/
theorem or_low (x y : Int) (i : Nat) (hx : 0 ≤ x) (hx2 : x < 65536) (hy : 0 ≤ y) (hy2 : y < 2 ^ i) (hi : i ≤ 16) (h : x % 2 ^ i = 0) : bits .or .u16 x y = x + y := by
  obtain ⟨n, rfl⟩ := Int.eq_ofNat_of_zero_le hx
  obtain ⟨m, rfl⟩ := Int.eq_ofNat_of_zero_le hy
  have hm : m < 2 ^ i := by exact_mod_cast hy2
  have hp : (2 : Nat) ^ i ≤ 65536 := by
    have := Nat.pow_le_pow_right (n := 2) (by omega) hi
    simpa using this
  have e := u16_or_nat n m (by omega) (by omega)
  rw [nat_join i n m (by exact_mod_cast h) hm] at e
  push_cast at e
  exact e

/-! the header's second word -/
theorem bi_bd (b : Bool) : 0 ≤ bi b ∧ bi b ≤ 1 := by cases b <;> simp [bi]
/-- the bits of a header as one number -/
def hsum (op code : Int) (qr aa tc rd ra ad cd : Bool) : Int :=
  op * 2048 + code + bi ra * 128 + bi rd * 256 + bi tc * 512 + bi aa * 1024 + bi qr * 32768 + bi ad * 32 + bi cd * 16
theorem hsum_bd (op code : Int) (qr aa tc rd ra ad cd : Bool) (h0 : 0 ≤ op) (h1 : op < 16) (h2 : 0 ≤ code) (h3 : code < 16) :
    0 ≤ hsum op code qr aa tc rd ra ad cd ∧ hsum op code qr aa tc rd ra ad cd < 65536 := by
  have := bi_bd qr; have := bi_bd aa; have := bi_bd tc; have := bi_bd rd; have := bi_bd ra; have := bi_bd ad; have := bi_bd cd
  unfold hsum
  omega
theorem hor_128 (op code : Int) (h0 : 0 ≤ op) (h1 : op < 16) (h2 : 0 ≤ code) (h3 : code < 16) : bits .or .u16 (op * 2048 + code) 128 = op * 2048 + code + 128 := by
  exact or_128 _ (by omega) (by omega) (by omega)
theorem hor_256 (op code : Int) (ra : Bool) (h0 : 0 ≤ op) (h1 : op < 16) (h2 : 0 ≤ code) (h3 : code < 16) : bits .or .u16 (op * 2048 + code + bi ra * 128) 256 = op * 2048 + code + bi ra * 128 + 256 := by
  have := bi_bd ra; exact or_256 _ (by omega) (by omega) (by omega)
theorem hor_512 (op code : Int) (ra rd : Bool) (h0 : 0 ≤ op) (h1 : op < 16) (h2 : 0 ≤ code) (h3 : code < 16) : bits .or .u16 (op * 2048 + code + bi ra * 128 + bi rd * 256) 512 = op * 2048 + code + bi ra * 128 + bi rd * 256 + 512 := by
  have := bi_bd ra; have := bi_bd rd; exact or_512 _ (by omega) (by omega) (by omega)
theorem hor_1024 (op code : Int) (ra rd tc : Bool) (h0 : 0 ≤ op) (h1 : op < 16) (h2 : 0 ≤ code) (h3 : code < 16) : bits .or .u16 (op * 2048 + code + bi ra * 128 + bi rd * 256 + bi tc * 512) 1024 = op * 2048 + code + bi ra * 128 + bi rd * 256 + bi tc * 512 + 1024 := by
  have := bi_bd ra; have := bi_bd rd; have := bi_bd tc; exact or_1024 _ (by omega) (by omega) (by omega)
theorem hor_32768 (op code : Int) (ra rd tc aa : Bool) (h0 : 0 ≤ op) (h1 : op < 16) (h2 : 0 ≤ code) (h3 : code < 16) : bits .or .u16 (op * 2048 + code + bi ra * 128 + bi rd * 256 + bi tc * 512 + bi aa * 1024) 32768 = op * 2048 + code + bi ra * 128 + bi rd * 256 + bi tc * 512 + bi aa * 1024 + 32768 := by
  have := bi_bd ra; have := bi_bd rd; have := bi_bd tc; have := bi_bd aa; exact or_32768 _ (by omega) (by omega) (by omega)
theorem hor_32 (op code : Int) (ra rd tc aa qr : Bool) (h0 : 0 ≤ op) (h1 : op < 16) (h2 : 0 ≤ code) (h3 : code < 16) : bits .or .u16 (op * 2048 + code + bi ra * 128 + bi rd * 256 + bi tc * 512 + bi aa * 1024 + bi qr * 32768) 32 = op * 2048 + code + bi ra * 128 + bi rd * 256 + bi tc * 512 + bi aa * 1024 + bi qr * 32768 + 32 := by
  have := bi_bd ra; have := bi_bd rd; have := bi_bd tc; have := bi_bd aa; have := bi_bd qr; exact or_32 _ (by omega) (by omega) (by omega)
theorem hor_16 (op code : Int) (ra rd tc aa qr ad : Bool) (h0 : 0 ≤ op) (h1 : op < 16) (h2 : 0 ≤ code) (h3 : code < 16) : bits .or .u16 (op * 2048 + code + bi ra * 128 + bi rd * 256 + bi tc * 512 + bi aa * 1024 + bi qr * 32768 + bi ad * 32) 16 = op * 2048 + code + bi ra * 128 + bi rd * 256 + bi tc * 512 + bi aa * 1024 + bi qr * 32768 + bi ad * 32 + 16 := by
  have := bi_bd ra; have := bi_bd rd; have := bi_bd tc; have := bi_bd aa; have := bi_bd qr; have := bi_bd ad; exact or_16 _ (by omega) (by omega) (by omega)
end Go.Proofs.YtgkhfpkfjajdjaaDoor

/- Slices that the call itself grows, and slices that are read: plain laws on worlds, for whatever program. -/
namespace Go.Proofs.YtgkhfpkfjajdjaaDoor
open Go.RowKit

/-! bytes -/
/-- bytes as the values of cells -/
def bv (bs : Bytes) : List Value := bs.map fun b => .int .u8 (b.toNat : Int)
theorem bv_length (bs : Bytes) : (bv bs).length = bs.length := by simp [bv]
theorem bv_append (a b : Bytes) : bv (a ++ b) = bv a ++ bv b := by simp [bv]
theorem bv_one (bs : Bytes) : ∀ u ∈ bv bs, u.oneCell' = true := by
  intro u hu
  simp only [bv, List.mem_map] at hu
  obtain ⟨b, _, rfl⟩ := hu
  rfl

/-- the values xs lie behind the slice value v, which has n elements of 'size' cells each -/
def ReadsAt (w : World) (size : Nat) (v : Value) (n : Nat) (xs : List Value) : Prop :=
  xs.length = n * size ∧ ∃ ao cap, v = .slice ao n cap ∧ (ao = none → n = 0 ∧ cap = 0) ∧ ∀ j x, xs[j]? = some x → ∃ a, ao = some a ∧ w.cell? (a.add j) = some x
/-- v reads as bytes -/
def BytesAt (w : World) (v : Value) (bs : Bytes) : Prop := ReadsAt w 1 v bs.length (bv bs)

theorem ReadsAt.nil (w : World) (size : Nat) : ReadsAt w size (.slice none 0 0) 0 [] := ⟨by simp, none, 0, rfl, fun _ => ⟨rfl, rfl⟩, by simp⟩
theorem ReadsAt.of_own {w : World} {base e size : Nat} {v : Value} {n : Nat} {xs : List Value} (h : w.ownsRow base e size v n xs) : ReadsAt w size v n xs := by
  refine ⟨h.1, ?_⟩
  rcases h.2 with ⟨rfl, rfl⟩ | ⟨g, cap, cur, rfl, _, hg, _, _, _, ht⟩
  · refine ⟨none, 0, rfl, fun _ => ⟨rfl, rfl⟩, ?_⟩
    have : xs = [] := List.eq_nil_of_length_eq_zero (by simpa using h.1)
    subst this
    simp
  · exact ⟨some ⟨g, 0, none⟩, cap, rfl, by simp, fun j x hx => ⟨_, rfl, h.cells (g := g) rfl j x hx⟩⟩
theorem ReadsAt.kept {w w' : World} {size : Nat} {v : Value} {n : Nat} {xs : List Value} (h : ReadsAt w size v n xs) (hc : ∀ a x, w.cell? a = some x → (xs ≠ [] → v.ownBlock = some a.block) → w'.cell? a = some x) : ReadsAt w' size v n xs := by
  obtain ⟨hl, ao, cap, rfl, hn, hx⟩ := h
  refine ⟨hl, ao, cap, rfl, hn, fun j x hj => ?_⟩
  obtain ⟨a, rfl, ha⟩ := hx j x hj
  refine ⟨a, rfl, hc _ x ha fun _ => ?_⟩
  simp only [Value.ownBlock]
  unfold Addr.add
  split <;> rfl
theorem ReadsAt.below {w w' : World} {B size : Nat} {v : Value} {n : Nat} {xs : List Value} (h : ReadsAt w size v n xs) (hb : Below B w w') (hB : ∀ a x, w.cell? a = some x → a.block < B) : ReadsAt w' size v n xs :=
  h.kept fun a x ha _ => by rw [hb.cell (hB a x ha)]; exact ha
theorem ReadsAt.grow {w w' : World} {size : Nat} {v : Value} {n : Nat} {xs : List Value} (h : ReadsAt w size v n xs) (hb : Below w.heap.size w w') : ReadsAt w' size v n xs :=
  h.below hb fun a _ ha => World.block_lt_of_cell? w a ha
theorem ReadsAt.grownBy {w w' : World} {row : Option Nat} {size : Nat} {v : Value} {n : Nat} {xs : List Value} (h : ReadsAt w size v n xs) (hg : w.grownBy w' row) (hne : v.ownBlock = none ∨ v.ownBlock ≠ row) : ReadsAt w' size v n xs := by
  obtain ⟨hl, ao, cap, rfl, hn, hx⟩ := h
  refine ⟨hl, ao, cap, rfl, hn, fun j x hj => ?_⟩
  obtain ⟨a, rfl, ha⟩ := hx j x hj
  refine ⟨a, rfl, hg.cell ha ?_⟩
  have : (a.add j).block = a.block := by unfold Addr.add; split <;> rfl
  rw [this]
  simpa [Value.ownBlock] using hne
theorem ReadsAt.drewN {w : World} {size : Nat} {v : Value} {n : Nat} {xs : List Value} (h : ReadsAt w size v n xs) (k : Nat) : ReadsAt (w.drewN k) size v n xs :=
  h.kept fun a x ha _ => by simpa using ha

/-! the world, grown: two steps are one -/
theorem grownBy_refl (w : World) (row : Option Nat) : w.grownBy w row := ⟨rfl, rfl, rfl, Nat.le_refl _, fun _ _ _ => rfl⟩
theorem grownBy_drewN (w : World) (k : Nat) (row : Option Nat) : w.grownBy (w.drewN k) row := by
  induction k with
  | zero => exact grownBy_refl w row
  | succ k ih => exact ⟨ih.os, ih.tape, ih.output, ih.size, ih.block⟩
theorem grownBy_trans {w w1 w2 : World} {r r1 : Option Nat} (h : w.grownBy w1 r) (h1 : w1.grownBy w2 r1) (hr : r1 = r ∨ ∀ k, r1 = some k → w.heap.size ≤ k) : w.grownBy w2 r :=
  ⟨h1.os.trans h.os, h1.tape.trans h.tape, h1.output.trans h.output, Nat.le_trans h.size h1.size, fun k hk hne =>
    (h1.block k (Nat.lt_of_lt_of_le hk h.size) (fun e => by
      rcases hr with rfl | hr
      · exact hne e
      · have := hr k e.symm; omega)).trans (h.block k hk hne)⟩
theorem grownBy_of_below {w w' : World} (h : Below w.heap.size w w') (row : Option Nat) : w.grownBy w' row := ⟨h.os, h.tape, h.output, h.size, fun k hk _ => h.block k hk⟩
theorem below_of_grownBy {w w' : World} {row : Option Nat} {B : Nat} (h : w.grownBy w' row) (hB : B ≤ w.heap.size) (hr : ∀ k, row = some k → B ≤ k) : Below B w w' :=
  (Below.refl B w).grown h hB hr

theorem grownBy_setCell {w w' : World} {row : Option Nat} (h : w.grownBy w' row) (a : Addr) (u : Value) (ha : some a.block = row ∨ w.heap.size ≤ a.block) : w.grownBy (w'.setCell a u) row :=
  ⟨h.os, h.tape, h.output, by have := h.size; simpa [World.setCell] using this, fun k hk hne => (hp_setCell w' a u k (fun e => by
    rcases ha with ha | ha
    · exact hne (by rw [e]; exact ha)
    · omega)).trans (h.block k hk hne)⟩
theorem grownBy_alloc {w w' : World} {row : Option Nat} (h : w.grownBy w' row) (o : Obj) : w.grownBy (w'.alloc o) row :=
  ⟨h.os, h.tape, h.output, by have := h.size; simp; omega, fun k hk hne => (hp_ne w' o k (by have := h.size; omega)).trans (h.block k hk hne)⟩
theorem grownBy_same {w w1 w2 : World} {row : Option Nat} (h : w.grownBy w1 row) (hs : SameHeap w1 w2) : w.grownBy w2 row :=
  grownBy_trans h (grownBy_of_below (hs.below _) none) (.inr (by simp))
theorem grownBy_drew {w w' : World} {row : Option Nat} (h : w.grownBy w' row) : w.grownBy w'.drew row := ⟨h.os, h.tape, h.output, h.size, h.block⟩

/-! a slice that grows -/
/-- from v, which reads as xs in w, the call has come to v', which reads as xs' in w'; v still reads as xs; no other old block has changed -/
structure Grew (w : World) (e size : Nat) (v : Value) (n : Nat) (xs : List Value) (w' : World) (v' : Value) (n' : Nat) (xs' : List Value) : Prop where
  was : w.ownsRow 0 e size v n xs
  own : w'.ownsRow 0 e size v' n' xs'
  old : w'.ownsRow 0 e size v n xs
  by_ : w.grownBy w' v.ownBlock
  at_ : v'.ownBlock = v.ownBlock ∨ ∃ k, w.heap.size ≤ k ∧ v'.ownBlock = some k
theorem Grew.refl {w : World} {e size : Nat} {v : Value} {n : Nat} {xs : List Value} (h : w.ownsRow 0 e size v n xs) : Grew w e size v n xs w v n xs :=
  ⟨h, h, h, grownBy_refl _ _, .inl rfl⟩
theorem ownsRow_shorter {w : World} {e size : Nat} (hs : 0 < size) {g n cap n1 cap1 : Nat} {xs xs1 : List Value} (h : w.ownsRow 0 e size (.slice (some ⟨g, 0, none⟩) n1 cap1) n1 xs1) (hc : cap = cap1) (hp : xs <+: xs1) (hl : xs.length = n * size) :
    w.ownsRow 0 e size (.slice (some ⟨g, 0, none⟩) n cap) n xs := by
  subst hc
  refine ⟨hl, ?_⟩
  rcases h.2 with ⟨h0, _⟩ | ⟨g', cap', cur, hv, _, hg, hn, hm, hsz, ht⟩
  · cases h0
  · simp only [Value.slice.injEq, Option.some.injEq, Addr.mk.injEq] at hv
    obtain ⟨⟨rfl, _, _⟩, _, rfl⟩ := hv
    have hle : n ≤ n1 := by
      have h1 := hp.length_le
      rw [hl, h.1] at h1
      exact Nat.le_of_mul_le_mul_right h1 hs
    refine .inr ⟨g, cap, cur, rfl, Nat.zero_le _, hg, by omega, hm, hsz, ?_⟩
    obtain ⟨t, rfl⟩ := hp
    have : cur.toList.take (n * size) = (cur.toList.take (n1 * size)).take (n * size) := by
      rw [List.take_take, Nat.min_eq_left (Nat.mul_le_mul_right _ hle)]
    rw [this, ht, ← hl]
    simp
theorem ownsRow_cap {w : World} {e size : Nat} {g n cap : Nat} {xs : List Value} (h : w.ownsRow 0 e size (.slice (some ⟨g, 0, none⟩) n cap) n xs) : ∃ cur, w.heap[g]? = some (.cells cur e (0, 0)) ∧ cur.size = cap * size := by
  rcases h.2 with ⟨h0, _⟩ | ⟨g', cap', cur, hv, _, hg, hn, hm, hsz, ht⟩
  · cases h0
  · simp only [Value.slice.injEq, Option.some.injEq, Addr.mk.injEq] at hv
    obtain ⟨⟨rfl, _, _⟩, _, rfl⟩ := hv
    exact ⟨cur, hg, hsz⟩
theorem Grew.trans {w : World} {e size : Nat} {v : Value} {n : Nat} {xs : List Value} {w1 : World} {v1 : Value} {n1 : Nat} {xs1 : List Value} {w2 : World} {v2 : Value} {n2 : Nat} {xs2 : List Value} (hs : 0 < size)
    (h : Grew w e size v n xs w1 v1 n1 xs1) (h1 : Grew w1 e size v1 n1 xs1 w2 v2 n2 xs2) (hp : xs <+: xs1) : Grew w e size v n xs w2 v2 n2 xs2 := by
  refine ⟨h.was, h1.own, ?_, grownBy_trans h.by_ h1.by_ ?_, ?_⟩
  · rcases h.old.2 with ⟨rfl, rfl⟩ | ⟨g, cap, cur, rfl, _, hg, _⟩
    · exact ⟨h.old.1, .inl ⟨rfl, rfl⟩⟩
    · rcases h.at_ with ha | ⟨k, hk, ha⟩
      · rcases h1.old.2 with ⟨rfl, _⟩ | ⟨g1, cap1, cur1, rfl, _, _⟩
        · simp [Value.ownBlock] at ha
        · simp only [Value.ownBlock, Option.some.injEq] at ha
          subst ha
          obtain ⟨c1, hc1, hs1⟩ := ownsRow_cap h.own
          obtain ⟨c2, hc2, hs2⟩ := ownsRow_cap h.old
          rw [hc1] at hc2
          simp only [Option.some.injEq, Obj.cells.injEq] at hc2
          obtain ⟨rfl, _⟩ := hc2
          have : cap = cap1 := by
            rw [hs1] at hs2
            exact (Nat.eq_of_mul_eq_mul_right hs hs2).symm
          exact ownsRow_shorter hs h1.old this hp h.old.1
      · refine h.old.kept h1.by_ (.inr ?_)
        rw [ha]
        simp only [Value.ownBlock]
        intro e
        have hlt := (h.was.lt g rfl).2
        simp only [Option.some.injEq] at e
        omega
  · rcases h.at_ with ha | ⟨k, hk, ha⟩
    · exact .inl ha
    · exact .inr fun j hj => by rw [ha] at hj; cases hj; exact hk
  · rcases h1.at_ with hb | ⟨k, hk, hb⟩
    · rw [hb]; exact h.at_
    · exact .inr ⟨k, Nat.le_trans h.by_.size hk, hb⟩

/-! append -/
theorem splice_sizes (cur : Array Value) (k : Nat) (news : List Value) (h : k + news.length ≤ cur.size) : (cur.toList.take k ++ news ++ cur.toList.drop (k + news.length)).toArray.size = cur.size := by
  simp only [List.size_toArray, List.length_append, List.length_take, List.length_drop, Array.length_toList]
  omega
/-- there is room for m more elements behind n -/
structure Room (n m bytes : Nat) : Prop where
  all : (n + m) * bytes ≤ 200000000000000
  more : m * bytes ≤ 140737488355328
  one : bytes ≤ 1000000000
theorem Room.wide {n m bytes : Nat} (h : Room n m bytes) : ((n + m) + (n + m) / 4 + 192) * bytes ≤ 281474976710656 := by
  have h1 := h.all
  have h2 : (n + m) / 4 * bytes ≤ (n + m) * bytes / 4 := by
    rw [Nat.le_div_iff_mul_le (by omega), Nat.mul_assoc, Nat.mul_comm bytes 4, ← Nat.mul_assoc]
    exact Nat.mul_le_mul_right _ (Nat.div_mul_le_self _ _)
  have h3 := h.one
  rw [Nat.add_mul, Nat.add_mul]
  omega
/-- append to a slice that the call owns, from a slice that is read: the run -/
theorem run_append_grew {P : Program} (w : World) (t ty e : TypeId) (i : TypeInfo) (z : Value) (size bytes : Nat) (ht : P.underlying t = some (.slice e)) (hi : P.info? e = some i) (hz : i.zero = some z)
    (hsize : i.size = size) (hby : i.bytes = bytes) (hzs : z.cells.size = size) (hsz : 0 < size)
    (v : Value) (n : Nat) (xs : List Value) (hown : w.ownsRow 0 e size v n xs) (y : Value) (m : Nat) (news : List Value) (hr : ReadsAt w size y m news) (h1 : ∀ u ∈ news, u.oneCell' = true)
    (h63 : n + m ≤ maxLen) (hbytes : Room n m bytes) :
    ∃ v' w', (Builtin.append_ #[t, t] ty #[v, y]).run P w = .ok v' w' ∧ Grew w e size v n xs w' v' (n + m) (xs ++ news) := by
  obtain ⟨hl, ao, c, rfl, hnil, hx⟩ := hr
  cases ao with
  | none =>
    obtain ⟨rfl, rfl⟩ := hnil rfl
    obtain rfl : news = [] := List.eq_nil_of_length_eq_zero (by simpa using hl)
    refine ⟨v, w, run_append_owned_none (P := P) (w := w) 0 t ty e i size ht hi v n xs hown, ?_⟩
    simp only [Nat.add_zero, List.append_nil]
    exact Grew.refl hown
  | some a =>
    have hnews : ∀ j u, news[j]? = some u → w.cell? (a.add j) = some u := fun j u hu => by
      obtain ⟨a', ha', hc⟩ := hx j u hu
      cases ha'
      exact hc
    rcases hown.2 with ⟨rfl, rfl⟩ | ⟨g, cap, cur, rfl, _, hg, hnc, hcm, hcs, htake⟩
    · obtain ⟨v', w', hr, h2, h3, _, h5⟩ := run_append_own_at (P := P) w 0 t ty e i z size bytes ht hi hz hsize hby hzs hsz _ _ xs hown a m c news hl hnews h1 h63 (by rw [Nat.zero_add]; exact hbytes.more) (Nat.zero_le _)
      refine ⟨v', w', hr, hown, h2, ⟨hown.1, .inl ⟨rfl, rfl⟩⟩, h3, ?_⟩
      rcases h5 with h5 | h5
      · exact .inl h5
      · exact .inr ⟨_, Nat.le_refl _, h5⟩
    · by_cases hroom : n + m ≤ cap
      · subst hsize
        have hfit : n * i.size + news.length ≤ cur.size := by rw [hl, hcs, ← Nat.add_mul]; exact Nat.mul_le_mul_right _ hroom
        have hr := run_append_room (P := P) w t ty e i ht hi g n cap cur hg a m c news hl hnews h1 hroom hfit
        have hsz2 := splice_sizes cur (n * i.size) news hfit
        have hlen : (xs ++ news).length = (n + m) * i.size := by rw [List.length_append, hown.1, hl, Nat.add_mul]
        have hhp := setRow_heap w g cur (cur.toList.take (n * i.size) ++ news ++ cur.toList.drop (n * i.size + news.length)).toArray e _ hg
        refine ⟨_, _, hr, hown, ⟨hlen, .inr ⟨g, cap, _, rfl, Nat.zero_le _, hhp, hroom, hcm, by rw [hsz2, hcs], ?_⟩⟩,
          ⟨hown.1, .inr ⟨g, cap, _, rfl, Nat.zero_le _, hhp, hnc, hcm, by rw [hsz2, hcs], ?_⟩⟩,
          ⟨rfl, rfl, rfl, by simp, fun k _ hk => setRow_other w g k _ (fun e => hk (by simp [Value.ownBlock, e]))⟩, .inl rfl⟩
        · rw [htake, ← hlen]
          exact List.take_left
        · rw [htake, List.append_assoc, ← hown.1]
          exact List.take_left
      · have hrest := run_append_own_wide (P := P) w 0 t ty e i z size bytes ht hi hz hsize hby hzs hsz _ _ xs hown a m c news hl hnews h1 h63 hbytes.wide (Nat.zero_le _)
        obtain ⟨v', w', hr, h2, h3, _⟩ := hrest
        subst hsize
        subst hby
        have hgr := run_append_grow (P := P) w t ty e i z ht hi hz ⟨g, 0, none⟩ n cap xs hown.1 (hown.cells (g := g) rfl) a m c news hl hnews (by omega) (by simp only [maxLen] at h63; omega) (growslice_fits_wide (by omega) hbytes.wide)
        rw [hgr] at hr
        simp only [Result.ok.injEq] at hr
        obtain ⟨rfl, rfl⟩ := hr
        refine ⟨_, _, hgr, hown, h2, ?_, h3, .inr ⟨w.heap.size, Nat.le_refl _, rfl⟩⟩
        exact World.ownsRow.alloc (w := w.drew) hown _
/-- the same at the operation -/
theorem wpList_append_grew {P : Program} {w : World} {ops : Array Oper} {rest : List Oper} {o : Oper} {a : Act} {Q : Exit → Act → World → Prop} (hgd : o.guard = none) (s x : Operand) (t : TypeId)
    (ho : o.op = .call { callee := .builtin .append, args := #[s, x], argTypes := #[t, t] })
    (e : TypeId) (i : TypeInfo) (z : Value) (size bytes : Nat) (ht : P.underlying t = some (.slice e)) (hi : P.info? e = some i) (hz : i.zero = some z)
    (hsize : i.size = size) (hby : i.bytes = bytes) (hzs : z.cells.size = size) (hsz : 0 < size)
    (v : Value) (n : Nat) (xs : List Value) (hs : a.eval s = v) (hown : w.ownsRow 0 e size v n xs) (y : Value) (m : Nat) (news : List Value) (hx : a.eval x = y) (hr : ReadsAt w size y m news) (h1 : ∀ u ∈ news, u.oneCell' = true)
    (h63 : n + m ≤ maxLen) (hbytes : Room n m bytes)
    (h : ∀ v' w', Grew w e size v n xs w' v' (n + m) (xs ++ news) → wpList P ops Q rest (a.put o.dst v') w') : wpList P ops Q (o :: rest) a w :=
  wpList_plain hgd fun _ hK => by
    obtain ⟨v', w', hr, h2⟩ := run_append_grew (P := P) w t o.type e i z size bytes ht hi hz hsize hby hzs hsz v n xs hown y m news hr h1 h63 hbytes
    unfold Oper.wp execOp
    simp only [ho, resolve, invoke, builtin, Sem.run_bind, Sem.run_pure, Result.andThen_ok, List.map_toArray, List.map_cons, List.map_nil, hs, hx, hr]
    exact hK _ _ (h v' w' h2)
end Go.Proofs.YtgkhfpkfjajdjaaDoor

/- Worlds, one behind the other: new blocks, and which old ones may have changed. For whatever program. -/
namespace Go.Proofs.YtgkhfpkfjajdjaaDoor
open Go.RowKit

/-- a block of cells, none of them frozen -/
def Solid (w : World) (k : Nat) : Prop := ∃ c t, w.heap[k]? = some (.cells c t (0, 0))
theorem Solid.lt {w : World} {k : Nat} (h : Solid w k) : k < w.heap.size := by
  obtain ⟨c, t, h⟩ := h
  exact (Array.getElem?_eq_some_iff.1 h).1
theorem Solid.of_eq {w w' : World} {k : Nat} (h : Solid w k) (e : w'.heap[k]? = w.heap[k]?) : Solid w' k := by
  obtain ⟨c, t, h⟩ := h
  exact ⟨c, t, e.trans h⟩
theorem Solid.setCell {w : World} {k : Nat} (h : Solid w k) (a : Addr) (u : Value) : Solid (w.setCell a u) k := by
  by_cases e : k = a.block
  · obtain ⟨c, t, h⟩ := h
    subst e
    obtain ⟨hlt, h⟩ := Array.getElem?_eq_some_iff.1 h
    refine ⟨if a.spot.isSome = true then c else c.setIfInBounds a.off u, t, ?_⟩
    simp only [World.setCell, Array.getElem?_modify, if_true, Array.getElem?_eq_getElem hlt, h, Option.map_some]
  · exact h.of_eq (hp_setCell w a u k e)
/-- from w to w' new blocks may have come, and of the old ones only those of S may have changed -/
structure Chg (S : Nat → Prop) (w w' : World) : Prop where
  os : w'.os = w.os
  tape : w'.tape = w.tape
  output : w'.output = w.output
  size : w.heap.size ≤ w'.heap.size
  block : ∀ k, k < w.heap.size → ¬ S k → w'.heap[k]? = w.heap[k]?
  firm : ∀ k, Solid w k → Solid w' k
theorem Chg.refl (S : Nat → Prop) (w : World) : Chg S w w := ⟨rfl, rfl, rfl, Nat.le_refl _, fun _ _ _ => rfl, fun _ h => h⟩
theorem Chg.trans {S T : Nat → Prop} {w w1 w2 : World} (h : Chg S w w1) (h1 : Chg T w1 w2) (hT : ∀ k, k < w.heap.size → T k → S k) : Chg S w w2 :=
  ⟨h1.os.trans h.os, h1.tape.trans h.tape, h1.output.trans h.output, Nat.le_trans h.size h1.size, fun k hk hS =>
    (h1.block k (Nat.lt_of_lt_of_le hk h.size) (fun ht => hS (hT k hk ht))).trans (h.block k hk hS), fun k hk => h1.firm k (h.firm k hk)⟩
theorem Chg.mono {S T : Nat → Prop} {w w' : World} (h : Chg S w w') (hT : ∀ k, k < w.heap.size → S k → T k) : Chg T w w' :=
  ⟨h.os, h.tape, h.output, h.size, fun k hk ht => h.block k hk (fun hs => ht (hT k hk hs)), h.firm⟩
theorem Chg.of_grownBy {w w' : World} {row : Option Nat} (h : w.grownBy w' row) {S : Nat → Prop} (hS : ∀ k, row = some k → S k) (hf : ∀ k, row = some k → Solid w' k) : Chg S w w' :=
  ⟨h.os, h.tape, h.output, h.size, fun k hk hs => h.block k hk (fun e => hs (hS k e.symm)), fun k hk => by
    by_cases e : row = some k
    · exact hf k e
    · exact hk.of_eq (h.block k hk.lt (fun e' => e e'.symm))⟩
theorem Chg.of_below {w w' : World} (h : Below w.heap.size w w') (S : Nat → Prop) : Chg S w w' := ⟨h.os, h.tape, h.output, h.size, fun k hk _ => h.block k hk, fun k hk => hk.of_eq (h.block k hk.lt)⟩
theorem Chg.of_same {w w' : World} (h : SameHeap w w') (S : Nat → Prop) : Chg S w w' := Chg.of_below (h.below _) S
theorem Chg.below {S : Nat → Prop} {w w' : World} {B : Nat} (h : Chg S w w') (hB : B ≤ w.heap.size) (hS : ∀ k, S k → B ≤ k) : Below B w w' :=
  ⟨h.os, h.tape, h.output, h.size, fun k hk => h.block k (by omega) (fun hs => by have := hS k hs; omega)⟩
theorem Chg.setCell {S : Nat → Prop} {w w' : World} (h : Chg S w w') (a : Addr) (u : Value) (ha : S a.block ∨ w.heap.size ≤ a.block) : Chg S w (w'.setCell a u) :=
  ⟨h.os, h.tape, h.output, by have := h.size; simpa [World.setCell] using this, fun k hk hs => (hp_setCell w' a u k (fun e => by
    rcases ha with ha | ha
    · exact hs (by rw [e]; exact ha)
    · omega)).trans (h.block k hk hs), fun k hk => (h.firm k hk).setCell a u⟩
theorem Chg.alloc {S : Nat → Prop} {w w' : World} (h : Chg S w w') (o : Obj) : Chg S w (w'.alloc o) :=
  ⟨h.os, h.tape, h.output, by have := h.size; simp; omega, fun k hk hs => (hp_ne w' o k (by have := h.size; omega)).trans (h.block k hk hs), fun k hk => (h.firm k hk).of_eq (hp_ne w' o k (by have := (h.firm k hk).lt; omega))⟩
theorem Chg.drew {S : Nat → Prop} {w w' : World} (h : Chg S w w') : Chg S w w'.drew := ⟨h.os, h.tape, h.output, h.size, h.block, h.firm⟩
theorem Chg.kept {S : Nat → Prop} {w w' : World} (h : Chg S w w') {k : Nat} {o : Obj} (hk : w.heap[k]? = some o) (hs : ¬ S k) : w'.heap[k]? = some o :=
  (h.block k (Array.getElem?_eq_some_iff.1 hk).1 hs).trans hk

end Go.Proofs.YtgkhfpkfjajdjaaDoor

/- Bytes and strings. -/
namespace Go.Proofs.YtgkhfpkfjajdjaaDoor
open Go.RowKit
set_option maxHeartbeats 1000000
set_option maxRecDepth 100000

abbrev strOf (bs : Bytes) : Value := .string ⟨bs.toArray⟩
theorem push_all (bs : Bytes) : ∀ s : ByteArray, (bs.map fun b => (b.toNat : Int)).foldl (fun r n => r.push (UInt8.ofNat n.toNat)) s = ⟨s.data ++ bs.toArray⟩ := by
  induction bs with
  | nil => intro s; simp
  | cons b bs ih =>
    intro s
    simp only [List.map_cons, List.foldl_cons]
    rw [ih]
    have : (s.push (UInt8.ofNat (b.toNat : Int).toNat)).data = s.data.push b := by
      simp [ByteArray.push]
    rw [this]
    simp
theorem run_bytes_string (w : World) (v : Value) (bs : Bytes) (h : BytesAt w v bs) : (convert 26 9 v).run Tryd.prog w = .ok (strOf bs) w := by
  obtain ⟨hl, ao, cap, rfl, hn, hx⟩ := h
  rw [run_convert_bytes_string w 26 9 5 ao bs.length cap Tryd.underlying26 Tryd.underlying5 Tryd.underlying9]
  cases ao with
  | none =>
    obtain ⟨h0, rfl⟩ := hn rfl
    obtain rfl : bs = [] := List.eq_nil_of_length_eq_zero h0
    rfl
  | some a =>
    have hc : ∀ j x, (bv bs)[j]? = some x → w.cell? (a.add j) = some x := fun j x hj => by
      obtain ⟨a', ha, hc⟩ := hx j x hj
      cases ha
      exact hc
    have hload := run_loadCells_list (P := Tryd.prog) w a (bv bs) hc
    rw [bv_length] at hload
    have e : bv bs = (bs.map fun b => (b.toNat : Int)).map (Value.int .u8) := by simp [bv, List.map_map, Function.comp_def]
    rw [e] at hload
    rw [run_bytesToString w a bs.length cap _ hload, push_all]
    simp [strOf]
end Go.Proofs.YtgkhfpkfjajdjaaDoor

/- Slices of bytes over this seat's program: the append law at bytes, and the contracts of packUint16 and its kin. -/
namespace Go.Proofs.YtgkhfpkfjajdjaaDoor
open Go.RowKit
set_option maxHeartbeats 400000

theorem infoU8 : (Tryd.prog.info? 5).map (fun i => (i.zero, i.size, i.bytes)) = some (some (.int .u8 0), 1, 1) := by kernel_rfl

/-- v is a slice of bytes of the call's own -/
def Own (w : World) (v : Value) (bs : Bytes) : Prop := w.ownsRow 0 5 1 v bs.length (bv bs)
def GrewB (w : World) (v : Value) (bs : Bytes) (w' : World) (v' : Value) (bs' : Bytes) : Prop := Grew w 5 1 v bs.length (bv bs) w' v' bs'.length (bv bs')
theorem Own.reads {w : World} {v : Value} {bs : Bytes} (h : Own w v bs) : BytesAt w v bs := ReadsAt.of_own h
theorem GrewB.own {w : World} {v : Value} {bs : Bytes} {w' : World} {v' : Value} {bs' : Bytes} (h : GrewB w v bs w' v' bs') : Own w' v' bs' := Grew.own h
theorem GrewB.old {w : World} {v : Value} {bs : Bytes} {w' : World} {v' : Value} {bs' : Bytes} (h : GrewB w v bs w' v' bs') : Own w' v bs := Grew.old h
theorem GrewB.refl {w : World} {v : Value} {bs : Bytes} (h : Own w v bs) : GrewB w v bs w v bs := Grew.refl h
theorem bv_prefix {a b : Bytes} (h : a <+: b) : bv a <+: bv b := by
  obtain ⟨t, rfl⟩ := h
  exact ⟨bv t, by rw [bv_append]⟩
theorem GrewB.trans {w : World} {v : Value} {bs : Bytes} {w1 : World} {v1 : Value} {bs1 : Bytes} {w2 : World} {v2 : Value} {bs2 : Bytes} (h : GrewB w v bs w1 v1 bs1) (h1 : GrewB w1 v1 bs1 w2 v2 bs2) (hp : bs <+: bs1) : GrewB w v bs w2 v2 bs2 :=
  Grew.trans (by decide) h h1 (bv_prefix hp)

/-- append of bytes to bytes of the call's own -/
theorem append_bytes {w : World} {ops : Array Oper} {rest : List Oper} {o : Oper} {a : Act} {Q : Exit → Act → World → Prop} (hgd : o.guard = none) (s x : Operand)
    (ho : o.op = .call { callee := .builtin .append, args := #[s, x], argTypes := #[26, 26] })
    (v : Value) (bs : Bytes) (hs : a.eval s = v) (hown : Own w v bs) (y : Value) (cs : Bytes) (hx : a.eval x = y) (hr : BytesAt w y cs)
    (hlen : bs.length + cs.length ≤ 200000000000000) (hcs : cs.length ≤ 140737488355328)
    (h : ∀ v' w', GrewB w v bs w' v' (bs ++ cs) → wpList Tryd.prog ops Q rest (a.put o.dst v') w') : wpList Tryd.prog ops Q (o :: rest) a w := by
  obtain ⟨i0, hi, hz0, hz1, hz2⟩ := info_parts infoU8
  refine wpList_append_grew hgd s x 26 ho 5 i0 (.int .u8 0) 1 1 Tryd.underlying26 hi hz0 hz1 hz2 rfl (by decide) v bs.length (bv bs) hs hown y cs.length (bv cs) hx hr (bv_one cs) (by unfold maxLen; omega) ⟨by omega, by omega, by omega⟩ ?_
  intro v' w' hg
  refine h v' w' ?_
  unfold GrewB
  rw [List.length_append, bv_append]
  exact hg

/-- bytes that lie in a new block -/
theorem bytes_new (w : World) (e : TypeId) (bs : Bytes) (cs : Array Value) (n : Nat) (h : cs.toList = bv bs) (hn : n = bs.length) : BytesAt (w.alloc (.cells cs e)) (.slice (some ⟨w.heap.size, 0, none⟩) n n) bs := by
  subst hn
  refine ⟨by simp [bv], some ⟨w.heap.size, 0, none⟩, bs.length, rfl, by simp, fun j x hj => ⟨_, rfl, ?_⟩⟩
  have hadd : (⟨w.heap.size, 0, none⟩ : Addr).add j = ⟨w.heap.size, j, none⟩ := by unfold Addr.add; split <;> simp_all
  rw [hadd, cell_of_row _ w.heap.size j cs e (0, 0) (heap_alloc_new w _)]
  rw [← h] at hj
  simpa using hj

/-- bytes of the call's own, out of a block that is known -/
theorem own_of_block {w : World} {g n cap : Nat} {cur : Array Value} {bs : Bytes} (hg : w.heap[g]? = some (.cells cur 5 (0, 0))) (hn : n = bs.length) (hc : n ≤ cap) (hm : cap ≤ maxLen) (hs : cur.size = cap) (ht : cur.toList.take n = bv bs) :
    Own w (.slice (some ⟨g, 0, none⟩) n cap) bs := by
  subst hn
  exact ⟨by simp [bv], .inr ⟨g, cap, cur, rfl, Nat.zero_le _, hg, hc, hm, by simpa using hs, by simpa using ht⟩⟩
/-- bytes that are read, out of a block that is known -/
theorem bytes_of_block {w : World} {g o n cap : Nat} {cur : Array Value} {t : TypeId} {fr : Nat × Nat} {bs : Bytes} (hg : w.heap[g]? = some (.cells cur t fr)) (hn : n = bs.length) (ht : (cur.toList.drop o).take n = bv bs) :
    BytesAt w (.slice (some ⟨g, o, none⟩) n cap) bs := by
  subst hn
  refine ⟨by simp [bv], some ⟨g, o, none⟩, cap, rfl, by simp, fun j x hj => ⟨_, rfl, ?_⟩⟩
  have hadd : (⟨g, o, none⟩ : Addr).add j = ⟨g, o + j, none⟩ := by unfold Addr.add; split <;> simp_all
  rw [hadd, cell_of_row _ g (o + j) cur t fr hg]
  rw [← ht, List.getElem?_take] at hj
  split at hj
  · rw [List.getElem?_drop] at hj
    simpa using hj
  · cases hj
theorem Own.setCell {w : World} {v : Value} {bs : Bytes} (h : Own w v bs) (a : Addr) (u : Value) (hne : v.ownBlock ≠ some a.block) : Own (w.setCell a u) v bs := by
  refine World.ownsRow.kept h (row := some a.block) ⟨rfl, rfl, rfl, by simp [World.setCell], fun k _ hk => hp_setCell w a u k (fun e => hk (by rw [e]))⟩ (.inr hne)
theorem Own.ne {w : World} {v : Value} {bs : Bytes} (h : Own w v bs) {g : Nat} {cs : Array Value} {t : TypeId} {fr : Nat × Nat} (hg : w.heap[g]? = some (.cells cs t fr)) (ht : t ≠ 5) : v.ownBlock ≠ some g := by
  rcases h.2 with ⟨rfl, _⟩ | ⟨g', cap, cur, rfl, _, hg', _⟩
  · simp [Value.ownBlock]
  · simp only [Value.ownBlock]
    intro e
    cases e
    rw [hg] at hg'
    cases hg'
    exact ht rfl

theorem Own.form {w : World} {v : Value} {bs : Bytes} (h : Own w v bs) (n : Nat) (hn : bs.length = n) (hp : 0 < n) : ∃ g cap, v = .slice (some ⟨g, 0, none⟩) n cap ∧ n ≤ cap ∧ g < w.heap.size := by
  subst hn
  rcases h.2 with ⟨_, h0⟩ | ⟨g, cap, cur, hv, _, hg, hc, _⟩
  · omega
  · exact ⟨g, cap, hv, hc, (Array.getElem?_eq_some_iff.1 hg).1⟩

theorem u8_of (n : Int) (h0 : 0 ≤ n) (h1 : n < 256) : ((UInt8.ofNat n.toNat).toNat : Int) = n := by
  rw [UInt8.toNat_ofNat']
  omega
theorem two_cells (n : Int) (h0 : 0 ≤ n) (h1 : n < 65536) : [Value.int .u8 (n / 256), Value.int .u8 (n % 256)] = bv (two n) := by
  simp only [bv, two, List.map_cons, List.map_nil]
  rw [u8_of _ (by omega) (by omega), u8_of _ (by omega) (by omega)]

/-- the call returns v', grown by cs from v -/
def Packs (w : World) (v : Value) (bs cs : Bytes) (e : Ending) (w' : World) : Prop := ∃ v', e = .returned v' ∧ GrewB w v bs w' v' (bs ++ cs)

theorem grewB_alloc {w : World} {v : Value} {bs : Bytes} (h : Own w v bs) (o : Obj) : GrewB w v bs (w.alloc o) v bs :=
  ⟨h, h.alloc o, h.alloc o, World.grownBy_alloc w o _, .inl rfl⟩

theorem dns_packUint16 (w : World) (v : Value) (bs : Bytes) (k : Int) (h0 : 0 ≤ k) (h1 : k < 65536) (hown : Own w v bs) (hlen : bs.length + 2 ≤ 200000000000000) :
    Calls Tryd.prog 84 #[v, .int .u16 k] w (Packs w v bs (two k)) := by
  have hown1 := fun o => hown.alloc o
  have H := Lib.hid hown
  clear hown
  go_enter Tryd.func84, Tryd.ntmps84
  go_wp2_with (at_builtin; refine append_bytes rfl _ _ rfl _ bs rfl (hown1 _) _ (two k) rfl (bytes_new _ _ _ _ _ (two_cells k h0 h1) rfl) (by simpa [two] using hlen) (by simp [two]) ?_; intro v' w' hg)
  go_ret
  exact ⟨_, rfl, (grewB_alloc H.out _).trans hg (List.prefix_refl _)⟩
end Go.Proofs.YtgkhfpkfjajdjaaDoor

/- A region that draws its order, by an invariant over the set of the operations that are done. For whatever program. -/
namespace Go.Proofs.YtgkhfpkfjajdjaaDoor
open Go.RowKit

/-- the binding edges of a region lead to earlier operations -/
def edgesBack (ops : Array Oper) : Bool :=
  (List.range ops.size).all fun i => ((ops[i]?).map fun o => o.after.all fun e => !Region.binds .any e || decide (e.on < i)).getD true

theorem ready_nil {ops : Array Oper} (hb : edgesBack ops = true) {D : Array Bool} (hs : D.size = ops.size) (h : Region.ready .any ops D = []) : ∀ i, i < ops.size → D.getD i true = true := by
  intro i
  induction i using Nat.strongRecOn with
  | ind i ih =>
    intro hi
    by_cases hd : D.getD i true = true
    · exact hd
    · exfalso
      have hmem : i ∈ Region.ready .any ops D := by
        unfold Region.ready
        rw [List.mem_filter]
        refine ⟨by simpa using hi, ?_⟩
        have hb1 := List.all_eq_true.1 hb i (by simpa using hi)
        have ho : ops[i]? = some ops[i] := by simp [hi]
        rw [ho] at hb1 ⊢
        simp only [Option.map_some, Option.getD_some] at hb1 ⊢
        have hd' : D.getD i true = false := by simpa using hd
        rw [hd']
        simp only [Bool.not_false, Bool.true_and]
        rw [Array.all_eq_true_iff_forall_mem] at hb1 ⊢
        intro e he
        have h1 := hb1 e he
        cases hq : Region.binds .any e with
        | false => simp
        | true =>
          rw [hq] at h1
          simp only [Bool.not_true, Bool.false_or, decide_eq_true_eq] at h1 ⊢
          have := ih e.on h1 (by omega)
          have hlt : e.on < D.size := by omega
          simpa [Array.getD, hlt] using this
      rw [h] at hmem
      cases hmem

/-- what is known when an operation of the region is taken: it is not done, and what it waits for is -/
structure Taken (ops : Array Oper) (D : Array Bool) (i : Nat) : Prop where
  lt : i < ops.size
  size : D.size = ops.size
  open_ : D.getD i true = false
  deps : ((ops[i]?).map (·.after.all fun e => !Region.binds .any e || D.getD e.on false)).getD false = true

theorem wpAny_inv {P : Program} {ops : Array Oper} {Q : Exit → Act → World → Prop} (hb : edgesBack ops = true) (I : Array Bool → Act → World → Prop)
    (step : ∀ D i, Taken ops D i → ∀ a w, I D a w → wpOp P ops Q i (I (D.setIfInBounds i true)) a w)
    (fin : ∀ D a w, D.size = ops.size → (∀ i, i < ops.size → D.getD i true = true) → I D a w → Q .normal a w) :
    ∀ (fuel : Nat) (D : Array Bool) (a : Act) (w : World), D.size = ops.size → (D.toList.filter (! ·)).length ≤ fuel → I D a w → wpAny P .any ops Q fuel D a w := by
  intro fuel
  induction fuel with
  | zero =>
    intro D a w hs hc hI
    have hall : ∀ i, i < ops.size → D.getD i true = true := by
      intro i hi
      have hlt : i < D.size := by omega
      have hn : D.toList.filter (! ·) = [] := List.eq_nil_of_length_eq_zero (by omega)
      rw [List.filter_eq_nil_iff] at hn
      have := hn D[i] (by simp)
      simpa [Array.getD, hlt] using this
    refine ⟨?_, fin D a w hs hall hI⟩
    unfold Region.ready
    rw [List.filter_eq_nil_iff]
    intro i hi
    rw [hall i (by simpa using hi)]
    simp
  | succ fuel ih =>
    intro D a w hs hc hI
    refine ⟨fun hr => fin D a w hs (ready_nil hb hs hr) hI, fun i hi => ?_⟩
    unfold Region.ready at hi
    rw [List.mem_filter] at hi
    obtain ⟨hi1, hi2⟩ := hi
    simp only [Bool.and_eq_true, Bool.not_eq_true'] at hi2
    have hi3 : i < ops.size := by simpa using hi1
    refine wpOp_mono (fun a' w' h => ih _ a' w' (by simpa using hs) ?_ h) (step D i ⟨hi3, hs, hi2.1, hi2.2⟩ a w hI)
    have hlt : i < D.size := by omega
    have hDi : D[i] = false := by simpa [Array.getD, hlt] using hi2.1
    have hcount : ((D.setIfInBounds i true).toList.filter (! ·)).length + 1 = (D.toList.filter (! ·)).length := by
      have e1 : (D.setIfInBounds i true).toList = D.toList.set i true := by simp
      rw [e1]
      have hl : i < D.toList.length := by simpa using hlt
      have e2 : D.toList = D.toList.take i ++ D.toList[i] :: D.toList.drop (i + 1) := by
        rw [List.getElem_cons_drop hl, List.take_append_drop]
      have e3 : D.toList.set i true = D.toList.take i ++ true :: D.toList.drop (i + 1) := by rw [List.set_eq_take_append_cons_drop, if_pos hl]
      rw [e3]
      conv => rhs; rw [e2]
      simp only [List.filter_append, List.filter_cons, List.length_append]
      have : D.toList[i] = false := by simpa using hDi
      rw [this]
      simp
      omega
    omega
theorem wp_region_inv {P : Program} {ops : Array Oper} {Q : Exit → Act → World → Prop} {id : Nat} {a : Act} {w : World} (hm : P.follows .mixedOrders = true) (hb : edgesBack ops = true) (I : Array Bool → Act → World → Prop)
    (h0 : I (Array.replicate ops.size false) a w.drew)
    (step : ∀ D i, Taken ops D i → ∀ a w, I D a w → wpOp P ops Q i (I (D.setIfInBounds i true)) a w)
    (fin : ∀ D a w, D.size = ops.size → (∀ i, i < ops.size → D.getD i true = true) → I D a w → Q .normal a w) : (Code.region id ops true).wp P Q a w :=
  wp_region_any hm (wpAny_inv hb I step fin ops.size _ a _ (by simp) (by simp) h0)
/-- the same, the invariant told over the frame in which the region begins -/
theorem wp_region_inv_at {P : Program} {ops : Array Oper} {Q : Exit → Act → World → Prop} {id : Nat} {a : Act} {w : World} (hm : P.follows .mixedOrders = true) (hb : edgesBack ops = true) (I : Act → Array Bool → Act → World → Prop)
    (h0 : I a (Array.replicate ops.size false) a w.drew)
    (step : ∀ D i, Taken ops D i → ∀ a' w', I a D a' w' → wpOp P ops Q i (I a (D.setIfInBounds i true)) a' w')
    (fin : ∀ D a' w', D.size = ops.size → (∀ i, i < ops.size → D.getD i true = true) → I a D a' w' → Q .normal a' w') : (Code.region id ops true).wp P Q a w :=
  wp_region_inv hm hb (I a) h0 step fin
theorem wpOp_plain {P : Program} {ops : Array Oper} {Q : Exit → Act → World → Prop} {i : Nat} {o : Oper} {K : Act → World → Prop} {a : Act} {w : World} (ho : ops[i]? = some o) (hg : o.guard = none) (h : o.wp P a w K Q) : wpOp P ops Q i K a w := by
  unfold wpOp
  rw [ho]
  simp only [Region.wanted, hg, if_true]
  exact .inl h
/-- a store of a struct that fills a block, as an operation of a region -/
theorem wpOp_store_row {P : Program} {ops : Array Oper} {Q : Exit → Act → World → Prop} {i : Nat} {K : Act → World → Prop} {a : Act} {w : World} {ty tt : TypeId} {x y : Operand} {p : String} {af : Array Edge} (ho : ops[i]? = some ⟨none, .store ty x y, tt, p, af, none⟩)
    (g : Nat) (cells : Array Value) (hx : a.eval x = .pointer (some ⟨g, 0, none⟩)) (hy : a.eval y = .agg cells)
    (t : TypeId) (old : Array Value) (hg : w.heap[g]? = some (.cells old t (0, 0))) (hi : (P.info? ty).map (·.size) = some cells.size)
    (hold : old.size = cells.size) (h1 : cells.all (·.oneCell') = true) (h : K a (w.setRow g cells)) : wpOp P ops Q i K a w :=
  wpOp_plain ho rfl (wp_store_row (o := ⟨none, .store ty x y, tt, p, af, none⟩) ty x y rfl g cells hx hy t old hg hi hold h1 h)
theorem getD_set {D : Array Bool} {i : Nat} (h : i < D.size) (k : Nat) : (D.setIfInBounds i true).getD k false = (decide (k = i) || D.getD k false) := by
  by_cases e : k = i
  · subst e; simp [Array.getD, h]
  · rw [decide_eq_false e, Bool.false_or, Array.getD_eq_getD_getElem?, Array.getD_eq_getD_getElem?, Array.getElem?_setIfInBounds_ne (fun x => e x.symm)]
end Go.Proofs.YtgkhfpkfjajdjaaDoor

/- A region that draws its order, each operation told by what its value is good for: whatever the order, all values are there at the end. For whatever program. -/
namespace Go.Proofs.YtgkhfpkfjajdjaaDoor
open Go.RowKit

theorem put_comm (a : Act) (d e : Option Tmp) (u v : Value) (h : d = none ∨ e = none ∨ d ≠ e) : (a.put d u).put e v = (a.put e v).put d u := by
  cases d with
  | none => rfl
  | some d =>
    cases e with
    | none => rfl
    | some e =>
      have hne : d ≠ e := by
        rcases h with h | h | h
        · cases h
        · cases h
        · exact fun he => h (by rw [he])
      simp only [Act.put]
      congr 1
      exact Array.setIfInBounds_comm _ _ hne
theorem put_again (a : Act) (d : Option Tmp) (u v : Value) : (a.put d u).put d v = a.put d v := by
  cases d with
  | none => rfl
  | some d => simp [Act.put]
/-- the frame in which the slots of operations hold the values of f -/
def putAll : Nat → List Oper → (Nat → Value) → Act → Act
  | _, [], _, a => a
  | k, o :: os, f, a => putAll (k + 1) os f (a.put o.dst (f k))
def apartDst (d : Option Tmp) (os : List Oper) : Bool := os.all fun o => d.isNone || o.dst.isNone || decide (o.dst ≠ d)
def distinctDst : List Oper → Bool
  | [] => true
  | o :: os => apartDst o.dst os && distinctDst os
theorem putAll_put (f : Nat → Value) (d : Option Tmp) (v : Value) : ∀ (os : List Oper) (k : Nat) (a : Act), apartDst d os = true → (putAll k os f a).put d v = putAll k os f (a.put d v)
  | [], _, _, _ => rfl
  | o :: os, k, a, h => by
    unfold apartDst at h
    rw [List.all_cons, Bool.and_eq_true] at h
    simp only [putAll]
    rw [putAll_put f d v os (k + 1) (a.put o.dst (f k)) h.2, put_comm]
    have h1 := h.1
    simp only [Bool.or_eq_true, decide_eq_true_eq] at h1
    rcases h1 with (h1 | h1) | h1
    · exact .inr (.inl (by simpa using h1))
    · exact .inl (by simpa using h1)
    · exact .inr (.inr h1)
theorem putAll_congr {f g : Nat → Value} : ∀ (os : List Oper) (k : Nat) (a : Act), (∀ j, k ≤ j → f j = g j) → putAll k os f a = putAll k os g a
  | [], _, _, _ => rfl
  | o :: os, k, a, h => by
    simp only [putAll]
    rw [h k (Nat.le_refl _)]
    exact putAll_congr os (k + 1) _ fun j hj => h j (by omega)
theorem putAll_upd (f : Nat → Value) (v : Value) : ∀ (os : List Oper) (k i : Nat) (a : Act) (o : Oper), distinctDst os = true → os[i]? = some o → (putAll k os f a).put o.dst v = putAll k os (fun j => if j = k + i then v else f j) a
  | [], _, _, _, _, _, h => by simp at h
  | x :: os, k, 0, a, o, hd, h => by
    simp only [List.getElem?_cons_zero, Option.some.injEq] at h
    subst h
    unfold distinctDst at hd
    rw [Bool.and_eq_true] at hd
    simp only [putAll, Nat.add_zero, if_true]
    rw [putAll_put f x.dst v os (k + 1) _ hd.1, put_again]
    exact putAll_congr os (k + 1) _ fun j hj => by rw [if_neg (by omega)]
  | x :: os, k, i + 1, a, o, hd, h => by
    simp only [List.getElem?_cons_succ] at h
    unfold distinctDst at hd
    rw [Bool.and_eq_true] at hd
    simp only [putAll]
    rw [putAll_upd f v os (k + 1) i _ o hd.2 h, if_neg (by omega)]
    have e : (fun j => if j = k + 1 + i then v else f j) = fun j => if j = k + (i + 1) then v else f j := by
      funext j
      rw [show k + 1 + i = k + (i + 1) by omega]
    rw [e]
theorem putAll_self : ∀ (os : List Oper) (k : Nat) (a : Act), distinctDst os = true → ∃ f, putAll k os f a = a
  | [], _, a, _ => ⟨fun _ => undef, rfl⟩
  | o :: os, k, a, h => by
    unfold distinctDst at h
    rw [Bool.and_eq_true] at h
    obtain ⟨f, hf⟩ := putAll_self os (k + 1) a h.2
    have hself : ∃ u, a.put o.dst u = a := by
      cases hd : o.dst with
      | none => exact ⟨undef, rfl⟩
      | some d =>
        refine ⟨a.tmps.getD d undef, ?_⟩
        simp only [Act.put]
        by_cases hlt : d < a.tmps.size
        · have : a.tmps.setIfInBounds d (a.tmps.getD d undef) = a.tmps := by
            rw [show a.tmps.getD d undef = a.tmps[d] by simp [Array.getD, hlt]]
            exact Array.ext (by simp) fun i h1 h2 => by
              rw [Array.getElem_setIfInBounds]
              split
              · rename_i e; subst e; rfl
              · rfl
          rw [this]
        · have : a.tmps.setIfInBounds d (a.tmps.getD d undef) = a.tmps := by
            exact Array.ext (by simp) fun i h1 h2 => by
              rw [Array.getElem_setIfInBounds, if_neg (fun e => by subst e; exact hlt h2)]
          rw [this]
    obtain ⟨u, hu⟩ := hself
    refine ⟨fun j => if j = k then u else f j, ?_⟩
    simp only [putAll, if_true, hu]
    rw [putAll_congr os (k + 1) a (g := f) (fun j hj => by rw [if_neg (by omega)]), hf]
/-- operation o waits for operation j -/
def depOn (o : Oper) (j : Nat) : Bool := o.after.any fun e => Region.binds .any e && e.on == j
theorem wp_region_vals {P : Program} {ops : List Oper} {Q : Exit → Act → World → Prop} {id : Nat} {a : Act} {w : World} (hm : P.follows .mixedOrders = true) (hb : edgesBack ops.toArray = true) (hdd : distinctDst ops = true)
    (R : World → World → Prop) (hR : ∀ {w1 w2 w3}, R w1 w2 → R w2 w3 → R w1 w3) (V : Nat → Value → World → Prop) (hV : ∀ i v w1 w2, V i v w1 → R w1 w2 → V i v w2) (h0 : R w w.drew)
    (step : ∀ i o, ops[i]? = some o → ∀ (f : Nat → Value) (w' : World), R w w' → (∀ j, depOn o j = true → V j (f j) w') → wpOp P ops.toArray Q i (fun a' w'' => ∃ v, a' = (putAll 0 ops f a).put o.dst v ∧ V i v w'' ∧ R w' w'') (putAll 0 ops f a) w')
    (fin : ∀ (f : Nat → Value) (w' : World), R w w' → (∀ i, i < ops.length → V i (f i) w') → Q .normal (putAll 0 ops f a) w') : (Code.region id ops.toArray true).wp P Q a w := by
  refine wp_region_inv_at hm hb (fun a0 D a' w' => ∃ f, a' = putAll 0 ops f a0 ∧ R w w' ∧ ∀ i, i < ops.length → D.getD i false = true → V i (f i) w') ?_ ?_ ?_
  · obtain ⟨f, hf⟩ := putAll_self ops 0 a hdd
    exact ⟨f, hf.symm, h0, fun i hi hd => by simp [Array.getD] at hd⟩
  · rintro D i ht a' w' ⟨f, rfl, hw, hf⟩
    have hi : i < ops.length := by simpa using ht.lt
    have ho : ops[i]? = some ops[i] := by simp [hi]
    have hoa : ops.toArray[i]? = some ops[i] := by simp [hi]
    have hD : i < D.size := by rw [ht.size]; exact ht.lt
    refine wpOp_mono ?_ (step i ops[i] ho f w' hw ?_)
    · rintro a'' w'' ⟨v, rfl, hv, hr⟩
      refine ⟨_, putAll_upd f v ops 0 i a ops[i] hdd ho, hR hw hr, fun j hj hd => ?_⟩
      simp only [Nat.zero_add]
      rw [getD_set hD] at hd
      by_cases e : j = i
      · subst e; simpa using hv
      · rw [if_neg e]
        rw [decide_eq_false e, Bool.false_or] at hd
        exact hV _ _ _ _ (hf j hj hd) hr
    · intro j hj
      unfold depOn at hj
      rw [Array.any_eq_true'] at hj
      obtain ⟨e, he, hq⟩ := hj
      rw [Bool.and_eq_true, beq_iff_eq] at hq
      obtain ⟨hq1, rfl⟩ := hq
      have hdeps := ht.deps
      rw [hoa] at hdeps
      simp only [Option.map_some, Option.getD_some] at hdeps
      rw [Array.all_eq_true_iff_forall_mem] at hdeps
      have h1 := hdeps e he
      rw [hq1] at h1
      simp only [Bool.not_true, Bool.false_or] at h1
      have hlt : e.on < ops.length := by
        have hb1 := List.all_eq_true.1 hb i (by simpa using hi)
        rw [hoa] at hb1
        simp only [Option.map_some, Option.getD_some] at hb1
        rw [Array.all_eq_true_iff_forall_mem] at hb1
        have h2 := hb1 e he
        rw [hq1] at h2
        simp only [Bool.not_true, Bool.false_or, decide_eq_true_eq] at h2
        omega
      exact hf e.on hlt h1
  · rintro D a' w' hs hall ⟨f, rfl, hw, hf⟩
    refine fin f w' hw fun i hi => hf i hi ?_
    have h1 := hall i (by simpa using hi)
    have hlt : i < D.size := by rw [hs]; simpa using hi
    simpa [Array.getD, hlt] using h1
/-- memory only grows -/
def Grows (w w' : World) : Prop := Below w.heap.size w w'
theorem Grows.refl (w : World) : Grows w w := Below.refl _ _
theorem Grows.trans {w w1 w2 : World} (h : Grows w w1) (h1 : Grows w1 w2) : Grows w w2 := Below.trans h (Below.mono h1 h.size)
theorem Grows.alloc {w w' : World} (h : Grows w w') (o : Obj) : Grows w (w'.alloc o) := Below.alloc h h.size o
theorem Grows.drew {w w' : World} (h : Grows w w') : Grows w w'.drew := Below.drew h
theorem Grows.of_same {w w' : World} (h : SameHeap w w') : Grows w w' := h.below _
theorem Grows.kept {w w' : World} (h : Grows w w') {k : Nat} {o : Obj} (hk : w.heap[k]? = some o) : w'.heap[k]? = some o := (h.block k (Array.getElem?_eq_some_iff.1 hk).1).trans hk
end Go.Proofs.YtgkhfpkfjajdjaaDoor

/- A walk over frames that are functions from slots to values: the rules for codes, operations, calls, loops and regions that draw. For whatever program. -/
namespace Go.Proofs.YtgkhfpkfjajdjaaDoor
open Go.RowKit

/-! frames -/
abbrev Env := Nat → Value
def upd (f : Env) (d : Nat) (v : Value) : Env := fun k => bif Nat.beq k d then v else f k
def updo (f : Env) (d : Option Nat) (v : Value) : Env := match d with
  | some d => upd f d v
  | none => f
def ev (f : Env) : Operand → Value
  | .tmp t => f t
  | .const v => v
  | .global g => .pointer (some ⟨g, 0, none⟩)
  | .func k => .func (.func k) #[] #[]
/-- the frame of a call with these arguments -/
def envOf : List Value → Env
  | [], _ => undef
  | v :: _, 0 => v
  | _ :: vs, k + 1 => envOf vs k
def updL (g : Env) : List (Nat × Value) → Env
  | [] => g
  | (k, v) :: l => upd (updL g l) k v
def EnvHas (f : Env) : List (Nat × Value) → Prop
  | [] => True
  | (k, v) :: l => f k = v ∧ EnvHas f l
theorem upd_same (f : Env) (k : Nat) : upd f k (f k) = f := by
  funext j
  unfold upd
  cases h : Nat.beq j k with
  | false => rfl
  | true => rw [Nat.eq_of_beq_eq_true h]; rfl
theorem updL_same (f : Env) : ∀ l, EnvHas f l → updL f l = f
  | [], _ => rfl
  | (k, v) :: l, h => by
    show upd (updL f l) k v = f
    rw [updL_same f l h.2, ← h.1, upd_same]
theorem EnvHas.form {f : Env} {l : List (Nat × Value)} (h : EnvHas f l) : ∃ g, f = updL g l := ⟨f, (updL_same f l h).symm⟩

structure Fr (n : Nat) (a : Act) (f : Env) : Prop where
  size : a.tmps.size = n
  nil : a.defers = []
  get : ∀ k, a.tmps.getD k undef = f k
theorem Fr.eval {n : Nat} {a : Act} {f : Env} (h : Fr n a f) : a.eval = ev f := by
  funext x
  cases x with
  | tmp t => exact h.get t
  | const v => rfl
  | global g => rfl
  | func k => rfl
theorem Fr.put {n : Nat} {a : Act} {f : Env} (h : Fr n a f) (d : Nat) (v : Value) (hd : Nat.blt d n = true) : Fr n (a.put (some d) v) (upd f d v) := by
  have hd' : d < n := by simpa [Nat.blt_eq] using hd
  refine ⟨by simp [Act.put, h.size], h.nil, fun k => ?_⟩
  show (a.tmps.setIfInBounds d v).getD k undef = upd f d v k
  unfold upd
  rw [Array.getD_eq_getD_getElem?]
  cases e : Nat.beq k d with
  | true =>
    obtain rfl := Nat.eq_of_beq_eq_true e
    simp [h.size, hd']
  | false =>
    have hne : d ≠ k := fun he => by subst he; simp at e
    rw [Array.getElem?_setIfInBounds_ne hne, ← Array.getD_eq_getD_getElem?]
    exact h.get k
theorem Fr.puto {n : Nat} {a : Act} {f : Env} (h : Fr n a f) (d : Option Nat) (v : Value) (hd : d.all (Nat.blt · n) = true) : Fr n (a.put d v) (updo f d v) := by
  cases d with
  | none => exact h
  | some d => exact h.put d v hd

/-! codes -/
abbrev Cont := Exit → Env → World → Prop
def WCQ (n : Nat) (Q : Cont) : Exit → Act → World → Prop := fun e a w => ∃ f, Fr n a f ∧ Q e f w
structure WC (n : Nat) (P : Program) (c : Code) (Q : Cont) (f : Env) (w : World) : Prop where
  out : ∀ a, Fr n a f → c.wp P (WCQ n Q) a w
def WLQ (n : Nat) (K : Env → World → Prop) : Exit → Act → World → Prop
  | .normal, a, w => ∃ f, Fr n a f ∧ K f w
  | _, _, _ => False
structure WL (n : Nat) (P : Program) (ops : Array Oper) (K : Env → World → Prop) (rest : List Oper) (f : Env) (w : World) : Prop where
  out : ∀ a, Fr n a f → wpList P ops (WLQ n K) rest a w
def thenP (K : Env → World → Prop) (Q : Cont) : Cont
  | .normal, f, w => K f w
  | e, f, w => Q e f w
structure thenQ (K : Env → World → Prop) (Q : Cont) (e : Exit) (f : Env) (w : World) : Prop where
  out : thenP K Q e f w
def blockP (id : Nat) (Q : Cont) : Cont
  | .exit id', f, w => bif Nat.beq id' id then Q .normal f w else Q (.exit id') f w
  | e, f, w => Q e f w
structure blockQ (id : Nat) (Q : Cont) (e : Exit) (f : Env) (w : World) : Prop where
  out : blockP id Q e f w
section
variable {K : Env → World → Prop} {Q : Cont} {f : Env} {w : World} {id i : Nat}
theorem then_norm (h : K f w) : thenQ K Q .normal f w := ⟨h⟩
theorem then_ret (h : Q .ret f w) : thenQ K Q .ret f w := ⟨h⟩
theorem then_exit (h : Q (.exit i) f w) : thenQ K Q (.exit i) f w := ⟨h⟩
theorem block_norm (h : Q .normal f w) : blockQ id Q .normal f w := ⟨h⟩
theorem block_ret (h : Q .ret f w) : blockQ id Q .ret f w := ⟨h⟩
theorem block_exit (h : Q .normal f w) : blockQ id Q (.exit id) f w := ⟨by show bif Nat.beq id id then Q .normal f w else Q (.exit id) f w; rw [Nat.beq_refl]; exact h⟩
theorem block_pass (hi : Nat.beq i id = false) (h : Q (.exit i) f w) : blockQ id Q (.exit i) f w := ⟨by show bif Nat.beq i id then Q .normal f w else Q (.exit i) f w; rw [hi]; exact h⟩
end

section
variable {n : Nat} {P : Program} {Q : Cont} {f : Env} {w : World}
theorem WC_mono {c : Code} {Q' : Cont} (h : WC n P c Q f w) (hq : ∀ e f w, Q e f w → Q' e f w) : WC n P c Q' f w :=
  ⟨fun a ha => wp_mono (h.out a ha) fun _ _ _ ⟨f', hf, hQ⟩ => ⟨f', hf, hq _ _ _ hQ⟩⟩
theorem WC_seq {x y : Code} (h : WC n P x (thenQ (WC n P y Q) Q) f w) : WC n P (.seq x y) Q f w := .mk fun a ha => by
  refine wp_seq (wp_mono (h.out a ha) fun e a' w' hq => ?_)
  obtain ⟨f', hf, hQ⟩ := hq
  cases e with
  | normal => exact hQ.out.out a' hf
  | exit id => exact ⟨f', hf, hQ.out⟩
  | goto l => exact ⟨f', hf, hQ.out⟩
  | ret => exact ⟨f', hf, hQ.out⟩
  | panic c => exact ⟨f', hf, hQ.out⟩
  | outgrown => exact ⟨f', hf, hQ.out⟩
theorem WC_block {id : Nat} {c : Code} (h : WC n P c (blockQ id Q) f w) : WC n P (.block id c) Q f w := .mk fun a ha => by
  refine wp_block (wp_mono (h.out a ha) fun e a' w' hq => ?_)
  obtain ⟨f', hf, hQ⟩ := hq
  cases e with
  | normal => exact ⟨f', hf, hQ.out⟩
  | exit id' =>
    show if id' = id then _ else _
    by_cases e : id' = id
    · subst e
      rw [if_pos rfl]
      have hQ' : bif Nat.beq id' id' then Q .normal f' w' else Q (.exit id') f' w' := hQ.out
      rw [Nat.beq_refl] at hQ'
      exact ⟨f', hf, hQ'⟩
    · rw [if_neg e]
      have : Nat.beq id' id = false := by
        cases h : Nat.beq id' id with
        | false => rfl
        | true => exact absurd (Nat.eq_of_beq_eq_true h) e
      have hQ' : bif Nat.beq id' id then Q .normal f' w' else Q (.exit id') f' w' := hQ.out
      rw [this] at hQ'
      exact ⟨f', hf, hQ'⟩
  | goto l => exact ⟨f', hf, hQ.out⟩
  | ret => exact ⟨f', hf, hQ.out⟩
  | panic c => exact ⟨f', hf, hQ.out⟩
  | outgrown => exact ⟨f', hf, hQ.out⟩
theorem WC_sseq {x y z : Code} (h : WC n P (.seq x y) (thenQ (WC n P z Q) Q) f w) : WC n P (.seq (.seq x y) z) Q f w := WC_seq h
theorem WC_sblock {id : Nat} {c y : Code} (h : WC n P c (blockQ id (thenQ (WC n P y Q) Q)) f w) : WC n P (.seq (.block id c) y) Q f w := WC_seq (WC_block h)
/-- a cut: what holds between two codes -/
theorem WC_cut {x y : Code} (J : Env → World → Prop) (h : WC n P x (thenQ J Q) f w) (h2 : ∀ f w, J f w → WC n P y Q f w) : WC n P (.seq x y) Q f w :=
  WC_seq (WC_mono h fun e f w hq => ⟨by cases e <;> first | exact h2 _ _ hq.out | exact hq.out⟩)
theorem WC_skip (h : Q .normal f w) : WC n P .skip Q f w := ⟨fun _ ha => wp_skip ⟨f, ha, h⟩⟩
theorem WC_ret (h : Q .ret f w) : WC n P .ret Q f w := ⟨fun _ ha => wp_ret ⟨f, ha, h⟩⟩
theorem WC_exit {id : Nat} (h : Q (.exit id) f w) : WC n P (.exit id) Q f w := ⟨fun _ ha => wp_exit ⟨f, ha, h⟩⟩
theorem WC_if {c : Operand} {x y : Code} {t : Bool} (hc : ev f c = .bool t) (ht : t = true → WC n P x Q f w) (hf : t = false → WC n P y Q f w) : WC n P (.cond c x y) Q f w := .mk fun a ha =>
  wp_cond_split (t := t) (by rw [ha.eval]; exact hc) (fun h => (ht h).out a ha) (fun h => (hf h).out a ha)
theorem WC_sif {c : Operand} {x y z : Code} {t : Bool} (hc : ev f c = .bool t) (ht : t = true → WC n P x (thenQ (WC n P z Q) Q) f w) (hf : t = false → WC n P y (thenQ (WC n P z Q) Q) f w) : WC n P (.seq (.cond c x y) z) Q f w := WC_seq (WC_if hc ht hf)
theorem WC_then {c : Operand} {x y : Code} {t : Bool} (hc : ev f c = .bool t) (ht : t = true) (h : WC n P x Q f w) : WC n P (.cond c x y) Q f w :=
  WC_if hc (fun _ => h) (fun e => by rw [ht] at e; cases e)
theorem WC_else {c : Operand} {x y : Code} {t : Bool} (hc : ev f c = .bool t) (ht : t = false) (h : WC n P y Q f w) : WC n P (.cond c x y) Q f w :=
  WC_if hc (fun e => by rw [ht] at e; cases e) (fun _ => h)
theorem WC_loop {c : Code} (I : Nat → Env → World → Prop) (m : Nat) (h0 : I m f w)
    (round : ∀ m f w, I m f w → WC n P c (thenQ (fun f' w' => ∃ m', m' < m ∧ I m' f' w') Q) f w) : WC n P (.loop c) Q f w := .mk fun a ha => by
  refine wp_loop_ghost (fun k a w => ∃ f, Fr n a f ∧ I k f w) m ⟨f, ha, h0⟩ fun k a w hI => ?_
  obtain ⟨f, ha, hI⟩ := hI
  refine wp_mono ((round k f w hI).out a ha) fun e a' w' hq => ?_
  obtain ⟨f', hf, hQ⟩ := hq
  cases e with
  | normal =>
    obtain ⟨m', hm, hI'⟩ := hQ.out
    exact ⟨m', hm, f', hf, hI'⟩
  | exit id => exact ⟨f', hf, hQ.out⟩
  | goto l => exact ⟨f', hf, hQ.out⟩
  | ret => exact ⟨f', hf, hQ.out⟩
  | panic c => exact ⟨f', hf, hQ.out⟩
  | outgrown => exact ⟨f', hf, hQ.out⟩
theorem WC_region_ {id : Nat} {l : List Oper} {K : Env → World → Prop} (h : WL n P l.toArray K l f w) (hK : ∀ f w, K f w → Q .normal f w) : WC n P (.region id l.toArray false) Q f w := .mk fun a ha =>
  wp_mono (wp_region_lit (h.out a ha)) fun e a' w' hq => by
    cases e with
    | normal => obtain ⟨f', hf, hK'⟩ := hq; exact ⟨f', hf, hK _ _ hK'⟩
    | _ => exact hq.elim
theorem WC_region {id : Nat} {l : List Oper} (h : WL n P l.toArray (fun f w => Q .normal f w) l f w) : WC n P (.region id l.toArray false) Q f w := .mk fun a ha =>
  wp_mono (wp_region_lit (h.out a ha)) fun e a' w' hq => by
    cases e with
    | normal => obtain ⟨f', hf, hK⟩ := hq; exact ⟨f', hf, hK⟩
    | _ => exact hq.elim
/-- a region, and what comes behind it -/
theorem WC_rs {id : Nat} {l : List Oper} {y : Code} (h : WL n P l.toArray (fun f w => WC n P y Q f w) l f w) : WC n P (.seq (.region id l.toArray false) y) Q f w :=
  WC_seq (WC_region_ h fun _ _ hk => ⟨hk⟩)
theorem WC_skips {y : Code} (h : WC n P y Q f w) : WC n P (.seq .skip y) Q f w := WC_seq (WC_skip ⟨h⟩)

/-! operations -/
variable {ops : Array Oper} {K : Env → World → Prop} {rest : List Oper}
theorem WL_nil (h : K f w) : WL n P ops K [] f w := ⟨fun _ ha => wpList_nil ⟨f, ha, h⟩⟩
theorem WL_val {o : Oper} {d : Nat} {v : Value} {w' : World} (hg : o.guard = none) (hd : o.dst = some d) (hn : Nat.blt d n = true) (hrun : (execOp (ev f) o).run P w = .ok (.value v) w')
    (h : WL n P ops K rest (upd f d v) w') : WL n P ops K (o :: rest) f w := .mk fun a ha => by
  refine wpList_plain hg fun K' hK => ?_
  unfold Oper.wp
  rw [ha.eval, hrun]
  show K' (a.put o.dst v) w'
  rw [hd]
  exact hK _ _ (h.out _ (ha.put d v hn))
theorem WL_do {o : Oper} {w' : World} (hg : o.guard = none) (hd : o.dst = none) (hrun : (execOp (ev f) o).run P w = .ok .skip w')
    (h : WL n P ops K rest f w') : WL n P ops K (o :: rest) f w := .mk fun a ha => by
  refine wpList_plain hg fun K' hK => ?_
  unfold Oper.wp
  rw [ha.eval, hrun]
  show K' (a.put o.dst undef) w'
  rw [hd]
  exact hK _ _ (h.out _ ha)
/-- a function with a text -/
def Callable (P : Program) (k : FuncId) : Prop := ∃ fn, P.funcs[k]? = some fn ∧ (fn.name == "runtime.NumGoroutine") = false ∧ fn.body.isNone = false
theorem run_callFunc {k : FuncId} (hk : Callable P k) (args : Array Value) (w : World) : (callFunc k args).run P w = .ok (.enter k args) w := by
  obtain ⟨fn, hf, h1, h2⟩ := hk
  have h1' : ¬ fn.name = "runtime.NumGoroutine" := by simpa using h1
  have h2' : ¬ fn.body = none := fun e => by rw [e] at h2; cases h2
  simp [callFunc, program, Sem.run, hf, h1', h2', Bind.bind, Sem.bind]
theorem WL_call {d : Nat} {k : FuncId} {l : List Operand} {tys : Array TypeId} {ty : TypeId} {pos : String} {af : Array Edge} {vs : List Value} (hn : Nat.blt d n = true) (hk : Callable P k) (hv : l.map (ev f) = vs)
    (hc : Calls P k vs.toArray w fun e w' => ∃ v, e = .returned v ∧ WL n P ops K rest (upd f d v) w') : WL n P ops K (⟨some d, .call ⟨.value (.func k), l.toArray, tys⟩, ty, pos, af, none⟩ :: rest) f w := .mk fun a ha => by
  refine wpList_plain rfl fun K' hK => ?_
  unfold Oper.wp
  have hrun : (execOp a.eval ⟨some d, .call ⟨.value (.func k), l.toArray, tys⟩, ty, pos, af, none⟩).run P w = .ok (.enter k vs.toArray) w := by
    rw [ha.eval]
    have h1 := run_callFunc hk ((l.map (ev f)).toArray) w
    subst hv
    simpa [execOp, resolve, ev, Deferred.ofValue, invoke] using h1
  rw [hrun]
  refine Calls.mono hc fun e w' he => ?_
  obtain ⟨v, rfl, h⟩ := he
  exact hK _ _ (h.out _ (ha.put d v hn))
end

/-! functions -/
def RetP (P : Program) (fn : Func) (R : Ending → World → Prop) : Cont := fun e f w => match e with
  | .normal | .ret => ∃ v, (∀ tmps : Array Value, (∀ k, tmps.getD k undef = f k) → (results fn tmps).run P w = .ok v w) ∧ R (.returned v) w
  | _ => False
structure RetQ (P : Program) (fn : Func) (R : Ending → World → Prop) (e : Exit) (f : Env) (w : World) : Prop where
  out : RetP P fn R e f w
theorem envOf_get (n : Nat) : ∀ (l : List Value) (k : Nat), (l.toArray ++ Array.replicate (n - l.toArray.size) undef).getD k undef = envOf l k := by
  intro l k
  rw [Array.getD_eq_getD_getElem?]
  have h2 : ∀ (l : List Value) (k : Nat), (l[k]?).getD undef = envOf l k := by
    intro l
    induction l with
    | nil => intro k; rfl
    | cons v l ih =>
      intro k
      cases k with
      | zero => rfl
      | succ k => simpa [envOf] using ih k
  rw [← h2 l k]
  by_cases hk : k < l.length
  · rw [Array.getElem?_append_left (by simpa using hk)]; simp
  · rw [Array.getElem?_append_right (by simp; omega)]
    have : l[k]? = none := by simp; omega
    rw [this, Array.getElem?_replicate]
    split <;> rfl
theorem calls_of_WC {P : Program} {k : FuncId} {fn : Func} {c : Code} {l : List Value} {w : World} {R : Ending → World → Prop} {n : Nat} (hf : P.funcs[k]? = some fn) (hb : fn.body = some c) (hn : fn.ntmps = n) (hl : Nat.ble l.length n = true)
    (h : WC n P c (RetQ P fn R) (envOf l) w) : Calls P k l.toArray w R := by
  refine calls_of_wp hf hb (wp_mono (h.out _ ⟨?_, rfl, fun k => ?_⟩) fun e a' w' hq => ?_)
  · have := Nat.le_of_ble_eq_true hl
    simp; omega
  · rw [hn]; exact envOf_get n l k
  · obtain ⟨f, hfr, hq⟩ := hq
    cases e with
    | normal => obtain ⟨v, h1, h2⟩ := hq.out; exact ⟨hfr.nil, v, h1 _ hfr.get, h2⟩
    | ret => obtain ⟨v, h1, h2⟩ := hq.out; exact ⟨hfr.nil, v, h1 _ hfr.get, h2⟩
    | _ => exact hq.out.elim
section
variable {P : Program} {fn : Func} {R : Ending → World → Prop} {f : Env} {w : World}
theorem retP {v : Value} (h1 : ∀ tmps : Array Value, (∀ k, tmps.getD k undef = f k) → (results fn tmps).run P w = .ok v w) (h2 : R (.returned v) w) : RetQ P fn R .ret f w := ⟨by unfold RetP; exact ⟨v, h1, h2⟩⟩
theorem ret1 {t : Tmp} {v : Value} (hr : fn.results = #[.tmp t]) (hv : f t = v) (h : R (.returned v) w) : RetQ P fn R .ret f w := by
  refine retP (fun tmps ht => ?_) h
  simp [results, hr]
  rw [← hv, ← ht t]; simp
theorem ret2 {t u : Tmp} {v1 v2 : Value} (hr : fn.results = #[.tmp t, .tmp u]) (hv1 : f t = v1) (hv2 : f u = v2) (h : R (.returned (.tuple #[v1, v2])) w) : RetQ P fn R .ret f w := by
  refine retP (fun tmps ht => ?_) h
  simp [results, hr]
  rw [← hv1, ← ht t, ← hv2, ← ht u]; simp
theorem ret3 {t u x : Tmp} {v1 v2 v3 : Value} (hr : fn.results = #[.tmp t, .tmp u, .tmp x]) (hv1 : f t = v1) (hv2 : f u = v2) (hv3 : f x = v3) (h : R (.returned (.tuple #[v1, v2, v3])) w) : RetQ P fn R .ret f w := by
  refine retP (fun tmps ht => ?_) h
  simp [results, hr]
  rw [← hv1, ← ht t, ← hv2, ← ht u, ← hv3, ← ht x]; simp
theorem ret0 (hr : fn.results = #[]) (h : R (.returned (.tuple #[])) w) : RetQ P fn R .ret f w := by
  refine retP (fun tmps ht => ?_) h
  simp [results, hr]
theorem retc {p : Tmp} {ty : TypeId} {g : Nat} {t : TypeId} {cs : Array Value} {fr : Nat × Nat} {d : TypeDesc} (hr : fn.results = #[.cell p ty]) (hp : f p = .pointer (some ⟨g, 0, none⟩)) (hg : w.heap[g]? = some (.cells cs t fr))
    (hu : P.underlying ty = some d) (hd : (match d with | .struct _ | .array _ _ => true | _ => false) = true) (hi : (P.info? ty).map (·.size) = some cs.size) (h : R (.returned (.agg cs)) w) : RetQ P fn R .ret f w := by
  refine retP (fun tmps ht => ?_) h
  exact results_cell_row hr tmps w g t cs fr d ((ht p).trans hp) hg hu hd hi
end
end Go.Proofs.YtgkhfpkfjajdjaaDoor

/- Regions that draw their order, in the walk over frames that are functions: each operation is walked by itself. For whatever program. -/
namespace Go.Proofs.YtgkhfpkfjajdjaaDoor
open Go.RowKit

theorem Fr.ext {n : Nat} {a b : Act} {f : Env} (h : Fr n a f) (h' : Fr n b f) : a = b := by
  obtain ⟨ta, da⟩ := a
  obtain ⟨tb, db⟩ := b
  have e1 : da = db := h.nil.trans h'.nil.symm
  have e2 : ta = tb := by
    refine Array.ext (h.size.trans h'.size.symm) fun i h1 h2 => ?_
    have ga := h.get i
    have gb := h'.get i
    have h1' : i < ta.size := h1
    have h2' : i < tb.size := h2
    simp only [Array.getD, h1', h2', dite_true] at ga gb
    exact ga.trans gb.symm
  rw [e1, e2]
/-- the frame in which the slots of operations hold the values of g -/
def putE : Nat → List Oper → (Nat → Value) → Env → Env
  | _, [], _, f => f
  | k, o :: os, g, f => putE (k + 1) os g (updo f o.dst (g k))
def dstsIn (n : Nat) (l : List Oper) : Bool := l.all fun o => o.dst.all (Nat.blt · n)
theorem Fr.putAll {n : Nat} {g : Nat → Value} : ∀ (l : List Oper) (k : Nat) (a : Act) (f : Env), dstsIn n l = true → Fr n a f → Fr n (putAll k l g a) (putE k l g f)
  | [], _, _, _, _, h => h
  | o :: os, k, a, f, hd, h => by
    unfold dstsIn at hd
    rw [List.all_cons, Bool.and_eq_true] at hd
    exact Fr.putAll os (k + 1) _ _ hd.2 (h.puto o.dst (g k) hd.1)
/-- what holds of the values that an operation waits for -/
def Deps (V : Nat → Value → World → Prop) (o : Oper) (g : Nat → Value) (w : World) : Prop := ∀ j, depOn o j = true → V j (g j) w
def StepsAt (n : Nat) (P : Program) (l : List Oper) (f : Env) (w : World) (R : World → World → Prop) (V : Nat → Value → World → Prop) : Nat → List Oper → Prop
  | _, [] => True
  | i, o :: os => (∀ g w', R w w' → Deps V o g w' → WL n P l.toArray (fun f' w'' => ∃ v, f' = updo (putE 0 l g f) o.dst v ∧ V i v w'' ∧ R w' w'') [o] (putE 0 l g f) w') ∧ StepsAt n P l f w R V (i + 1) os
def AllV (V : Nat → Value → World → Prop) (g : Nat → Value) (w : World) : Nat → List Oper → Prop
  | _, [] => True
  | i, _ :: os => V i (g i) w ∧ AllV V g w (i + 1) os
theorem AllV_of {V : Nat → Value → World → Prop} {g : Nat → Value} {w : World} : ∀ (os : List Oper) (i : Nat), (∀ j, j < i + os.length → V j (g j) w) → AllV V g w i os
  | [], _, _ => trivial
  | _ :: os, i, h => ⟨h i (by simp), AllV_of os (i + 1) fun j hj => h j (by simp; omega)⟩
theorem StepsAt.get {n : Nat} {P : Program} {l : List Oper} {f : Env} {w : World} {R : World → World → Prop} {V : Nat → Value → World → Prop} : ∀ (os : List Oper) (i : Nat), StepsAt n P l f w R V i os → ∀ j o, os[j]? = some o →
    ∀ g w', R w w' → Deps V o g w' → WL n P l.toArray (fun f' w'' => ∃ v, f' = updo (putE 0 l g f) o.dst v ∧ V (i + j) v w'' ∧ R w' w'') [o] (putE 0 l g f) w'
  | [], _, _, _, _, h => by simp at h
  | o :: os, i, hs, 0, o', h => by simp at h; subst h; exact hs.1
  | o :: os, i, hs, j + 1, o', h => by
    have := StepsAt.get os (i + 1) hs.2 j o' (by simpa using h)
    rwa [show i + 1 + j = i + (j + 1) by omega] at this
theorem upon_mono {P : Program} {o : Oper} {a : Act} {K K' : Act → World → Prop} {Q Q' : Exit → Act → World → Prop} (hK : ∀ a w, K a w → K' a w) (hQ : ∀ e a w, e ≠ .normal → Q e a w → Q' e a w) : ∀ r, o.upon P a K Q r → o.upon P a K' Q' r := by
  intro r h
  have hout : LetsOut Q → LetsOut Q' := fun ⟨a, w, h⟩ => ⟨a, w, hQ _ _ _ (by simp) h⟩
  cases r with
  | ok x w' =>
    cases x <;> simp only [Oper.upon] at h ⊢ <;>
      first
        | exact hK _ _ h
        | exact Calls.mono h (fun e w'' he => by cases e <;> first | exact hK _ _ he | exact hQ _ _ _ (by simp) he | exact hout he)
        | exact Rows.mono h (fun _ _ he => hK _ _ he)
  | halt x w' => cases x <;> simp only [Oper.upon] at h ⊢ <;> exact hQ _ _ _ (by simp) h
theorem WC_draw {n : Nat} {P : Program} {Q : Cont} {f : Env} {w : World} {id : Nat} {l : List Oper} (R : World → World → Prop) (V : Nat → Value → World → Prop) (hm : P.follows .mixedOrders = true) (hb : edgesBack l.toArray = true) (hdd : distinctDst l = true) (hdn : dstsIn n l = true)
    (hR : ∀ {w1 w2 w3}, R w1 w2 → R w2 w3 → R w1 w3) (hV : ∀ i v w1 w2, V i v w1 → R w1 w2 → V i v w2) (h0 : R w w.drew)
    (steps : StepsAt n P l f w R V 0 l) (fin : ∀ g w', R w w' → AllV V g w' 0 l → Q .normal (putE 0 l g f) w') : WC n P (.region id l.toArray true) Q f w := .mk fun a ha => by
  refine wp_region_vals hm hb hdd R hR V hV h0 ?_ ?_
  · intro i o ho g w' hw hd
    have hWL := (StepsAt.get l 0 steps i o ho g w' hw hd).out _ (ha.putAll l 0 a f hdn)
    simp only [Nat.zero_add] at hWL
    have hoa : l.toArray[i]? = some o := by simpa using ho
    have hdo : o.dst.all (Nat.blt · n) = true := List.all_eq_true.1 hdn o (List.mem_of_getElem? ho)
    have hput : ∀ a'' w'', wpList P l.toArray (WLQ n fun f' w'' => ∃ v, f' = updo (putE 0 l g f) o.dst v ∧ V i v w'' ∧ R w' w'') [] a'' w'' → ∃ v, a'' = (putAll 0 l g a).put o.dst v ∧ V i v w'' ∧ R w' w'' := by
      intro a'' w'' h
      obtain ⟨f', hf', v, rfl, hv, hr⟩ := h
      exact ⟨v, Fr.ext hf' ((ha.putAll l 0 a f hdn).puto o.dst v hdo), hv, hr⟩
    unfold wpOp
    rw [hoa]
    unfold wpList at hWL
    simp only
    split
    · rename_i hw
      rw [if_pos hw] at hWL
      rcases hWL with h | ⟨_, a1, w1, h⟩
      · exact .inl (upon_mono hput (fun e _ _ he h => by cases e <;> first | exact absurd rfl he | exact h.elim) _ h)
      · exact h.elim
    · rename_i hw
      rw [if_neg hw] at hWL
      exact hput _ _ hWL
  · intro g w' hw hall
    exact ⟨_, ha.putAll l 0 a f hdn, fin g w' hw (AllV_of l 0 fun j hj => hall j (by omega))⟩
/-- a guard that bids the operation be done -/
theorem WL_wanted {n : Nat} {P : Program} {ops : Array Oper} {K : Env → World → Prop} {rest : List Oper} {f : Env} {w : World} {d : Option Nat} {op : Op} {ty : TypeId} {pos : String} {af : Array Edge} {j dj : Nat} {b : Bool} (hj : (ops[j]?).bind (·.dst) = some dj) (hf : f dj = .bool b)
    (h : WL n P ops K (⟨d, op, ty, pos, af, none⟩ :: rest) f w) (hn : Nat.blt dj n = true := by rfl) : WL n P ops K (⟨d, op, ty, pos, af, some (j, b)⟩ :: rest) f w := .mk fun a ha => by
  have hh := h.out a ha
  have hdn : dj < a.tmps.size := by rw [ha.size]; simpa [Nat.blt_eq] using hn
  have hy : yielded ops a.tmps j = some b := by
    unfold yielded
    rw [hj]
    have hg := ha.get dj
    simp only [Array.getD, hdn, dite_true] at hg
    have : a.tmps[dj]? = some (.bool b) := by
      rw [Array.getElem?_eq_getElem hdn]
      exact congrArg some (hg.trans hf)
    simp [this]
  unfold wpList at hh ⊢
  rw [if_pos (by simp [Region.wanted])] at hh
  rw [if_pos (by simp [Region.wanted, hy])]
  exact hh
/-- a guard that bids it be left out -/
theorem WL_unwanted {n : Nat} {P : Program} {ops : Array Oper} {K : Env → World → Prop} {rest : List Oper} {f : Env} {w : World} {d : Nat} {op : Op} {ty : TypeId} {pos : String} {af : Array Edge} {j dj : Nat} {b c : Bool} (hj : (ops[j]?).bind (·.dst) = some dj) (hf : f dj = .bool c) (hc : c = !b)
    (h : WL n P ops K rest (upd f d undef) w) (hn : Nat.blt dj n = true := by rfl) (hd : Nat.blt d n = true := by rfl) : WL n P ops K (⟨some d, op, ty, pos, af, some (j, b)⟩ :: rest) f w := .mk fun a ha => by
  have hh := h.out _ (ha.put d undef hd)
  have hdn : dj < a.tmps.size := by rw [ha.size]; simpa [Nat.blt_eq] using hn
  have hy : yielded ops a.tmps j = some c := by
    unfold yielded
    rw [hj]
    have hg := ha.get dj
    simp only [Array.getD, hdn, dite_true] at hg
    have : a.tmps[dj]? = some (.bool c) := by
      rw [Array.getElem?_eq_getElem hdn]
      exact congrArg some (hg.trans hf)
    simp [this]
  unfold wpList
  rw [if_neg (by subst hc; simp [Region.wanted, hy])]
  exact hh
end Go.Proofs.YtgkhfpkfjajdjaaDoor

/- The rules for single operations. For whatever program: what is asked of types stands in small classes. -/
namespace Go.Proofs.YtgkhfpkfjajdjaaDoor
open Go.RowKit

/-! types -/
class TyInt (P : Program) (t : TypeId) (k : outParam IntKind) : Prop where
  u : P.underlying t = some (.int k)
class TyOne (P : Program) (t : TypeId) : Prop where
  u : ∃ d, P.underlying t = some d ∧ (match d with | .struct _ | .array _ _ => true | _ => false) = false
  s : (P.info? t).map (·.size) = some 1
class TyAgg (P : Program) (t : TypeId) (k : outParam Nat) : Prop where
  u : ∃ d, P.underlying t = some d ∧ (match d with | .struct _ | .array _ _ => true | _ => false) = true
  s : (P.info? t).map (·.size) = some k
class TyFld (P : Program) (t : TypeId) (i : Nat) (off : outParam Nat) : Prop where
  u : ∃ fields fl k, P.underlying t = some (.struct fields) ∧ fields[i]? = some fl ∧ fl.offset = off ∧ (P.info? fl.type).map (·.size) = some (k + 1)
class TySl (P : Program) (t : TypeId) (e : outParam TypeId) (k : outParam Nat) : Prop where
  u : P.underlying t = some (.slice e)
  s : (P.info? e).map (·.size) = some k
class TyArr (P : Program) (t : TypeId) (len : outParam Nat) (e : outParam TypeId) (k : outParam Nat) : Prop where
  u : P.underlying t = some (.array len e)
  s : (P.info? e).map (·.size) = some k
class TyStr (P : Program) (t : TypeId) : Prop where
  u : P.underlying t = some .string
class TyZero (P : Program) (t : TypeId) (v : outParam Value) : Prop where
  z : (P.info? t).map (·.zero) = some (some v)
class CanCall (P : Program) (k : FuncId) : Prop where
  c : Callable P k

theorem info_some {P : Program} {t : TypeId} {α : Type} {g : TypeInfo → α} {x : α} (h : (P.info? t).map g = some x) : ∃ i, P.info? t = some i ∧ g i = x := by
  cases e : P.info? t with
  | none => rw [e] at h; cases h
  | some i => rw [e] at h; exact ⟨i, rfl, by simpa using h⟩
theorem runSize {P : Program} {t : TypeId} {k : Nat} (w : World) (h : (P.info? t).map (·.size) = some k) : (sizeOf t).run P w = .ok k w := by
  obtain ⟨i, hi, hk⟩ := info_some h
  simp [sizeOf, typeInfo, hi, hk]
theorem runZero {P : Program} {t : TypeId} {v : Value} [h : TyZero P t v] (w : World) : (zeroValue t).run P w = .ok v w := by
  obtain ⟨i, hi, hk⟩ := info_some h.z
  simp [zeroValue, typeInfo, hi, hk]
theorem add_addr (b o n : Nat) : (⟨b, o, none⟩ : Addr).add n = ⟨b, o + n, none⟩ := by
  unfold Addr.add
  split
  · simp_all
  · rfl

theorem run_v {P : Program} {w w' : World} {s : Sem Value} {v : Value} (h : s.run P w = .ok v w') : (do pure (Next.value (← s)) : Sem Next).run P w = .ok (.value v) w' := by
  simp [h]
section
variable {n : Nat} {P : Program} {f : Env} {w : World} {ops : Array Oper} {K : Env → World → Prop} {rest : List Oper} {d : Nat} {ty : TypeId} {pos : String} {af : Array Edge}

theorem WL_move {x : Operand} {v : Value} (hx : ev f x = v) (h : WL n P ops K rest (upd f d v) w) (hn : Nat.blt d n = true := by rfl) : WL n P ops K (⟨some d, .move x, ty, pos, af, none⟩ :: rest) f w :=
  WL_val rfl rfl hn (by subst hx; rfl) h
theorem WL_assign {x : Operand} {v : Value} (hx : ev f x = v) (h : WL n P ops K rest (upd f d v) w) (hn : Nat.blt d n = true := by rfl) : WL n P ops K (⟨some d, .assign x, ty, pos, af, none⟩ :: rest) f w :=
  WL_val rfl rfl hn (by subst hx; rfl) h
theorem WL_nilCheck {x : Operand} {a : Addr} (hx : ev f x = .pointer (some a)) (h : WL n P ops K rest (upd f d (.pointer (some a))) w) (hn : Nat.blt d n = true := by rfl) : WL n P ops K (⟨some d, .nilCheck x, ty, pos, af, none⟩ :: rest) f w :=
  WL_val rfl rfl hn (by simp [execOp, hx]) h
theorem WL_pick {c a b : Operand} {t : Bool} {v u : Value} (hc : ev f c = .bool t) (ha : ev f a = v) (hb : ev f b = u) (h : WL n P ops K rest (upd f d (bif t then v else u)) w) (hn : Nat.blt d n = true := by rfl) : WL n P ops K (⟨some d, .pick c a b, ty, pos, af, none⟩ :: rest) f w :=
  WL_val rfl rfl hn (by cases t <;> simp [execOp, hc, ha, hb, asBool]) h
theorem WL_extract {x : Operand} {i : Nat} {vs : Array Value} {v : Value} (hx : ev f x = .tuple vs) (hv : vs.toList[i]? = some v) (h : WL n P ops K rest (upd f d v) w) (hn : Nat.blt d n = true := by rfl) : WL n P ops K (⟨some d, .extract x i, ty, pos, af, none⟩ :: rest) f w :=
  WL_val rfl rfl hn (by have hv' : vs[i]? = some v := (by simpa using hv); simp [execOp, hx, Instr.extract, hv']) h
/-! integers -/
theorem WL_lss {t u : TypeId} {x y : Operand} {k : IntKind} {a b : Int} (hx : ev f x = .int k a) (hy : ev f y = .int k b) (h : WL n P ops K rest (upd f d (.bool (decide (a < b)))) w) (hn : Nat.blt d n = true := by rfl) : WL n P ops K (⟨some d, .binOp .lss t x y u, ty, pos, af, none⟩ :: rest) f w :=
  WL_val rfl rfl hn (by simp [execOp, hx, hy, eqGuard, binOp, Op.intCmp]) h
theorem WL_leq {t u : TypeId} {x y : Operand} {k : IntKind} {a b : Int} (hx : ev f x = .int k a) (hy : ev f y = .int k b) (h : WL n P ops K rest (upd f d (.bool (decide (a ≤ b)))) w) (hn : Nat.blt d n = true := by rfl) : WL n P ops K (⟨some d, .binOp .leq t x y u, ty, pos, af, none⟩ :: rest) f w :=
  WL_val rfl rfl hn (by simp [execOp, hx, hy, eqGuard, binOp, Op.intCmp]) h
theorem WL_gtr {t u : TypeId} {x y : Operand} {k : IntKind} {a b : Int} (hx : ev f x = .int k a) (hy : ev f y = .int k b) (h : WL n P ops K rest (upd f d (.bool (decide (b < a)))) w) (hn : Nat.blt d n = true := by rfl) : WL n P ops K (⟨some d, .binOp .gtr t x y u, ty, pos, af, none⟩ :: rest) f w :=
  WL_val rfl rfl hn (by simp [execOp, hx, hy, eqGuard, binOp, Op.intCmp]) h
theorem WL_geq {t u : TypeId} {x y : Operand} {k : IntKind} {a b : Int} (hx : ev f x = .int k a) (hy : ev f y = .int k b) (h : WL n P ops K rest (upd f d (.bool (decide (b ≤ a)))) w) (hn : Nat.blt d n = true := by rfl) : WL n P ops K (⟨some d, .binOp .geq t x y u, ty, pos, af, none⟩ :: rest) f w :=
  WL_val rfl rfl hn (by simp [execOp, hx, hy, eqGuard, binOp, Op.intCmp]) h
theorem WL_eql {t u : TypeId} {x y : Operand} {k : IntKind} {a b : Int} (hx : ev f x = .int k a) (hy : ev f y = .int k b) (h : WL n P ops K rest (upd f d (.bool (a == b))) w) (hn : Nat.blt d n = true := by rfl) : WL n P ops K (⟨some d, .binOp .eql t x y u, ty, pos, af, none⟩ :: rest) f w :=
  WL_val rfl rfl hn (by simp [execOp, hx, hy, eqGuard, binOp, Op.intCmp]) h
theorem WL_neq {t u : TypeId} {x y : Operand} {k : IntKind} {a b : Int} (hx : ev f x = .int k a) (hy : ev f y = .int k b) (h : WL n P ops K rest (upd f d (.bool (a != b))) w) (hn : Nat.blt d n = true := by rfl) : WL n P ops K (⟨some d, .binOp .neq t x y u, ty, pos, af, none⟩ :: rest) f w :=
  WL_val rfl rfl hn (by simp [execOp, hx, hy, eqGuard, binOp, Op.intCmp]) h
theorem WL_add {t u : TypeId} {x y : Operand} {k : IntKind} {a b c : Int} (hx : ev f x = .int k a) (hy : ev f y = .int k b) (hc : k.wrap (a + b) = c) (h : WL n P ops K rest (upd f d (.int k c)) w) (hn : Nat.blt d n = true := by rfl) : WL n P ops K (⟨some d, .binOp .add t x y u, ty, pos, af, none⟩ :: rest) f w :=
  WL_val rfl rfl hn (by simp [execOp, hx, hy, eqGuard, binOp, Op.intArith, hc]) h
theorem WL_sub {t u : TypeId} {x y : Operand} {k : IntKind} {a b c : Int} (hx : ev f x = .int k a) (hy : ev f y = .int k b) (hc : k.wrap (a - b) = c) (h : WL n P ops K rest (upd f d (.int k c)) w) (hn : Nat.blt d n = true := by rfl) : WL n P ops K (⟨some d, .binOp .sub t x y u, ty, pos, af, none⟩ :: rest) f w :=
  WL_val rfl rfl hn (by simp [execOp, hx, hy, eqGuard, binOp, Op.intArith, hc]) h
/-- a counter goes up -/
theorem WL_inc {t u : TypeId} {x : Operand} {i : Nat} (hx : ev f x = .int .i64 (i : Int)) (hi : i < 9223372036854775807) (h : WL n P ops K rest (upd f d (.int .i64 ((i + 1 : Nat) : Int))) w) (hn : Nat.blt d n = true := by rfl) : WL n P ops K (⟨some d, .binOp .add t x (.const (.int .i64 1)) u, ty, pos, af, none⟩ :: rest) f w :=
  WL_add hx rfl (by rw [IntWalk.i64_in _ (by omega)]; push_cast; rfl) h hn
/-- whatever operation on two integers, its value told -/
theorem WL_bin {op : BinOp} {t u : TypeId} {x y : Operand} {v1 v2 v : Value} (hx : ev f x = v1) (hy : ev f y = v2) (hr : (do eqGuard op t x y v1 v2; binOp op t v1 v2).run P w = .ok v w) (h : WL n P ops K rest (upd f d v) w) (hn : Nat.blt d n = true := by rfl) : WL n P ops K (⟨some d, .binOp op t x y u, ty, pos, af, none⟩ :: rest) f w :=
  WL_val rfl rfl hn (by subst hx; subst hy; exact run_v hr) h
theorem WL_conv {s t : TypeId} {x : Operand} {k j : IntKind} {a c : Int} [hs : TyInt P s k] [ht : TyInt P t j] (hx : ev f x = .int k a) (hc : j.wrap a = c) (h : WL n P ops K rest (upd f d (.int j c)) w) (hn : Nat.blt d n = true := by rfl) : WL n P ops K (⟨some d, .convert s t x, ty, pos, af, none⟩ :: rest) f w :=
  WL_val rfl rfl hn (by simp [execOp, hx, convert, run_underlying hs.u, run_underlying ht.u, Conv.intToInt, hc]) h
theorem WL_conv_any {s t : TypeId} {x : Operand} {u v : Value} (hx : ev f x = u) (hc : (convert s t u).run P w = .ok v w) (h : WL n P ops K rest (upd f d v) w) (hn : Nat.blt d n = true := by rfl) : WL n P ops K (⟨some d, .convert s t x, ty, pos, af, none⟩ :: rest) f w :=
  WL_val rfl rfl hn (by subst hx; simp [execOp, hc]) h
theorem WL_not {t : TypeId} {x : Operand} {b : Bool} (hx : ev f x = .bool b) (h : WL n P ops K rest (upd f d (.bool (!b))) w) (hn : Nat.blt d n = true := by rfl) : WL n P ops K (⟨some d, .unOp .not t x, ty, pos, af, none⟩ :: rest) f w :=
  WL_val rfl rfl hn (by simp [execOp, hx, Op.unary]) h
/-! places -/
theorem WL_field {t : TypeId} {x : Operand} {i b o off : Nat} [ht : TyFld P t i off] (hx : ev f x = .pointer (some ⟨b, o, none⟩)) (h : WL n P ops K rest (upd f d (.pointer (some ⟨b, o + off, none⟩))) w) (hn : Nat.blt d n = true := by rfl) : WL n P ops K (⟨some d, .fieldAddr t x i, ty, pos, af, none⟩ :: rest) f w := by
  obtain ⟨fields, fl, k, h1, h2, h3, h4⟩ := ht.u
  refine WL_val rfl rfl hn ?_ h
  simp [execOp, hx, Instr.fieldAt, run_underlying h1, h2, Instr.sureAddr, fieldPlace, runSize w h4, h3, add_addr]
theorem WL_index {t e : TypeId} {x y : Operand} {b o len cap k i : Nat} {ik : IntKind} [ht : TySl P t e k] (hx : ev f x = .slice (some ⟨b, o, none⟩) len cap) (hy : ev f y = .int ik (i : Int)) (hi : i < len) (h : WL n P ops K rest (upd f d (.pointer (some ⟨b, o + i * k, none⟩))) w) (hn : Nat.blt d n = true := by rfl) : WL n P ops K (⟨some d, .indexAddr t x y, ty, pos, af, none⟩ :: rest) f w := by
  refine WL_val rfl rfl hn ?_ h
  have h1 : (0 : Int) ≤ (i : Int) ∧ (i : Int) < (len : Int) := by omega
  simp [execOp, hx, hy, Instr.indexAt, asIntOf, run_underlying ht.u, hi, runSize w ht.s, add_addr]
theorem WL_indexArr {t e : TypeId} {x y : Operand} {b o len k i : Nat} {ik : IntKind} [ht : TyArr P t len e k] (hx : ev f x = .pointer (some ⟨b, o, none⟩)) (hy : ev f y = .int ik (i : Int)) (hi : i < len) (h : WL n P ops K rest (upd f d (.pointer (some ⟨b, o + i * k, none⟩))) w) (hn : Nat.blt d n = true := by rfl) : WL n P ops K (⟨some d, .indexAddr t x y, ty, pos, af, none⟩ :: rest) f w := by
  refine WL_val rfl rfl hn ?_ h
  simp [execOp, hx, hy, Instr.indexAt, Instr.sureAddr, asIntOf, run_underlying ht.u, hi, runSize w ht.s, add_addr]
theorem WL_len {x : Operand} {ao : Option Addr} {len cap k : Nat} {t e : TypeId} [ht : TySl P t e k] (hx : ev f x = .slice ao len cap) (h : WL n P ops K rest (upd f d (.int .i64 (len : Int))) w) (hn : Nat.blt d n = true := by rfl) : WL n P ops K (⟨some d, .call ⟨.builtin .len, #[x], #[t]⟩, ty, pos, af, none⟩ :: rest) f w :=
  WL_val rfl rfl hn (by simp [execOp, resolve, hx, invoke, builtin, Builtin.len_, goInt, run_underlying ht.u]) h
theorem WL_lenStr {x : Operand} {bs : ByteArray} {t : TypeId} [ht : TyStr P t] (hx : ev f x = .string bs) (h : WL n P ops K rest (upd f d (.int .i64 (bs.size : Int))) w) (hn : Nat.blt d n = true := by rfl) : WL n P ops K (⟨some d, .call ⟨.builtin .len, #[x], #[t]⟩, ty, pos, af, none⟩ :: rest) f w :=
  WL_val rfl rfl hn (by simp [execOp, resolve, hx, invoke, builtin, Builtin.len_, goInt, run_underlying ht.u]) h
/-! memory -/
theorem WL_load {t tb : TypeId} {x : Operand} {b o : Nat} {cs : Array Value} {fr : Nat × Nat} {v : Value} [ht : TyOne P t] (hx : ev f x = .pointer (some ⟨b, o, none⟩)) (hb : w.heap[b]? = some (.cells cs tb fr)) (hv : cs.toList[o]? = some v) (h : WL n P ops K rest (upd f d v) w) (hn : Nat.blt d n = true := by rfl) : WL n P ops K (⟨some d, .load t x, ty, pos, af, none⟩ :: rest) f w := by
  obtain ⟨dd, h1, h2⟩ := ht.u
  refine WL_val rfl rfl hn ?_ h
  have hc := (cell_of_row w b o cs tb fr hb).trans (by simpa using hv)
  cases dd <;> first | (simp at h2; done) | simp [execOp, hx, Instr.loadAt, Instr.sureAddr, loadVar, isAgg, run_underlying h1, load, Sem.run, hc]
theorem WL_load_cell {t : TypeId} {x : Operand} {a : Addr} {v : Value} [ht : TyOne P t] (hx : ev f x = .pointer (some a)) (hc : w.cell? a = some v) (h : WL n P ops K rest (upd f d v) w) (hn : Nat.blt d n = true := by rfl) : WL n P ops K (⟨some d, .load t x, ty, pos, af, none⟩ :: rest) f w := by
  obtain ⟨dd, h1, h2⟩ := ht.u
  refine WL_val rfl rfl hn ?_ h
  cases dd <;> first | (simp at h2; done) | simp [execOp, hx, Instr.loadAt, Instr.sureAddr, loadVar, isAgg, run_underlying h1, load, Sem.run, hc]
theorem runLoadAgg {t : TypeId} {a : Addr} {l : List Value} {k : Nat} [ht : TyAgg P t k] (w : World) (hk : l.length = k) (hc : ∀ j v, l[j]? = some v → w.cell? (a.add j) = some v) : (loadVar t a).run P w = .ok (.agg l.toArray) w := by
  obtain ⟨dd, h1, h2⟩ := ht.u
  have hl := run_loadCells_list (P := P) w a l hc
  rw [hk] at hl
  cases dd <;> first | (simp at h2; done) | simp [loadVar, isAgg, run_underlying h1, runSize w ht.s, hl]
theorem WL_loadAgg {t : TypeId} {x : Operand} {a : Addr} {l : List Value} {k : Nat} [ht : TyAgg P t k] (hx : ev f x = .pointer (some a)) (hk : l.length = k) (hc : ∀ j v, l[j]? = some v → w.cell? (a.add j) = some v) (h : WL n P ops K rest (upd f d (.agg l.toArray)) w) (hn : Nat.blt d n = true := by rfl) : WL n P ops K (⟨some d, .load t x, ty, pos, af, none⟩ :: rest) f w := by
  refine WL_val rfl rfl hn ?_ h
  simp [execOp, hx, Instr.loadAt, Instr.sureAddr, runLoadAgg w hk hc]
/-- cells of a block, from a place on -/
theorem cells_part {b o k : Nat} {cs : Array Value} {tb : TypeId} {fr : Nat × Nat} (hb : w.heap[b]? = some (.cells cs tb fr)) : ∀ j v, ((cs.toList.drop o).take k)[j]? = some v → w.cell? ((⟨b, o, none⟩ : Addr).add j) = some v := by
  intro j v hj
  rw [add_addr, cell_of_row w b (o + j) cs tb fr hb]
  rw [List.getElem?_take] at hj
  split at hj
  · rw [List.getElem?_drop] at hj
    simpa using hj
  · cases hj
/-- a struct out of a block that holds more -/
theorem WL_loadPart {t tb : TypeId} {x : Operand} {b o k : Nat} {cs : Array Value} {fr : Nat × Nat} {l : List Value} [ht : TyAgg P t k] (hx : ev f x = .pointer (some ⟨b, o, none⟩)) (hb : w.heap[b]? = some (.cells cs tb fr)) (hl : (cs.toList.drop o).take k = l) (hk : l.length = k) (h : WL n P ops K rest (upd f d (.agg l.toArray)) w) (hn : Nat.blt d n = true := by rfl) : WL n P ops K (⟨some d, .load t x, ty, pos, af, none⟩ :: rest) f w :=
  WL_loadAgg hx hk (hl ▸ cells_part hb) h hn
theorem WL_loadRow {t tb : TypeId} {x : Operand} {b k : Nat} {cs : Array Value} {fr : Nat × Nat} [ht : TyAgg P t k] (hx : ev f x = .pointer (some ⟨b, 0, none⟩)) (hb : w.heap[b]? = some (.cells cs tb fr)) (hk : cs.size = k) (h : WL n P ops K rest (upd f d (.agg cs)) w) (hn : Nat.blt d n = true := by rfl) : WL n P ops K (⟨some d, .load t x, ty, pos, af, none⟩ :: rest) f w := by
  have e : ((cs.toList.drop 0).take k) = cs.toList := by rw [List.drop_zero, List.take_of_length_le (by simp; omega)]
  exact WL_loadPart hx hb e (by simpa using hk) (by simpa using h) hn
theorem WL_box {t : TypeId} {x : Operand} {v : Value} (hx : ev f x = v) (h : ∀ b w', w.heap.size ≤ b → w'.heap[b]? = some (.cells v.cells t (0, 0)) → Grows w w' → WL n P ops K rest (upd f d (.pointer (some ⟨b, 0, none⟩))) w') (hn : Nat.blt d n = true := by rfl) : WL n P ops K (⟨some d, .box t x, ty, pos, af, none⟩ :: rest) f w := by
  refine WL_val (w' := w.alloc (.cells v.cells t)) (v := .pointer (some ⟨w.heap.size, 0, none⟩)) rfl rfl hn ?_ (h _ _ (Nat.le_refl _) (heap_alloc_new _ _) ((Grows.refl w).alloc _))
  subst hx
  rfl
theorem WL_alloc {t : TypeId} {v : Value} [ht : TyZero P t v] (h : ∀ b w', w.heap.size ≤ b → w'.heap[b]? = some (.cells v.cells t (0, 0)) → Grows w w' → WL n P ops K rest (upd f d (.pointer (some ⟨b, 0, none⟩))) w') (hn : Nat.blt d n = true := by rfl) : WL n P ops K (⟨some d, .alloc t, ty, pos, af, none⟩ :: rest) f w := by
  refine WL_val (w' := w.alloc (.cells v.cells t)) (v := .pointer (some ⟨w.heap.size, 0, none⟩)) rfl rfl hn ?_ (h _ _ (Nat.le_refl _) (heap_alloc_new _ _) ((Grows.refl w).alloc _))
  have hz := runZero (P := P) (t := t) w
  show (do pure (Next.value (← Instr.alloc t true (.tuple #[]))) : Sem Next).run P w = _
  refine run_v ?_
  simp only [Instr.alloc, Sem.run_bind, hz, Result.andThen_ok]
  rfl
/-- block b alone was written -/
def Wrote (b : Nat) (w w' : World) : Prop := Chg (· = b) w w'
theorem splice_all {cs : Array Value} (l : List Value) (h : l.length = cs.size) : (cs.toList.take 0 ++ l ++ cs.toList.drop (0 + l.length)).toArray = l.toArray := by
  rw [List.take_zero, List.nil_append, Nat.zero_add, h, List.drop_of_length_le (by simp), List.append_nil]
theorem wrote_setRow (w : World) (b : Nat) (cs : Array Value) : Wrote b w (w.setRow b cs) :=
  ⟨rfl, rfl, rfl, by simp [World.setRow], fun k _ hk => setRow_other w b k cs hk, fun k hk => by
    by_cases e : k = b
    · obtain ⟨c, t, h⟩ := hk
      subst e
      exact ⟨cs, t, setRow_heap w k c cs t _ h⟩
    · exact hk.of_eq (setRow_other w b k cs e)⟩
theorem runStore {t tb : TypeId} {b o k : Nat} {cs : Array Value} {v : Value} {l : List Value} (hb : w.heap[b]? = some (.cells cs tb (0, 0))) (hs : (P.info? t).map (·.size) = some k) (hl : v.cells.toList = l) (hk : l.length = k) (ho : o + l.length ≤ cs.size) (h1 : ∀ u ∈ l, u.oneCell' = true) :
    (storeVar t ⟨b, o, none⟩ v).run P w = .ok () (w.setRow b (cs.toList.take o ++ l ++ cs.toList.drop (o + l.length)).toArray) := by
  have hst := run_storeCells_at P b o tb l 0 cs w hb (by simpa using ho) h1
  simp only [Nat.add_zero] at hst
  have hsz : v.cells.size = k := by rw [← hk, ← hl]; simp
  simp [storeVar, runSize w hs, hsz, hl, hst]
theorem WL_store {t tb : TypeId} {x y : Operand} {b o k : Nat} {cs : Array Value} {v : Value} {l : List Value} (hx : ev f x = .pointer (some ⟨b, o, none⟩)) (hy : ev f y = v) (hb : w.heap[b]? = some (.cells cs tb (0, 0))) (hs : (P.info? t).map (·.size) = some k) (hl : v.cells.toList = l) (hk : l.length = k) (ho : o + l.length ≤ cs.size) (h1 : ∀ u ∈ l, u.oneCell' = true)
    (h : ∀ w', Wrote b w w' → w'.heap[b]? = some (.cells (cs.toList.take o ++ l ++ cs.toList.drop (o + l.length)).toArray tb (0, 0)) → WL n P ops K rest f w') : WL n P ops K (⟨none, .store t x y, ty, pos, af, none⟩ :: rest) f w := by
  refine WL_do rfl rfl ?_ (h _ (wrote_setRow w b _) (setRow_heap w b cs _ tb _ hb))
  simp [execOp, hx, hy, Instr.storeAt, Instr.sureAddr, runStore hb hs hl hk ho h1]
/-- one cell is stored -/
theorem WL_store1 {t tb : TypeId} {x y : Operand} {b o : Nat} {cs : Array Value} {v : Value} [ht : TyOne P t] (hx : ev f x = .pointer (some ⟨b, o, none⟩)) (hy : ev f y = v) (hb : w.heap[b]? = some (.cells cs tb (0, 0))) (ho : o < cs.size) (h1 : v.oneCell' = true)
    (h : ∀ w', Wrote b w w' → w'.heap[b]? = some (.cells (cs.setIfInBounds o v) tb (0, 0)) → WL n P ops K rest f w') : WL n P ops K (⟨none, .store t x y, ty, pos, af, none⟩ :: rest) f w := by
  have hc : v.cells = #[v] := by cases v <;> first | rfl | (simp [Value.oneCell'] at h1)
  refine WL_store (l := [v]) hx hy hb ht.s (by rw [hc]) rfl (by simp; omega) (by simpa using h1) fun w' hw hb' => h w' hw ?_
  have e : (cs.toList.take o ++ [v] ++ cs.toList.drop (o + 1)).toArray = cs.setIfInBounds o v := by
    apply Array.toList_inj.1
    rw [Array.toList_setIfInBounds, List.set_eq_take_append_cons_drop, if_pos (by simpa using ho)]
    simp
  rw [← e]
  exact hb'
/-- a struct is stored over a whole block -/
theorem WL_storeRow {t tb : TypeId} {x y : Operand} {b k : Nat} {cs new : Array Value} [ht : TyAgg P t k] (hx : ev f x = .pointer (some ⟨b, 0, none⟩)) (hy : ev f y = .agg new) (hb : w.heap[b]? = some (.cells cs tb (0, 0))) (hk : new.size = k) (ho : cs.size = k) (h1 : ∀ u ∈ new.toList, u.oneCell' = true)
    (h : ∀ w', Wrote b w w' → w'.heap[b]? = some (.cells new tb (0, 0)) → WL n P ops K rest f w') : WL n P ops K (⟨none, .store t x y, ty, pos, af, none⟩ :: rest) f w := by
  refine WL_store (l := new.toList) hx hy hb ht.s rfl (by simpa using hk) (by simp; omega) h1 fun w' hw hb' => h w' hw ?_
  rw [splice_all new.toList (by simp; omega)] at hb'
  simpa using hb'
/-! calls -/
theorem WL_fun {k : FuncId} {l : List Operand} {tys : Array TypeId} {vs : List Value} [hk : CanCall P k] (hv : l.map (ev f) = vs)
    (hc : Calls P k vs.toArray w fun e w' => ∃ v, e = .returned v ∧ WL n P ops K rest (upd f d v) w') (hn : Nat.blt d n = true := by rfl) : WL n P ops K (⟨some d, .call ⟨.value (.func k), l.toArray, tys⟩, ty, pos, af, none⟩ :: rest) f w :=
  WL_call hn hk.c hv hc
end
theorem Wrote.kept {b : Nat} {w w' : World} (h : Wrote b w w') {k : Nat} {o : Obj} (hk : w.heap[k]? = some o) (hne : k ≠ b) : w'.heap[k]? = some o := Chg.kept h hk hne
theorem ne_new {w : World} {k b : Nat} {o : Obj} (hk : w.heap[k]? = some o) (hb : w.heap.size ≤ b) : k ≠ b := by
  have := (Array.getElem?_eq_some_iff.1 hk).1
  omega
theorem Grows.wrote {w0 w w' : World} {b : Nat} (h : Grows w0 w) (hw : Wrote b w w') (hb : w0.heap.size ≤ b) : Grows w0 w' :=
  ⟨hw.os.trans h.os, hw.tape.trans h.tape, hw.output.trans h.output, Nat.le_trans h.size hw.size, fun k hk => (hw.block k (Nat.lt_of_lt_of_le hk h.size) (by omega)).trans (h.block k hk)⟩
end Go.Proofs.YtgkhfpkfjajdjaaDoor

/- More rules for single operations: composite literals, append, strings, slices of slices, interfaces. For whatever program. -/
namespace Go.Proofs.YtgkhfpkfjajdjaaDoor
open Go.RowKit

/-! composite literals -/
theorem fold_set (off : Nat) : ∀ (l : List Value) (j : Nat) (cs : Array Value), off + j + l.length ≤ cs.size →
    (l.zipIdx j).foldl (fun (cs : Array Value) (x : Value × Nat) => cs.setIfInBounds (off + x.2) x.1) cs = (cs.toList.take (off + j) ++ l ++ cs.toList.drop (off + j + l.length)).toArray
  | [], j, cs, _ => by simp
  | v :: l, j, cs, h => by
    simp only [List.length_cons] at h
    rw [List.zipIdx_cons, List.foldl_cons, fold_set off l (j + 1) _ (by simp; omega)]
    congr 1
    have hlt : off + j < cs.toList.length := by simp; omega
    have e0 : (cs.setIfInBounds (off + j) v).toList = cs.toList.take (off + j) ++ v :: cs.toList.drop (off + j + 1) := by
      rw [Array.toList_setIfInBounds, List.set_eq_take_append_cons_drop, if_pos hlt]
    have hl : (cs.toList.take (off + j)).length = off + j := by rw [List.length_take]; omega
    rw [e0]
    have e1 : (cs.toList.take (off + j) ++ v :: cs.toList.drop (off + j + 1)).take (off + (j + 1)) = cs.toList.take (off + j) ++ [v] := by
      rw [show off + (j + 1) = (cs.toList.take (off + j)).length + 1 by rw [hl]; omega, List.take_length_add_append]
      rfl
    have e2 : (cs.toList.take (off + j) ++ v :: cs.toList.drop (off + j + 1)).drop (off + (j + 1) + l.length) = cs.toList.drop (off + j + (l.length + 1)) := by
      rw [show off + (j + 1) + l.length = (cs.toList.take (off + j)).length + (1 + l.length) by rw [hl]; omega, List.drop_length_add_append, show 1 + l.length = l.length + 1 by omega, List.drop_succ_cons, List.drop_drop]
      congr 1
      omega
    rw [e1, e2]
    simp
/-- values over those of a row, from a place on -/
def over (cs : List Value) (off : Nat) (l : List Value) : List Value := cs.take off ++ l ++ cs.drop (off + l.length)
theorem over_length (cs : List Value) (off : Nat) (l : List Value) (h : off + l.length ≤ cs.length) : (over cs off l).length = cs.length := by
  simp [over]; omega
def buildL (offs : List (Nat × Nat)) : List Value → List (Nat × Value) → List Value
  | cs, [] => cs
  | cs, (i, v) :: rest => buildL offs (over cs (offs.getD i (0, 0)).1 v.cells.toList) rest
def PartsOk (offs : List (Nat × Nat)) : List (Nat × Value) → Prop
  | [] => True
  | (i, v) :: rest => (∃ o, offs[i]? = some (o, v.cells.toList.length)) ∧ PartsOk offs rest
theorem fill_parts (offs : List (Nat × Nat)) (n : Nat) (hw : ∀ p ∈ offs, p.1 + p.2 ≤ n) : ∀ (vs : List (Nat × Value)) (cs : List Value), cs.length = n → PartsOk offs vs → Instr.fill (offs[·]?) cs.toArray vs = some (buildL offs cs vs).toArray
  | [], cs, _, _ => rfl
  | (i, v) :: rest, cs, hc, h => by
    obtain ⟨⟨o, ho⟩, hr⟩ := h
    have hb := hw _ (List.mem_of_getElem? ho)
    simp only [Array.length_toList] at ho hb
    have hsz : ¬ (v.cells.size ≠ v.cells.size ∨ o + v.cells.size > cs.length) := by omega
    have hg : (offs.getD i (0, 0)).1 = o := by simp [List.getD, ho]
    have hf : v.cells.zipIdx.foldl (fun (cs : Array Value) (x : Value × Nat) => cs.setIfInBounds (o + x.2) x.1) cs.toArray = (over cs o v.cells.toList).toArray := by
      rw [← Array.foldl_toList, Array.toList_zipIdx, fold_set o v.cells.toList 0 cs.toArray (by simp; omega)]
      rfl
    show (match offs[i]? with | none => none | some (off, size) => if v.cells.size ≠ size || off + v.cells.size > cs.toArray.size then none else Instr.fill (offs[·]?) (v.cells.zipIdx.foldl (fun cs (c, j) => cs.setIfInBounds (off + j) c) cs.toArray) rest) = _
    rw [ho]
    simp only [ne_eq, not_true_eq_false, decide_false, Bool.false_or, List.size_toArray]
    rw [if_neg (by simp; omega), hf, fill_parts offs n hw rest _ (by rw [over_length _ _ _ (by simp; omega)]; exact hc) hr, buildL, hg]
class TyBuild (P : Program) (t : TypeId) (zl : outParam (List Value)) (offs : outParam (List (Nat × Nat))) : Prop where
  z : (P.info? t).map (·.zero) = some (some (.agg zl.toArray))
  u : ∃ fields, P.underlying t = some (.struct fields) ∧ ∀ w, (fields.mapM fun (f : Field) => do pure (f.offset, ← sizeOf f.type)).run P w = .ok offs.toArray w
  b : ∀ p ∈ offs, p.1 + p.2 ≤ zl.length
theorem runBuild {P : Program} {t : TypeId} {zl : List Value} {offs : List (Nat × Nat)} [hb : TyBuild P t zl offs] (w : World) (vs : List (Nat × Value)) (hok : PartsOk offs vs) : (Instr.build t vs.toArray).run P w = .ok (.agg (buildL offs zl vs).toArray) w := by
  obtain ⟨fields, h1, h2⟩ := hb.u
  obtain ⟨i, hi, hz⟩ := info_some hb.z
  have hf := fill_parts offs zl.length hb.b vs zl rfl hok
  have hpl : (fun x : Nat => offs.toArray[x]?) = fun x => offs[x]? := by funext x; simp
  have hzv : (zeroValue t).run P w = .ok (.agg zl.toArray) w := by simp [zeroValue, typeInfo, hi, hz]
  unfold Instr.build
  simp only [Sem.run_bind, hzv, Result.andThen_ok, run_underlying h1, h2 w]
  simp only [Value.cells, hpl, hf]
  rfl
/-- a row of parts that lie one behind the other -/
theorem fill_row (k : Nat) : ∀ (vs : List Value) (i : Nat) (cs : Array Value), (∀ v ∈ vs, v.cells.size = k) → (i + vs.length) * k ≤ cs.size →
    Instr.fill (fun i => some (i * k, k)) cs ((vs.zipIdx i).map fun x => (x.2, x.1)) = some (cs.toList.take (i * k) ++ vs.flatMap (·.cells.toList) ++ cs.toList.drop ((i + vs.length) * k)).toArray
  | [], i, cs, _, _ => by simp [Instr.fill]
  | v :: vs, i, cs, hs, hc => by
    have hv := hs v (by simp)
    have hlen : (i + 1) * k ≤ cs.size := Nat.le_trans (Nat.mul_le_mul_right k (by simp)) hc
    have hik : i * k + k = (i + 1) * k := by rw [Nat.add_mul, Nat.one_mul]
    have hf : v.cells.zipIdx.foldl (fun (cs : Array Value) (x : Value × Nat) => cs.setIfInBounds (i * k + x.2) x.1) cs = (cs.toList.take (i * k) ++ v.cells.toList ++ cs.toList.drop (i * k + k)).toArray := by
      rw [← Array.foldl_toList, Array.toList_zipIdx, fold_set (i * k) v.cells.toList 0 cs (by simp; omega)]
      simp [hv]
    rw [List.zipIdx_cons, List.map_cons]
    show (if v.cells.size ≠ k || i * k + v.cells.size > cs.size then none else Instr.fill (fun i => some (i * k, k)) (v.cells.zipIdx.foldl (fun cs (c, j) => cs.setIfInBounds (i * k + j) c) cs) ((vs.zipIdx (i + 1)).map fun x => (x.2, x.1))) = _
    rw [if_neg (by simp [hv]; omega)]
    have hl : (cs.toList.take (i * k)).length = i * k := by simp; omega
    have hlv : v.cells.toList.length = k := by simpa using hv
    have hsz : (cs.toList.take (i * k) ++ v.cells.toList ++ cs.toList.drop (i * k + k)).toArray.size = cs.size := by
      simp only [List.size_toArray, List.length_append, hl, hlv, List.length_drop, Array.length_toList]; omega
    have hf' : v.cells.zipIdx.foldl (fun cs (c, j) => cs.setIfInBounds (i * k + j) c) cs = (cs.toList.take (i * k) ++ v.cells.toList ++ cs.toList.drop (i * k + k)).toArray := hf
    rw [hf', fill_row k vs (i + 1) _ (fun u hu => hs u (by simp [hu])) (by rw [hsz]; simpa [Nat.add_assoc, Nat.add_comm 1] using hc)]
    congr 2
    have e1 : (cs.toList.take (i * k) ++ v.cells.toList ++ cs.toList.drop (i * k + k)).take ((i + 1) * k) = cs.toList.take (i * k) ++ v.cells.toList := by
      rw [List.take_left']
      rw [List.length_append, hl, hlv]; exact hik
    have e2 : (cs.toList.take (i * k) ++ v.cells.toList ++ cs.toList.drop (i * k + k)).drop ((i + 1 + vs.length) * k) = cs.toList.drop ((i + (v :: vs).length) * k) := by
      have hk : (i + 1 + vs.length) * k = (cs.toList.take (i * k) ++ v.cells.toList).length + vs.length * k := by
        rw [List.length_append, hl, hlv, hik, Nat.add_mul (i + 1)]
      rw [hk, List.drop_length_add_append, List.drop_drop]
      congr 1
      rw [hik, ← Nat.add_mul]
      congr 1
      simp; omega
    simp only [e1, e2]
    simp
theorem runBuildSlice {P : Program} {t e : TypeId} {k : Nat} [ht : TySl P t e k] {z : Value} (hz : (P.info? e).map (·.zero) = some (some z)) (w : World) (vs : List Value) (hk : 0 < k) (h1 : vs ≠ []) (hs : ∀ v ∈ vs, v.cells.size = k) (hl : vs.length * k ≤ 2 ^ 24) :
    (Instr.buildSlice t vs.length ((vs.zipIdx 0).map fun x => (x.2, x.1)).toArray).run P w = .ok (.slice (some ⟨w.heap.size, 0, none⟩) vs.length vs.length) (w.alloc (.cells (vs.flatMap (·.cells.toList)).toArray e)) := by
  obtain ⟨i, hi, hsz⟩ := info_some ht.s
  have hz' : i.zero = some z := by rw [hi] at hz; simpa using hz
  have hpos : 0 < vs.length * k := Nat.mul_pos (List.length_pos_iff.2 h1) hk
  refine run_buildSlice w t e vs.length _ _ i z ht.u hi hz' (by rw [hsz]; omega) (by rw [hsz]; omega) ?_
  rw [hsz]
  have := fill_row k vs 0 ((Array.range (vs.length * k)).map (z.cells[· % z.cells.size]!)) hs (by simp)
  rw [this]
  congr 2
  simp
class TyLit (P : Program) (t : TypeId) (e : outParam TypeId) (k : outParam Nat) : Prop where
  u : P.underlying t = some (.slice e)
  s : (P.info? e).map (·.size) = some k
  z : ((P.info? e).bind (·.zero)).isSome = true
  p : 0 < k
class TyIf (P : Program) (t : TypeId) : Prop where
  u : P.underlying t = some (.interface (P.methodsAt t))
/-- a slice type that is appended to -/
class TyApp (P : Program) (t : TypeId) (e : outParam TypeId) (size bytes : outParam Nat) : Prop where
  u : P.underlying t = some (.slice e)
  i : (P.info? e).map (fun i => (i.zero.map (·.cells.size), i.size, i.bytes)) = some (some size, size, bytes)
  p : 0 < size
  q : 0 < bytes

section
variable {n : Nat} {P : Program} {f : Env} {w : World} {ops : Array Oper} {K : Env → World → Prop} {rest : List Oper} {d : Nat} {ty : TypeId} {pos : String} {af : Array Edge}
theorem WL_build {t : TypeId} {zl : List Value} {offs : List (Nat × Nat)} [hb : TyBuild P t zl offs] {ps : List (Nat × Operand)} {vs : List (Nat × Value)} {l : List Value} (hv : (ps.map fun p => (p.1, ev f p.2)) = vs) (hok : PartsOk offs vs) (hl : buildL offs zl vs = l) (h : WL n P ops K rest (upd f d (.agg l.toArray)) w)
    (hn : Nat.blt d n = true := by rfl) : WL n P ops K (⟨some d, .build t ps.toArray, ty, pos, af, none⟩ :: rest) f w := by
  refine WL_val rfl rfl hn ?_ h
  subst hl hv
  have := runBuild (P := P) (t := t) w _ hok
  show (do pure (Next.value (← Instr.build t (ps.toArray.map fun (i, x) => (i, ev f x)))) : Sem Next).run P w = _
  refine run_v ?_
  rw [← this]
  congr 2
  simp
/-- a slice literal, every place written -/
theorem WL_slice {t e : TypeId} {k len : Nat} [ht : TyLit P t e k] {ps : List (Nat × Operand)} {vs : List Value} (hv : (ps.map fun p => (p.1, ev f p.2)) = (vs.zipIdx 0).map fun x => (x.2, x.1)) (hne : vs ≠ []) (hl : vs.length = len) (hs : ∀ v ∈ vs, v.cells.size = k) (hk : Nat.ble (len * k) 16777216 = true)
    (h : ∀ b w', w.heap.size ≤ b → w'.heap[b]? = some (.cells (vs.flatMap (·.cells.toList)).toArray e (0, 0)) → Grows w w' → WL n P ops K rest (upd f d (.slice (some ⟨b, 0, none⟩) len len)) w') (hn : Nat.blt d n = true := by rfl) : WL n P ops K (⟨some d, .buildSlice t len ps.toArray, ty, pos, af, none⟩ :: rest) f w := by
  subst hl
  have : TySl P t e k := ⟨ht.u, ht.s⟩
  have hz0 := ht.z
  obtain ⟨z, hz⟩ : ∃ z, (P.info? e).map (·.zero) = some (some z) := by
    cases hi : P.info? e with
    | none => rw [hi] at hz0; cases hz0
    | some i =>
      rw [hi] at hz0
      cases hz1 : i.zero with
      | none => simp [hz1] at hz0
      | some z => exact ⟨z, by simp [hz1]⟩
  have hr := runBuildSlice (P := P) (t := t) hz w vs ht.p hne hs (Nat.le_of_ble_eq_true hk)
  refine WL_val rfl rfl hn ?_ (h _ _ (Nat.le_refl _) (heap_alloc_new w _) ((Grows.refl w).alloc _))
  show (do pure (Next.value (← Instr.buildSlice t vs.length (ps.toArray.map fun (i, x) => (i, ev f x)))) : Sem Next).run P w = _
  refine run_v ?_
  rw [← hr, ← hv]
  congr 2
  simp
theorem WL_slice0 {t e : TypeId} {k : Nat} [ht : TySl P t e k] (h : ∀ b w', w.heap.size ≤ b → w'.heap[b]? = some (.cells #[] e (0, 0)) → Grows w w' → WL n P ops K rest (upd f d (.slice (some ⟨b, 0, none⟩) 0 0)) w') (hn : Nat.blt d n = true := by rfl) : WL n P ops K (⟨some d, .buildSlice t 0 #[], ty, pos, af, none⟩ :: rest) f w := by
  refine WL_val rfl rfl hn ?_ (h _ _ (Nat.le_refl _) (heap_alloc_new w _) ((Grows.refl w).alloc _))
  simp [execOp, Instr.buildSlice, run_underlying ht.u, runSize w ht.s, Instr.fill, newRow, show (Array.range 0) = #[] from rfl]
theorem WL_append {t e : TypeId} {size bytes : Nat} [ht : TyApp P t e size bytes] {s x : Operand} {v y : Value} {m k : Nat} {xs news : List Value} (hs : ev f s = v) (hown : w.ownsRow 0 e size v m xs) (hx : ev f x = y) (hr : ReadsAt w size y k news) (h1 : ∀ u ∈ news, u.oneCell' = true) (hlen : Room m k bytes)
    (h : ∀ v' w', Grew w e size v m xs w' v' (m + k) (xs ++ news) → WL n P ops K rest (upd f d v') w') (hn : Nat.blt d n = true := by rfl) : WL n P ops K (⟨some d, .call ⟨.builtin .append, #[s, x], #[t, t]⟩, ty, pos, af, none⟩ :: rest) f w := by
  obtain ⟨i, z, hi, hz, hsz, hby, hzs⟩ : ∃ i z, P.info? e = some i ∧ i.zero = some z ∧ i.size = size ∧ i.bytes = bytes ∧ z.cells.size = size := by
    obtain ⟨i, hi, h2⟩ := info_some ht.i
    simp only [Prod.mk.injEq] at h2
    cases hz : i.zero with
    | none => rw [hz] at h2; simp at h2
    | some z => rw [hz] at h2; exact ⟨i, z, hi, hz, h2.2.1, h2.2.2, by simpa using h2.1⟩
  have hle : m + k ≤ maxLen := by
    have := Nat.le_mul_of_pos_right (m + k) ht.q
    have := hlen.all
    unfold maxLen; omega
  obtain ⟨v', w', hrun, hg⟩ := run_append_grew (P := P) w t ty e i z size bytes ht.u hi hz hsz hby hzs ht.p v m xs hown y k news hr h1 hle hlen
  refine WL_val rfl rfl hn ?_ (h v' w' hg)
  simp only [execOp, resolve, invoke, builtin, Sem.run_bind, Sem.run_pure, Result.andThen_ok, List.map_toArray, List.map_cons, List.map_nil, hs, hx, hrun]
/-! strings -/
theorem WL_at {t : TypeId} {x y : Operand} {bs : ByteArray} {i : Nat} {ik : IntKind} [ht : TyStr P t] (hx : ev f x = .string bs) (hy : ev f y = .int ik (i : Int)) (hi : i < bs.size) (h : WL n P ops K rest (upd f d (.int .u8 ((bs[i]).toNat : Int))) w) (hn : Nat.blt d n = true := by rfl) : WL n P ops K (⟨some d, .index t x y, ty, pos, af, none⟩ :: rest) f w := by
  refine WL_val rfl rfl hn ?_ h
  have hb : bs[i]? = some bs[i] := by simp [hi]
  simp [execOp, hx, hy, Instr.index, asIntOf, run_underlying ht.u, hb]
theorem WL_eqStr {t u : TypeId} {x y : Operand} {a b : ByteArray} (hx : ev f x = .string a) (hy : ev f y = .string b) (h : WL n P ops K rest (upd f d (.bool (a.toList == b.toList))) w) (hn : Nat.blt d n = true := by rfl) : WL n P ops K (⟨some d, .binOp .eql t x y u, ty, pos, af, none⟩ :: rest) f w :=
  WL_val rfl rfl hn (by simp [execOp, hx, hy, eqGuard, binOp, Op.stringOp]) h
/-! calls of a function value -/
theorem WL_funv {k : FuncId} {c : Operand} {l : List Operand} {tys : Array TypeId} {vs : List Value} (hk : Callable P k) (hc0 : ev f c = .func (.func k) #[] #[]) (hv : l.map (ev f) = vs)
    (hc : Calls P k vs.toArray w fun e w' => ∃ v, e = .returned v ∧ WL n P ops K rest (upd f d v) w') (hn : Nat.blt d n = true := by rfl) : WL n P ops K (⟨some d, .call ⟨.value c, l.toArray, tys⟩, ty, pos, af, none⟩ :: rest) f w := .mk fun a ha => by
  refine wpList_plain rfl fun K' hK => ?_
  unfold Oper.wp
  have hrun : (execOp a.eval ⟨some d, .call ⟨.value c, l.toArray, tys⟩, ty, pos, af, none⟩).run P w = .ok (.enter k vs.toArray) w := by
    rw [ha.eval]
    have h1 := run_callFunc hk ((l.map (ev f)).toArray) w
    subst hv
    simpa [execOp, resolve, hc0, Deferred.ofValue, invoke] using h1
  rw [hrun]
  refine Calls.mono hc fun e w' he => ?_
  obtain ⟨v, rfl, h⟩ := he
  exact hK _ _ (h.out _ (ha.put d v hn))
/-! interfaces -/
theorem WL_neqNil {t u : TypeId} {x : Operand} {tv : TypeId} {v : Value} [ht : TyIf P t] (hx : ev f x = .iface tv v) (h : WL n P ops K rest (upd f d (.bool true)) w) (hn : Nat.blt d n = true := by rfl) : WL n P ops K (⟨some d, .binOp .neq t x (.const .nilIface) u, ty, pos, af, none⟩ :: rest) f w :=
  WL_bin (v2 := .nilIface) hx rfl (by simp [eqGuard, run_neq_held_nil w t tv v ht.u]) h hn
theorem WL_neqNil0 {t u : TypeId} {x : Operand} [ht : TyIf P t] (hx : ev f x = .nilIface) (h : WL n P ops K rest (upd f d (.bool false)) w) (hn : Nat.blt d n = true := by rfl) : WL n P ops K (⟨some d, .binOp .neq t x (.const .nilIface) u, ty, pos, af, none⟩ :: rest) f w :=
  WL_bin (v2 := .nilIface) hx rfl (by simp [eqGuard, run_neq_nil_nil w t ht.u]) h hn
theorem WL_eqlNil {t u : TypeId} {x : Operand} {tv : TypeId} {v : Value} [ht : TyIf P t] (hx : ev f x = .iface tv v) (h : WL n P ops K rest (upd f d (.bool false)) w) (hn : Nat.blt d n = true := by rfl) : WL n P ops K (⟨some d, .binOp .eql t x (.const .nilIface) u, ty, pos, af, none⟩ :: rest) f w :=
  WL_bin (v2 := .nilIface) hx rfl (by simp [eqGuard, run_eql_held_nil w t tv v ht.u]) h hn
theorem WL_eqlNil0 {t u : TypeId} {x : Operand} [ht : TyIf P t] (hx : ev f x = .nilIface) (h : WL n P ops K rest (upd f d (.bool true)) w) (hn : Nat.blt d n = true := by rfl) : WL n P ops K (⟨some d, .binOp .eql t x (.const .nilIface) u, ty, pos, af, none⟩ :: rest) f w :=
  WL_bin (v2 := .nilIface) hx rfl (by simp [eqGuard, run_eql_nil_nil w t ht.u]) h hn
end
/-! short names for what comes again and again: the value of an operand, reckoned; steps as far as they go by themselves -/
theorem vv {α : Sort _} {a b : α} (h : a = b := by conv => { lhs; whnf }) : a = b := h
structure Later (Q : Prop) : Prop where
  out : Q
theorem GO {P Q : Prop} (h : Q) (s : Later Q → P := by
    intro hLater
    repeat (first | refine WL_move vv ?_ | refine WL_assign vv ?_ | refine WL_nilCheck vv ?_ | refine WL_field vv ?_ | refine WL_load vv (by first | assumption | exact Grows.kept (by assumption) (by assumption) | exact Grows.kept (by assumption) (Grows.kept (by assumption) (by assumption))) (by rfl) ?_ | refine WL_nil ?_ | refine WC_rs ?_ | refine WC_region ?_ | refine WC_skips ?_ | refine WC_sseq ?_ | refine WC_sblock ?_ | refine WC_block ?_ | refine WL_lss vv vv ?_ | refine WL_leq vv vv ?_ | refine WL_gtr vv vv ?_ | refine WL_geq vv vv ?_ | refine WL_eql vv vv ?_ | refine WL_neq vv vv ?_ | refine WL_len vv ?_ | refine WL_y (Y_lenS vv) ?_ | refine WL_extract vv (by rfl) ?_ | refine WC_ret ?_ | refine WC_skip ?_ | refine WC_exit ?_ | refine then_norm ?_ | refine then_ret ?_ | refine then_exit ?_ | refine block_norm ?_ | refine block_ret ?_ | refine block_exit ?_ | refine block_pass (by rfl) ?_)
    exact hLater.out) : P := s ⟨h⟩
theorem GON {P Q : Prop} (h : Q) (s : Later Q → P := by
    intro hLater
    repeat (first | refine WL_move vv ?_ | refine WL_assign vv ?_ | refine WL_nilCheck vv ?_ | refine WL_field vv ?_ | refine WL_load vv (by first | assumption | exact Grows.kept (by assumption) (by assumption) | exact Grows.kept (by assumption) (Grows.kept (by assumption) (by assumption))) (by rfl) ?_ | refine WL_nil ?_ | refine WC_rs ?_ | refine WC_region ?_ | refine WC_skips ?_ | refine WC_sseq ?_ | refine WL_lss vv vv ?_ | refine WL_leq vv vv ?_ | refine WL_gtr vv vv ?_ | refine WL_geq vv vv ?_ | refine WL_eql vv vv ?_ | refine WL_neq vv vv ?_ | refine WL_len vv ?_ | refine WL_y (Y_lenS vv) ?_ | refine WL_extract vv (by rfl) ?_ | refine WC_ret ?_ | refine WC_skip ?_ | refine WC_exit ?_ | refine then_norm ?_ | refine then_ret ?_ | refine then_exit ?_ | refine block_norm ?_ | refine block_ret ?_ | refine block_exit ?_ | refine block_pass (by rfl) ?_)
    exact hLater.out) : P := s ⟨h⟩
theorem RUN {P Q : Prop} (h : Q) (s : Later Q → P := by
    intro hLater
    repeat (first | refine WL_move vv ?_ | refine WL_assign vv ?_ | refine WL_nilCheck vv ?_ | refine WL_field vv ?_ | refine WL_load vv (by first | assumption | exact Grows.kept (by assumption) (by assumption) | exact Grows.kept (by assumption) (Grows.kept (by assumption) (by assumption))) (by rfl) ?_ | refine WL_nil ?_ | refine WC_rs ?_ | refine WC_region ?_ | refine WC_skips ?_ | refine WC_sseq ?_ | refine WC_sblock ?_ | refine WC_block ?_ | refine WL_lss vv vv ?_ | refine WL_leq vv vv ?_ | refine WL_gtr vv vv ?_ | refine WL_geq vv vv ?_ | refine WL_eql vv vv ?_ | refine WL_neq vv vv ?_ | refine WL_len vv ?_ | refine WL_y (Y_lenS vv) ?_ | refine WL_extract vv (by rfl) ?_ | refine WC_ret ?_ | refine WC_skip ?_ | refine WC_exit ?_ | refine then_norm ?_ | refine then_ret ?_ | refine then_exit ?_ | refine block_norm ?_ | refine block_ret ?_ | refine block_exit ?_ | refine block_pass (by rfl) ?_ | refine WC_sthen vv (by decide) ?_ | refine WC_selse vv (by decide) ?_ | refine WC_then vv (by decide) ?_ | refine WC_else vv (by decide) ?_ | refine WL_want2 rfl vv (by decide) ?_ | refine WL_unw2 rfl vv (by decide) ?_ | refine WL_y (Y_pick vv vv vv) ?_ | refine WL_y (Y_not vv) ?_)
    exact hLater.out) : P := s ⟨h⟩
end Go.Proofs.YtgkhfpkfjajdjaaDoor
