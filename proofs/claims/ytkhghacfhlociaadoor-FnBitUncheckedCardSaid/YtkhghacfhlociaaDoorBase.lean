/- Plain lemmas on numbers, lists and worlds that the walks of this seat use. No program is in sight. -/
import Derived.Test.YtkhghacfhlociaaDoorRows
import Derived.WalkKit
import Derived.ProofKit
import Derived.OpenShut
import Derived.Handy
import Derived.Lib.Hide
import Derived.WalkLawsBesides
import Derived.Deep.QuietTactic
import Derived.BigQuiet
import Derived.Deep.DeepCutAuto
import Derived.Deep.RegionHeld3
import Derived.Laws.BitsAllLaws
namespace Go.Proofs.YtkhghacfhlociaaDoor
open Go.RowKit

/-! the heap of a world that is written out -/
theorem hp_alloc (w : World) (o : Obj) (k : Nat) : (w.alloc o).heap[k]? = if k = w.heap.size then some o else w.heap[k]? := by
  show (w.heap.push o)[k]? = _
  rw [Array.getElem?_push]
theorem hp_eq (w : World) (o : Obj) (k : Nat) (h : k = w.heap.size) : (w.alloc o).heap[k]? = some o := by rw [hp_alloc, if_pos h]
theorem hp_ne (w : World) (o : Obj) (k : Nat) (h : k ≠ w.heap.size) : (w.alloc o).heap[k]? = w.heap[k]? := by rw [hp_alloc, if_neg h]
/-- two worlds that differ in draws alone -/
structure SameHeap (w w' : World) : Prop where
  os : w'.os = w.os
  tape : w'.tape = w.tape
  output : w'.output = w.output
  heap : w'.heap = w.heap
theorem SameHeap.refl (w : World) : SameHeap w w := ⟨rfl, rfl, rfl, rfl⟩
theorem SameHeap.trans {w w1 w2 : World} (h : SameHeap w w1) (h1 : SameHeap w1 w2) : SameHeap w w2 := ⟨h1.os.trans h.os, h1.tape.trans h.tape, h1.output.trans h.output, h1.heap.trans h.heap⟩
theorem SameHeap.drewN (w : World) (n : Nat) : SameHeap w (w.drewN n) := by
  induction n with
  | zero => exact SameHeap.refl w
  | succ n ih => exact ⟨ih.os, ih.tape, ih.output, ih.heap⟩
theorem SameHeap.cell {w w' : World} (h : SameHeap w w') (a : Addr) : w'.cell? a = w.cell? a := World.cell?_of_block (by rw [h.heap])
theorem SameHeap.frozen {w w' : World} (h : SameHeap w w') (a : Addr) : w'.frozen? a = w.frozen? a := World.frozen?_of_block (by rw [h.heap])
theorem SameHeap.below {w w' : World} (h : SameHeap w w') (B : Nat) : Below B w w' := ⟨h.os, h.tape, h.output, by rw [h.heap]; exact Nat.le_refl _, fun _ _ => by rw [h.heap]⟩
theorem hp_drew (w : World) (k : Nat) : w.drew.heap[k]? = w.heap[k]? := rfl
theorem hp_drewN (w : World) (n k : Nat) : (w.drewN n).heap[k]? = w.heap[k]? := by
  induction n with
  | zero => rfl
  | succ n ih => exact ih
theorem hp_setCell (w : World) (a : Addr) (v : Value) (k : Nat) (h : k ≠ a.block) : (w.setCell a v).heap[k]? = w.heap[k]? := Below.heap_setCell w a v k h

/-- the world under a letter of its own -/
theorem wp_letter {P : Program} {c : Code} {Q : Exit → Act → World → Prop} {a : Act} {w : World} (h : ∀ w2, w2 = w → c.wp P Q a w2) : c.wp P Q a w := h w rfl
/-- a block behind a store into it -/
theorem hp_set (w : World) (g i : Nat) (cs : Array Value) (t : TypeId) (v : Value) (hg : w.heap[g]? = some (.cells cs t (0, 0))) : (w.setCell ⟨g, i, none⟩ v).heap[g]? = some (.cells (cs.setIfInBounds i v) t (0, 0)) := heap_setCell_same w g i cs t v hg

/-! numbers -/
theorem nat_or_bit (x j : Nat) (h : x / 2 ^ j % 2 = 0) : x ||| 2 ^ j = x + 2 ^ j := by
  have hx : x = 2 ^ (j + 1) * (x / 2 ^ (j + 1)) + x % 2 ^ j := by
    have h1 := Nat.div_add_mod x (2 ^ j)
    have h2 := Nat.div_add_mod (x / 2 ^ j) 2
    have h3 : x / 2 ^ (j + 1) = x / 2 ^ j / 2 := by rw [Nat.pow_succ, Nat.div_div_eq_div_mul]
    rw [h, Nat.add_zero] at h2
    rw [h3, Nat.pow_succ, Nat.mul_assoc, h2]
    omega
  have hr : x % 2 ^ j < 2 ^ j := Nat.mod_lt _ (Nat.two_pow_pos j)
  generalize x / 2 ^ (j + 1) = q at hx
  generalize x % 2 ^ j = r at hx hr
  subst hx
  have e1 : 2 ^ (j + 1) * q ||| r = 2 ^ (j + 1) * q + r := nat_join (j + 1) _ _ (by simp) (by rw [Nat.pow_succ]; omega)
  have e2 : 2 ^ j ||| r = 2 ^ j + r := nat_join j _ _ (by simp) hr
  have e3 : 2 ^ (j + 1) * q ||| (2 ^ j + r) = 2 ^ (j + 1) * q + (2 ^ j + r) := nat_join (j + 1) _ _ (by simp) (by rw [Nat.pow_succ]; omega)
  rw [← e1, Nat.or_assoc, Nat.or_comm r, e2, e3]
  omega
theorem or16_bit (x : Int) (j : Nat) (hx : 0 ≤ x) (hx2 : x < 65536) (hj : j < 16) (h : x / 2 ^ j % 2 = 0) : bits .or .u16 x (2 ^ j) = x + 2 ^ j := by
  obtain ⟨n, rfl⟩ := Int.eq_ofNat_of_zero_le hx
  have hp : (2 : Nat) ^ j < 65536 := by
    have := Nat.pow_lt_pow_right (a := 2) (by omega) hj
    simpa using this
  have e := u16_or_nat n (2 ^ j) (by omega) hp
  rw [nat_or_bit n j (by exact_mod_cast h)] at e
  push_cast at e
  exact e
theorem or_16 (x : Int) (hx : 0 ≤ x) (hx2 : x < 65536) (h : x / 16 % 2 = 0) : bits .or .u16 x 16 = x + 16 := or16_bit x 4 hx hx2 (by omega) (by simpa using h)
theorem or_32 (x : Int) (hx : 0 ≤ x) (hx2 : x < 65536) (h : x / 32 % 2 = 0) : bits .or .u16 x 32 = x + 32 := or16_bit x 5 hx hx2 (by omega) (by simpa using h)
theorem or_128 (x : Int) (hx : 0 ≤ x) (hx2 : x < 65536) (h : x / 128 % 2 = 0) : bits .or .u16 x 128 = x + 128 := or16_bit x 7 hx hx2 (by omega) (by simpa using h)
theorem or_256 (x : Int) (hx : 0 ≤ x) (hx2 : x < 65536) (h : x / 256 % 2 = 0) : bits .or .u16 x 256 = x + 256 := or16_bit x 8 hx hx2 (by omega) (by simpa using h)
theorem or_512 (x : Int) (hx : 0 ≤ x) (hx2 : x < 65536) (h : x / 512 % 2 = 0) : bits .or .u16 x 512 = x + 512 := or16_bit x 9 hx hx2 (by omega) (by simpa using h)
theorem or_1024 (x : Int) (hx : 0 ≤ x) (hx2 : x < 65536) (h : x / 1024 % 2 = 0) : bits .or .u16 x 1024 = x + 1024 := or16_bit x 10 hx hx2 (by omega) (by simpa using h)
theorem or_32768 (x : Int) (hx : 0 ≤ x) (hx2 : x < 65536) (h : x / 32768 % 2 = 0) : bits .or .u16 x 32768 = x + 32768 := or16_bit x 15 hx hx2 (by omega) (by simpa using h)
theorem or_0 (x : Int) (hx : 0 ≤ x) (hx2 : x < 65536) : bits .or .u16 x 0 = x := by
  obtain ⟨n, rfl⟩ := Int.eq_ofNat_of_zero_le hx
  have e := u16_or_nat n 0 (by omega) (by omega)
  simpa using e
/-- a low part of i bits beside a high part -/
theorem or_low (x y : Int) (i : Nat) (hx : 0 ≤ x) (hx2 : x < 65536) (hy : 0 ≤ y) (hy2 : y < 2 ^ i) (hi : i ≤ 16) (h : x % 2 ^ i = 0) : bits .or .u16 x y = x + y := by
  obtain ⟨n, rfl⟩ := Int.eq_ofNat_of_zero_le hx
  obtain ⟨m, rfl⟩ := Int.eq_ofNat_of_zero_le hy
  have hm : m < 2 ^ i := by exact_mod_cast hy2
  have hp : (2 : Nat) ^ i ≤ 65536 := by
    have := Nat.pow_le_pow_right (n := 2) (by omega) hi
    simpa using this
  have e := u16_or_nat n m (by omega) (by omega)
  rw [nat_join i n m (by exact_mod_cast h) hm] at e
  push_cast at e
  exact e

/-! the header's second word -/
def bi (b : Bool) : Int := if b then 1 else 0
theorem bi_bd (b : Bool) : 0 ≤ bi b ∧ bi b ≤ 1 := by cases b <;> simp [bi]
/-- the bits of a header as one number -/
def hsum (op code : Int) (qr aa tc rd ra ad cd : Bool) : Int :=
  op * 2048 + code + bi ra * 128 + bi rd * 256 + bi tc * 512 + bi aa * 1024 + bi qr * 32768 + bi ad * 32 + bi cd * 16
theorem hsum_bd (op code : Int) (qr aa tc rd ra ad cd : Bool) (h0 : 0 ≤ op) (h1 : op < 16) (h2 : 0 ≤ code) (h3 : code < 16) :
    0 ≤ hsum op code qr aa tc rd ra ad cd ∧ hsum op code qr aa tc rd ra ad cd < 65536 := by
  have := bi_bd qr; have := bi_bd aa; have := bi_bd tc; have := bi_bd rd; have := bi_bd ra; have := bi_bd ad; have := bi_bd cd
  unfold hsum
  omega
theorem hor_128 (op code : Int) (h0 : 0 ≤ op) (h1 : op < 16) (h2 : 0 ≤ code) (h3 : code < 16) : bits .or .u16 (op * 2048 + code) 128 = op * 2048 + code + 128 := by
  exact or_128 _ (by omega) (by omega) (by omega)
theorem hor_256 (op code : Int) (ra : Bool) (h0 : 0 ≤ op) (h1 : op < 16) (h2 : 0 ≤ code) (h3 : code < 16) : bits .or .u16 (op * 2048 + code + bi ra * 128) 256 = op * 2048 + code + bi ra * 128 + 256 := by
  have := bi_bd ra; exact or_256 _ (by omega) (by omega) (by omega)
theorem hor_512 (op code : Int) (ra rd : Bool) (h0 : 0 ≤ op) (h1 : op < 16) (h2 : 0 ≤ code) (h3 : code < 16) : bits .or .u16 (op * 2048 + code + bi ra * 128 + bi rd * 256) 512 = op * 2048 + code + bi ra * 128 + bi rd * 256 + 512 := by
  have := bi_bd ra; have := bi_bd rd; exact or_512 _ (by omega) (by omega) (by omega)
theorem hor_1024 (op code : Int) (ra rd tc : Bool) (h0 : 0 ≤ op) (h1 : op < 16) (h2 : 0 ≤ code) (h3 : code < 16) : bits .or .u16 (op * 2048 + code + bi ra * 128 + bi rd * 256 + bi tc * 512) 1024 = op * 2048 + code + bi ra * 128 + bi rd * 256 + bi tc * 512 + 1024 := by
  have := bi_bd ra; have := bi_bd rd; have := bi_bd tc; exact or_1024 _ (by omega) (by omega) (by omega)
theorem hor_32768 (op code : Int) (ra rd tc aa : Bool) (h0 : 0 ≤ op) (h1 : op < 16) (h2 : 0 ≤ code) (h3 : code < 16) : bits .or .u16 (op * 2048 + code + bi ra * 128 + bi rd * 256 + bi tc * 512 + bi aa * 1024) 32768 = op * 2048 + code + bi ra * 128 + bi rd * 256 + bi tc * 512 + bi aa * 1024 + 32768 := by
  have := bi_bd ra; have := bi_bd rd; have := bi_bd tc; have := bi_bd aa; exact or_32768 _ (by omega) (by omega) (by omega)
theorem hor_32 (op code : Int) (ra rd tc aa qr : Bool) (h0 : 0 ≤ op) (h1 : op < 16) (h2 : 0 ≤ code) (h3 : code < 16) : bits .or .u16 (op * 2048 + code + bi ra * 128 + bi rd * 256 + bi tc * 512 + bi aa * 1024 + bi qr * 32768) 32 = op * 2048 + code + bi ra * 128 + bi rd * 256 + bi tc * 512 + bi aa * 1024 + bi qr * 32768 + 32 := by
  have := bi_bd ra; have := bi_bd rd; have := bi_bd tc; have := bi_bd aa; have := bi_bd qr; exact or_32 _ (by omega) (by omega) (by omega)
theorem hor_16 (op code : Int) (ra rd tc aa qr ad : Bool) (h0 : 0 ≤ op) (h1 : op < 16) (h2 : 0 ≤ code) (h3 : code < 16) : bits .or .u16 (op * 2048 + code + bi ra * 128 + bi rd * 256 + bi tc * 512 + bi aa * 1024 + bi qr * 32768 + bi ad * 32) 16 = op * 2048 + code + bi ra * 128 + bi rd * 256 + bi tc * 512 + bi aa * 1024 + bi qr * 32768 + bi ad * 32 + 16 := by
  have := bi_bd ra; have := bi_bd rd; have := bi_bd tc; have := bi_bd aa; have := bi_bd qr; have := bi_bd ad; exact or_16 _ (by omega) (by omega) (by omega)
end Go.Proofs.YtkhghacfhlociaaDoor
