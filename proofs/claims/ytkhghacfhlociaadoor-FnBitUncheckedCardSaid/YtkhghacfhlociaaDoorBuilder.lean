/- What a Builder holds in memory, and what its methods may change. -/
import Derived.Test.YtkhghacfhlociaaDoorFinish
namespace Go.Proofs.YtkhghacfhlociaaDoor
open Go.RowKit
set_option maxHeartbeats 1000000
set_option maxRecDepth 100000

/-- from w to w' new blocks may have come, and of the old ones only those of S may have changed -/
structure Chg (S : Nat → Prop) (w w' : World) : Prop where
  os : w'.os = w.os
  tape : w'.tape = w.tape
  output : w'.output = w.output
  size : w.heap.size ≤ w'.heap.size
  block : ∀ k, k < w.heap.size → ¬ S k → w'.heap[k]? = w.heap[k]?
theorem Chg.refl (S : Nat → Prop) (w : World) : Chg S w w := ⟨rfl, rfl, rfl, Nat.le_refl _, fun _ _ _ => rfl⟩
theorem Chg.trans {S T : Nat → Prop} {w w1 w2 : World} (h : Chg S w w1) (h1 : Chg T w1 w2) (hT : ∀ k, k < w.heap.size → T k → S k) : Chg S w w2 :=
  ⟨h1.os.trans h.os, h1.tape.trans h.tape, h1.output.trans h.output, Nat.le_trans h.size h1.size, fun k hk hS =>
    (h1.block k (Nat.lt_of_lt_of_le hk h.size) (fun ht => hS (hT k hk ht))).trans (h.block k hk hS)⟩
theorem Chg.mono {S T : Nat → Prop} {w w' : World} (h : Chg S w w') (hT : ∀ k, k < w.heap.size → S k → T k) : Chg T w w' :=
  ⟨h.os, h.tape, h.output, h.size, fun k hk ht => h.block k hk (fun hs => ht (hT k hk hs))⟩
theorem Chg.of_grownBy {w w' : World} {row : Option Nat} (h : w.grownBy w' row) {S : Nat → Prop} (hS : ∀ k, row = some k → S k) : Chg S w w' :=
  ⟨h.os, h.tape, h.output, h.size, fun k hk hs => h.block k hk (fun e => hs (hS k e.symm))⟩
theorem Chg.of_below {w w' : World} (h : Below w.heap.size w w') (S : Nat → Prop) : Chg S w w' := ⟨h.os, h.tape, h.output, h.size, fun k hk _ => h.block k hk⟩
theorem Chg.of_same {w w' : World} (h : SameHeap w w') (S : Nat → Prop) : Chg S w w' := Chg.of_below (h.below _) S
theorem Chg.below {S : Nat → Prop} {w w' : World} {B : Nat} (h : Chg S w w') (hB : B ≤ w.heap.size) (hS : ∀ k, S k → B ≤ k) : Below B w w' :=
  ⟨h.os, h.tape, h.output, h.size, fun k hk => h.block k (by omega) (fun hs => by have := hS k hs; omega)⟩
theorem Chg.setCell {S : Nat → Prop} {w w' : World} (h : Chg S w w') (a : Addr) (u : Value) (ha : S a.block ∨ w.heap.size ≤ a.block) : Chg S w (w'.setCell a u) :=
  ⟨h.os, h.tape, h.output, by have := h.size; simpa [World.setCell] using this, fun k hk hs => (hp_setCell w' a u k (fun e => by
    rcases ha with ha | ha
    · exact hs (by rw [e]; exact ha)
    · omega)).trans (h.block k hk hs)⟩
theorem Chg.alloc {S : Nat → Prop} {w w' : World} (h : Chg S w w') (o : Obj) : Chg S w (w'.alloc o) :=
  ⟨h.os, h.tape, h.output, by have := h.size; simp; omega, fun k hk hs => (hp_ne w' o k (by have := h.size; omega)).trans (h.block k hk hs)⟩
theorem Chg.drew {S : Nat → Prop} {w w' : World} (h : Chg S w w') : Chg S w w'.drew := ⟨h.os, h.tape, h.output, h.size, h.block⟩
theorem Chg.kept {S : Nat → Prop} {w w' : World} (h : Chg S w w') {k : Nat} {o : Obj} (hk : w.heap[k]? = some o) (hs : ¬ S k) : w'.heap[k]? = some o :=
  (h.block k (Array.getElem?_eq_some_iff.1 hk).1 hs).trans hk

/-! the map of compression -/
/-- names and the places where they stand, in the order in which they were laid -/
abbrev CMap := List (Bytes × Nat)
def strOf (bs : Bytes) : Value := .string ⟨bs.toArray⟩
def mapOf (es : Array MapEntry) (m : CMap) : Prop := es.toList.map (fun e => (e.key, e.val)) = m.map fun x => (strOf x.1, Value.int .u16 (x.2 : Int))
def CompAt (w : World) (cv : Value) : Option CMap → Prop
  | none => cv = .map none
  | some m => ∃ r es ck, cv = .map (some r) ∧ w.heap[r]? = some (.map es ck) ∧ mapOf es m
/-- the block of a map -/
def mapBlock : Value → Option Nat
  | .map r => r
  | _ => none

/-! a Builder -/
structure BSt where
  msg : Bytes
  sec : Nat
  id : Nat
  bits : Nat
  q : Nat
  an : Nat
  ns : Nat
  ar : Nat
  st : Nat
  comp : Option CMap
def BSt.ok (s : BSt) : Prop := s.sec ≤ 6 ∧ s.id < 65536 ∧ s.bits < 65536 ∧ s.q < 65536 ∧ s.an < 65536 ∧ s.ns < 65536 ∧ s.ar < 65536 ∧ s.st + 12 ≤ s.msg.length
/-- the Builder in block b, with the values mv and cv in its fields -/
structure BAt (w : World) (b : Nat) (mv cv : Value) (s : BSt) : Prop where
  cells : w.heap[b]? = some (.cells #[mv, .int .u8 (s.sec : Int), .int .u16 (s.id : Int), .int .u16 (s.bits : Int), .int .u16 (s.q : Int), .int .u16 (s.an : Int), .int .u16 (s.ns : Int), .int .u16 (s.ar : Int), .int .i64 (s.st : Int), cv] 98 (0, 0))
  own : Own w mv s.msg
  comp : CompAt w cv s.comp
  ok : s.ok
/-- the blocks that a Builder's methods may write -/
def Foot (b : Nat) (mv cv : Value) (k : Nat) : Prop := k = b ∨ mv.ownBlock = some k ∨ mapBlock cv = some k
theorem BAt.lt {w : World} {b : Nat} {mv cv : Value} {s : BSt} (h : BAt w b mv cv s) : b < w.heap.size := (Array.getElem?_eq_some_iff.1 h.cells).1
theorem BAt.ne_msg {w : World} {b : Nat} {mv cv : Value} {s : BSt} (h : BAt w b mv cv s) : mv.ownBlock ≠ some b := Own.ne h.own h.cells (by decide)
theorem CompAt.ne {w : World} {cv : Value} {m : Option CMap} (h : CompAt w cv m) {k : Nat} {cs : Array Value} {t : TypeId} {fr : Nat × Nat} (hk : w.heap[k]? = some (.cells cs t fr)) : mapBlock cv ≠ some k := by
  cases m with
  | none => rw [show cv = .map none from h]; simp [mapBlock]
  | some m =>
    obtain ⟨r, es, ck, rfl, hr, _⟩ := h
    simp only [mapBlock]
    intro e
    cases e
    rw [hk] at hr
    cases hr
theorem BAt.form {w : World} {b : Nat} {mv cv : Value} {s : BSt} (h : BAt w b mv cv s) : ∃ g cap, mv = .slice (some ⟨g, 0, none⟩) s.msg.length cap ∧ s.msg.length ≤ cap ∧ g < w.heap.size ∧ b ≠ g := by
  obtain ⟨g, cap, rfl, h1, h2⟩ := h.own.form s.msg.length rfl (by have := h.ok; unfold BSt.ok at this; omega)
  refine ⟨g, cap, rfl, h1, h2, fun e => h.ne_msg (by simp [Value.ownBlock, e])⟩
/-- a block of another kind is none of the Builder's -/
theorem BAt.far {w : World} {b : Nat} {mv cv : Value} {s : BSt} (h : BAt w b mv cv s) {k : Nat} {cs : Array Value} {t : TypeId} {fr : Nat × Nat} (hk : w.heap[k]? = some (.cells cs t fr)) (h1 : t ≠ 98) (h2 : t ≠ 5) : ¬ Foot b mv cv k := by
  rintro (rfl | hm | hc)
  · rw [h.cells] at hk; cases hk; exact h1 rfl
  · exact Own.ne h.own hk h2 hm
  · exact h.comp.ne hk hc
theorem CompAt.kept {w w' : World} {cv : Value} {m : Option CMap} (h : CompAt w cv m) (hk : ∀ r, mapBlock cv = some r → w'.heap[r]? = w.heap[r]?) : CompAt w' cv m := by
  cases m with
  | none => exact h
  | some m =>
    obtain ⟨r, es, ck, rfl, hr, hm⟩ := h
    exact ⟨r, es, ck, rfl, (hk r rfl).trans hr, hm⟩
/-- what a method of a Builder leaves: the Builder in a new state; nothing else of old has changed -/
def BStep (w : World) (b : Nat) (mv cv : Value) (w' : World) (s' : BSt) : Prop :=
  ∃ mv' cv', BAt w' b mv' cv' s' ∧ Chg (Foot b mv cv) w w' ∧ ∀ k, k < w.heap.size → Foot b mv' cv' k → Foot b mv cv k
theorem BStep.refl {w : World} {b : Nat} {mv cv : Value} {s : BSt} (h : BAt w b mv cv s) : BStep w b mv cv w s := ⟨mv, cv, h, Chg.refl _ _, fun _ _ h => h⟩
theorem BStep.trans {w : World} {b : Nat} {mv cv mv1 cv1 : Value} {w1 w2 : World} {s2 : BSt} (hc : Chg (Foot b mv cv) w w1) (hf : ∀ k, k < w.heap.size → Foot b mv1 cv1 k → Foot b mv cv k) (h1 : BStep w1 b mv1 cv1 w2 s2) : BStep w b mv cv w2 s2 := by
  obtain ⟨mv2, cv2, ha, hc2, hf2⟩ := h1
  exact ⟨mv2, cv2, ha, hc.trans hc2 hf, fun k hk h => hf k hk (hf2 k (Nat.lt_of_lt_of_le hk hc.size) h)⟩
theorem BAt.chg {w w' : World} {b : Nat} {mv cv : Value} {s : BSt} (h : BAt w b mv cv s) {S : Nat → Prop} (hc : Chg S w w') (hS : ∀ k, Foot b mv cv k → ¬ S k) : BAt w' b mv cv s := by
  refine ⟨hc.kept h.cells (hS b (.inl rfl)), ?_, h.comp.kept fun r hr => ?_, h.ok⟩
  · rcases h.own.2 with ⟨rfl, h0⟩ | ⟨g, cap, cur, rfl, hb, hg, hr⟩
    · exact ⟨h.own.1, .inl ⟨rfl, h0⟩⟩
    · exact ⟨h.own.1, .inr ⟨g, cap, cur, rfl, hb, hc.kept hg (hS g (.inr (.inl rfl))), hr⟩⟩
  · have hlt : r < w.heap.size := by
      have hcm := h.comp
      cases hm : s.comp with
      | none => rw [hm] at hcm; rw [show cv = .map none from hcm] at hr; cases hr
      | some m =>
        rw [hm] at hcm
        obtain ⟨r', es, ck, rfl, hr', _⟩ := hcm
        cases hr
        exact (Array.getElem?_eq_some_iff.1 hr').1
    exact hc.block r hlt (hS r (.inr (.inr hr)))
theorem BAt.grow {w w' : World} {b : Nat} {mv cv : Value} {s : BSt} (h : BAt w b mv cv s) (hb : Below w.heap.size w w') : BAt w' b mv cv s :=
  h.chg (Chg.of_below hb (fun _ => False)) (fun _ _ h => h)
theorem BAt.alloc {w : World} {b : Nat} {mv cv : Value} {s : BSt} (h : BAt w b mv cv s) (o : Obj) : BAt (w.alloc o) b mv cv s := h.grow ((Below.refl _ w).alloc (Nat.le_refl _) o)
theorem BAt.foot_lt {w : World} {b : Nat} {mv cv : Value} {s : BSt} (h : BAt w b mv cv s) {k : Nat} (hk : Foot b mv cv k) : k < w.heap.size := by
  rcases hk with rfl | hk | hk
  · exact h.lt
  · exact (h.own.lt k hk).2
  · have hcm := h.comp
    cases hm : s.comp with
    | none => rw [hm] at hcm; rw [show cv = .map none from hcm] at hk; cases hk
    | some m =>
      rw [hm] at hcm
      obtain ⟨r', es, ck, rfl, hr', _⟩ := hcm
      cases hk
      exact (Array.getElem?_eq_some_iff.1 hr').1
/-- a store of a new section, behind which all else is as it was -/
theorem BAt.set_sec {w : World} {b : Nat} {mv cv : Value} {s : BSt} (h : BAt w b mv cv s) (n : Nat) (hn : n ≤ 6) : BAt (w.setCell ⟨b, 1, none⟩ (.int .u8 (n : Int))) b mv cv { s with sec := n } := by
  refine ⟨?_, h.own.setCell _ _ h.ne_msg, h.comp.kept fun r hr => hp_setCell _ _ _ _ ?_, ?_⟩
  · rw [hp_set _ _ _ _ _ _ h.cells]; rfl
  · intro e
    have e' : r = b := e
    subst e'
    exact h.comp.ne h.cells hr
  · have := h.ok
    unfold BSt.ok at *
    exact ⟨hn, this.2⟩

theorem dns_Finish (w : World) (b : Nat) (mv cv : Value) (s : BSt) (h : BAt w b mv cv s) (hs : 1 ≤ s.sec) :
    Calls Tryd.prog 58 #[.pointer (some ⟨b, 0, none⟩)] w fun e w' => e = .returned (.tuple #[mv, .nilIface]) ∧ Own w' mv (put s.msg s.st (hdr s.id s.bits s.q s.an s.ns s.ar)) ∧ Chg (Foot b mv cv) w w' := by
  obtain ⟨g, cap, rfl, hcap, hlt, hne⟩ := h.form
  have hok := h.ok
  unfold BSt.ok at hok
  have c0 := fun j => cell_of_row w b j _ _ _ h.cells
  have f0 := fun j => frozen_of_row w b j _ _ h.cells
  have H := Lib.hid h
  have hs1 : (1 : Int) ≤ (s.sec : Int) := by omega
  have q0 : (0 : Int) ≤ (s.st : Int) := by omega
  have q1 : (s.st : Int) ≤ (s.msg.length : Int) := by omega
  have q2 : (s.st : Int) ≤ (cap : Int) := by omega
  clear h
  go_enter Tryd.func58, Tryd.ntmps58
  go_wp2_with fail
  refine wp_letter fun w1 hw1 => ?_
  have h1 : BAt w1 b (.slice (some ⟨g, 0, none⟩) s.msg.length cap) cv { s with sec := 6 } := by rw [hw1]; exact H.out.set_sec 6 (by omega)
  have hch : Chg (Foot b (.slice (some ⟨g, 0, none⟩) s.msg.length cap) cv) w w1 := by rw [hw1]; exact (Chg.refl _ _).setCell _ _ (.inl (.inl rfl))
  clear hw1 c0 f0
  have c1 := fun j => cell_of_row w1 b j _ _ _ h1.cells
  simp only at c1
  have H1 := Lib.hid h1
  have HC := Lib.hid hch
  clear h1 hch
  have hcs : ¬ cap = s.st := by omega
  go_still_tail 16, (by kernel_rfl)
  go_wp2_with fail
  refine (dns_header_pack w1.drew _ s.msg g s.msg.length cap rfl H1.out.own b _ _ 6 s.id s.bits s.q s.an s.ns s.ar s.st H1.out.cells hne ⟨by omega, by omega⟩ ⟨by omega, by omega⟩ ⟨by omega, by omega⟩ ⟨by omega, by omega⟩ ⟨by omega, by omega⟩ ⟨by omega, by omega⟩ s.st (cap - s.st) (by omega) (by omega)).mono ?_
  rintro e w2 ⟨rfl, o2, g2⟩
  have hB2 := cell_after (w := w1.drew) H1.out.cells g2 hne
  have c2 := fun j => cell_of_row w2 b j _ _ _ hB2
  have O2 := Lib.hid o2
  have G2 := Lib.hid g2
  clear o2 g2 hB2 c1
  go_wp2_with fail
  go_ret2
  exact ⟨rfl, O2.out, HC.out.drew.trans (Chg.of_grownBy G2.out (S := Foot b (.slice (some ⟨g, 0, none⟩) s.msg.length cap) cv) (fun k hk => by simp only [Option.some.injEq] at hk; subst hk; exact .inr (.inl rfl))) (fun k _ h => h)⟩
end Go.Proofs.YtkhghacfhlociaaDoor
