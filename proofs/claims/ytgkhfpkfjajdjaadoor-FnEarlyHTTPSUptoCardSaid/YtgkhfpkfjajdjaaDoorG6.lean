/- Names: 255 bytes and a length. What nameOf and its like lay in memory. -/
import Derived.Test.YtgkhfpkfjajdjaaDoorG2
import Derived.Lib.BufferWrite
import Derived.Great.BuildSlice
import Derived.Test.YtgkhfpkfjajdjaaDoorG3
import Derived.Test.YtgkhfpkfjajdjaaDoorG5
import Derived.Test.YtgkhfpkfjajdjaaDoorG1
import Derived.Test.YtgkhfpkfjajdjaaDoorGTy
set_option linter.unusedVariables false
set_option linter.unusedSimpArgs false
namespace Go.Proofs.YtgkhfpkfjajdjaaDoor
open Go.RowKit
set_option maxHeartbeats 1000000
set_option maxRecDepth 100000

def nameList (nm : Bytes) : List Value := bv nm ++ (List.replicate (255 - nm.length) (.int .u8 0) ++ [.int .u8 (nm.length : Int)])
/-- the cells of a name of at most 255 bytes -/
def nameCells (nm : Bytes) : Array Value := (nameList nm).toArray
theorem nameList_length (nm : Bytes) (h : nm.length ≤ 255) : (nameList nm).length = 256 := by simp [nameList, bv]; omega
theorem nameCells_size (nm : Bytes) (h : nm.length ≤ 255) : (nameCells nm).size = 256 := by simp [nameCells, nameList_length nm h]
theorem name_zero (w : World) : (zeroValue 72).run Tryd.prog w = .ok (.agg (nameCells [])) w := by kernel_rfl
/-- bytes that are laid, their number not yet -/
def nameRow0 (nm : Bytes) : Array Value := (bv nm ++ (List.replicate (255 - nm.length) (Value.int .u8 0) ++ [Value.int .u8 0])).toArray
theorem rowK_copy (K : Nat) (z : Value) (xs : List Value) (h : xs.length ≤ K) : (List.take 0 (List.replicate K z ++ [z]) ++ xs ++ (List.replicate K z ++ [z]).drop (0 + xs.length)) = xs ++ (List.replicate (K - xs.length) z ++ [z]) := by
  rw [List.take_zero, List.nil_append, Nat.zero_add, List.drop_append_of_le_length (by rw [List.length_replicate]; exact h), List.drop_replicate]
theorem rowK_last (K : Nat) (z u : Value) (xs : List Value) (h : xs.length ≤ K) : (xs ++ (List.replicate (K - xs.length) z ++ [u]))[K]? = some u := by
  rw [List.getElem?_append_right h, List.getElem?_append_right (by rw [List.length_replicate]; exact Nat.le_refl _), List.length_replicate, Nat.sub_self]
  rfl
theorem rowK_set (K : Nat) (z u v : Value) (xs : List Value) (h : xs.length ≤ K) : (xs ++ (List.replicate (K - xs.length) z ++ [u])).set K v = xs ++ (List.replicate (K - xs.length) z ++ [v]) := by
  rw [List.set_append_right _ _ h, List.set_append_right _ _ (by rw [List.length_replicate]; exact Nat.le_refl _), List.length_replicate, Nat.sub_self]
  rfl
theorem name_nil : (nameCells []).toList = List.replicate 255 (Value.int .u8 0) ++ [Value.int .u8 0] := rfl
theorem name_copied (nm : Bytes) (h : nm.length ≤ 255) : (List.take 0 (nameCells []).toList ++ bv nm ++ List.drop (0 + nm.length) (nameCells []).toList).toArray = nameRow0 nm := by
  have := rowK_copy 255 (Value.int .u8 0) (bv nm) (by rw [bv_length]; exact h)
  rw [bv_length] at this
  rw [name_nil, this]
  rfl
theorem nameRow0_last (nm : Bytes) (h : nm.length ≤ 255) : (nameRow0 nm)[255]? = some (.int .u8 0) := by
  have := rowK_last 255 (Value.int .u8 0) (Value.int .u8 0) (bv nm) (by rw [bv_length]; exact h)
  rw [bv_length] at this
  rw [nameRow0, List.getElem?_toArray]
  exact this
theorem nameRow0_set (nm : Bytes) (h : nm.length ≤ 255) : (nameRow0 nm).setIfInBounds 255 (.int .u8 (nm.length : Int)) = nameCells nm := by
  have := rowK_set 255 (Value.int .u8 0) (Value.int .u8 0) (Value.int .u8 (nm.length : Int)) (bv nm) (by rw [bv_length]; exact h)
  rw [bv_length] at this
  rw [nameRow0, List.setIfInBounds_toArray, this]
  rfl
theorem nameCells_len (nm : Bytes) (h : nm.length ≤ 255) : (nameCells nm)[255]? = some (.int .u8 (nm.length : Int)) := by
  have := rowK_last 255 (Value.int .u8 0) (Value.int .u8 (nm.length : Int)) (bv nm) (by rw [bv_length]; exact h)
  rw [bv_length] at this
  rw [nameCells, List.getElem?_toArray]
  exact this
theorem nameCells_at (nm : Bytes) (i : Nat) (h : i < nm.length) : (nameCells nm)[i]? = some (.int .u8 (nm[i].toNat : Int)) := by
  rw [nameCells, List.getElem?_toArray, nameList, List.getElem?_append_left (by rw [bv_length]; exact h)]
  simp [bv, h]
theorem u8_size : (Tryd.prog.info? 5).map (·.size) = some 1 := by kernel_rfl
theorem nameCells_one (nm : Bytes) : ∀ u ∈ (nameCells nm).toList, u.oneCell' = true := by
  intro u hu
  simp only [nameCells, nameList, List.mem_append, List.mem_replicate, List.mem_singleton] at hu
  rcases hu with hu | ⟨_, rfl⟩ | rfl
  · exact bv_one nm u hu
  · rfl
  · rfl
/-- a store of a whole row -/
theorem run_storeRow {P : Program} (W : World) (g : Nat) (t : TypeId) (old cells : Array Value) (hg : W.heap[g]? = some (.cells old t (0, 0))) (hs : old.size = cells.size) (h1 : ∀ u ∈ cells.toList, u.oneCell' = true) :
    Sem.run P (storeCells ⟨g, 0, none⟩ cells.toList) W = .ok () (W.setRow g cells) := by
  have := run_storeCells_from (P := P) g t cells.toList 0 old W hg (by simp; omega) h1
  simpa using this
/-- a load of a whole row -/
theorem run_loadRow {P : Program} (W : World) (g n : Nat) (t : TypeId) (fr : Nat × Nat) (cells : Array Value) (hg : W.heap[g]? = some (.cells cells t fr)) (hn : cells.size = n) : (loadCells ⟨g, 0, none⟩ n).run P W = .ok cells W := by
  have := run_loadCells_list (P := P) W ⟨g, 0, none⟩ cells.toList (fun j v hv => by
    have hadd : (⟨g, 0, none⟩ : Addr).add j = ⟨g, j, none⟩ := by unfold Addr.add; split <;> simp_all
    rw [hadd, cell_of_row W g j cells t fr hg]
    simpa using hv)
  simpa [hn] using this
/-- copy(dst, s) for a string that may be longer than dst -/
theorem run_copy_str {P : Program} (w : World) (dT sT ty elem : TypeId) (g o dLen dCap : Nat) (s : ByteArray) (cur : Array Value) (t : TypeId) (bs : Bytes) (hbs : s.data.toList.take dLen = bs)
    (hu : P.underlying dT = some (.slice elem)) (hs : (P.info? elem).map (·.size) = some 1) (hg : w.heap[g]? = some (.cells cur t (0, 0))) (hfit : o + bs.length ≤ cur.size) :
    (Builtin.copy_ #[dT, sT] ty #[.slice (some ⟨g, o, none⟩) dLen dCap, .string s]).run P w =
      .ok (goInt bs.length) (w.setRow g (cur.toList.take o ++ bv bs ++ cur.toList.drop (o + bs.length)).toArray) := by
  have hsz : s.size = s.data.toList.length := by rw [Array.length_toList]; rfl
  have hmin : Nat.min s.size dLen = bs.length := by
    rw [← hbs, List.length_take, hsz]; exact Nat.min_comm _ _
  have hst := run_storeCells_at P g o t (bv bs) 0 cur w hg (by rw [bv_length]; simpa using hfit) (bv_one _)
  have htk : List.take bs.length (List.map (fun b : UInt8 => Value.int IntKind.u8 (b.toNat : Int)) s.data.toList) = bv bs := by
    rw [← List.map_take]
    unfold bv
    congr 1
    rw [← hbs, List.length_take, List.take_eq_take_iff]
    omega
  rw [bv_length] at hst
  simp only [Nat.add_zero] at hst
  cases hq : P.info? elem with
  | none => simp [hq] at hs
  | some i =>
    simp [Builtin.copy_, run_underlying hu, Builtin.lenOf, Builtin.firstCells, sizeOf, typeInfo, hq, hmin]
    rw [htk, hst]
    simp [Result.andThen]
theorem below_setRow {B : Nat} {a w : World} (h : Below B a w) {g : Nat} (hg : B ≤ g) (cs : Array Value) : Below B a (w.setRow g cs) :=
  ⟨h.os, h.tape, h.output, by have := h.size; simpa [World.setRow] using this, fun k hk => (setRow_other w g k cs (by omega)).trans (h.block k hk)⟩
theorem nameCells_all (nm : Bytes) : (nameCells nm).all (·.oneCell') = true := by
  rw [Array.all_eq_true_iff_forall_mem]
  exact fun u hu => nameCells_one nm u (by simpa using hu)
theorem name_size (nm : Bytes) (h : nm.length ≤ 255) : (Tryd.prog.info? 72).map (·.size) = some (nameCells nm).size := by
  rw [nameCells_size nm h]
  kernel_rfl
theorem impl_nameOf (s : ByteArray) (nm : Bytes) (hnm0 : s.data.toList.take 255 = nm) (w : World) :
    Calls Tryd.prog 70 #[.string s] w fun e w' => e = .returned (.agg (nameCells nm)) ∧ Below w.heap.size w w' := by
  have hl : nm.length ≤ 255 := by rw [← hnm0, List.length_take]; omega
  have hnm := Lib.hid hnm0
  clear hnm0
  have hz := name_zero
  have hs0 := nameCells_size [] (by decide)
  have e1 : ∀ W : World, W.heap[w.heap.size + 1]? = some (.cells (nameCells []) 72 (0, 0)) → Sem.run Tryd.prog (storeCells ⟨w.heap.size + 1, 0, none⟩ (nameCells []).toList) W = .ok () W := fun W hW => by
    rw [run_storeRow W _ _ _ _ hW rfl (nameCells_one []), setRow_self W _ _ _ _ hW]
  go_enter Tryd.func70, Tryd.ntmps70
  go_wp2_with fail
  rw [e1 _ (by simp (disch := (first | (simp only [World.size_alloc]; done) | (simp only [World.size_alloc]; omega) | omega)) only [hp_eq])]
  go_wp2_with fail
  have g0 : ((w.alloc (.cells (nameCells []) 72)).alloc (.cells (nameCells []) 72)).heap[w.heap.size + 1]? = some (.cells (nameCells []) 72 (0, 0)) := by simp (disch := (first | (simp only [World.size_alloc]; done) | (simp only [World.size_alloc]; omega) | omega)) only [hp_eq]
  rw [run_copy_str _ 26 9 3 5 (w.heap.size + 1) 0 255 255 s (nameCells []) 72 nm hnm.out Tryd.underlying26 u8_size g0 (by rw [hs0]; omega)]
  rw [name_copied nm hl]
  have h1 : ∃ w1, w1 = ((w.alloc (Obj.cells (nameCells []) 72)).alloc (Obj.cells (nameCells []) 72)).setRow (w.heap.size + 1) (nameRow0 nm) := ⟨_, rfl⟩
  obtain ⟨w1, hw1⟩ := h1
  rw [← hw1]
  have g1 : w1.heap[w.heap.size + 1]? = some (.cells (nameRow0 nm) 72 (0, 0)) := by rw [hw1]; exact setRow_heap _ _ _ _ _ _ g0
  have c1 : w1.cell? ⟨w.heap.size + 1, 255, none⟩ = some (.int .u8 0) := (cell_of_row w1 _ 255 _ _ _ g1).trans (nameRow0_last nm hl)
  have f1 : w1.frozen? ⟨w.heap.size + 1, 255, none⟩ = false := frozen_of_row w1 _ 255 _ _ g1
  have b1 : Below w.heap.size w w1 := by
    rw [hw1]
    exact below_setRow (((Below.refl _ w).alloc (Nat.le_refl _) _).alloc (by simp) _) (by omega) _
  have s1 : w1.heap.size = w.heap.size + 2 := by rw [hw1]; simp [World.setRow]
  have r1 : w1.heap[w.heap.size]? = some (.cells (nameCells []) 72 (0, 0)) := by
    rw [hw1, setRow_other _ _ _ _ (by omega)]
    simp (disch := (first | (simp only [World.size_alloc]; done) | (simp only [World.size_alloc]; omega) | omega)) only [hp_eq, hp_ne]
  clear hw1 g0 e1
  have B1 := Lib.hid b1
  have G1 := Lib.hid g1
  have R1 := Lib.hid r1
  have S1 := Lib.hid s1
  clear b1 g1 r1 s1
  have hl2 : (nm.length : Int) < 256 := by omega
  have hl3 : (0 : Int) ≤ (nm.length : Int) := by omega
  have g2 : (w1.setCell ⟨w.heap.size + 1, 255, none⟩ (.int .u8 (nm.length : Int))).heap[w.heap.size + 1]? = some (.cells (nameCells nm) 72 (0, 0)) := by
    rw [hp_set _ _ _ _ _ _ G1.out, nameRow0_set nm hl]
  have r2 : (w1.setCell ⟨w.heap.size + 1, 255, none⟩ (.int .u8 (nm.length : Int))).heap[w.heap.size]? = some (.cells (nameCells []) 72 (0, 0)) := by
    rw [hp_setCell _ _ _ _ (by simp)]; exact R1.out
  have G2 := Lib.hid g2
  have R2 := Lib.hid r2
  clear g2 r2
  have hs2 := nameCells_size nm hl
  go_upto_region 3 with (fail)
  go_step
  refine wpList_load_row rfl 72 (.tmp 3) rfl (w.heap.size + 1) rfl 72 (nameCells nm) (0, 0) _ G2.out Tryd.underlying72 rfl (name_size nm hl) ?_
  refine wpList_store_row rfl 72 (.tmp 2) (.tmp 11) rfl w.heap.size (nameCells nm) rfl rfl 72 (nameCells []) R2.out (name_size nm hl) (by rw [hs0, hs2]) (nameCells_all nm) ?_
  repeat (first | go_skip | go_step)
  refine bodyPost_ret (v := .agg (nameCells nm)) (results_cell_row Tryd.results70 _ _ w.heap.size 72 (nameCells nm) (0, 0) _ rfl (setRow_heap _ _ _ _ _ _ R2.out) Tryd.underlying72 rfl (name_size nm hl)) rfl ?_
  exact ⟨rfl, below_setRow (Below.setCell B1.out (by simp) _) (Nat.le_refl _) _⟩
end Go.Proofs.YtgkhfpkfjajdjaaDoor

/- Rules for what names need: slices of arrays and of strings, bytes as a string, maps. -/
namespace Go.Proofs.YtgkhfpkfjajdjaaDoor
open Go.RowKit
set_option maxRecDepth 100000

section
variable {n : Nat} {P : Program} {f : Env} {w : World} {ops : Array Oper} {K : Env → World → Prop} {rest : List Oper} {d : Option Nat} {ty : TypeId} {pos : String} {af : Array Edge} {gd : Option (Nat × Bool)}
/-- a slice of an array of bytes -/
theorem Y_sliceArr {t e : TypeId} {x lo hi : Operand} {b o len l h : Nat} {kl kh : IntKind} [ht : TyArr P t len e 1] (hx : ev f x = .pointer (some ⟨b, o, none⟩)) (hl : ev f lo = .int kl (l : Int)) (hh : ev f hi = .int kh (h : Int)) (h1 : l ≤ h) (h2 : h ≤ len) (h3 : l < len) :
    (execOp (ev f) ⟨d, .slice t x (some lo) (some hi) none, ty, pos, af, gd⟩).run P w = .ok (.value (.slice (some ⟨b, o + l, none⟩) (h - l) (len - l))) w := by
  have e1 : ¬ len = l := by omega
  simp [execOp, hx, hl, hh, Instr.sliceAt, run_underlying ht.u, Instr.sureAddr, Instr.sliceBounds, Instr.sliceBound, asIntOf, h1, h2, runSize w ht.s, e1, add_addr]
theorem Y_sliceArr0 {t e : TypeId} {x hi : Operand} {b o len h : Nat} {kh : IntKind} [ht : TyArr P t len e 1] (hx : ev f x = .pointer (some ⟨b, o, none⟩)) (hh : ev f hi = .int kh (h : Int)) (h2 : h ≤ len) (h3 : 0 < len) :
    (execOp (ev f) ⟨d, .slice t x none (some hi) none, ty, pos, af, gd⟩).run P w = .ok (.value (.slice (some ⟨b, o, none⟩) h len)) w := by
  have e1 : ¬ len = 0 := by omega
  simp [execOp, hx, hh, Instr.sliceAt, run_underlying ht.u, Instr.sureAddr, Instr.sliceBounds, Instr.sliceBound, asIntOf, h2, runSize w ht.s, e1, add_addr]
theorem Y_sliceS {t : TypeId} {x lo : Operand} {s : Bytes} {l : Nat} {kl : IntKind} [ht : TyStr P t] (hx : ev f x = strOf s) (hl : ev f lo = .int kl (l : Int)) (h1 : l ≤ s.length) :
    (execOp (ev f) ⟨d, .slice t x (some lo) none none, ty, pos, af, gd⟩).run P w = .ok (.value (strOf (s.drop l))) w := by
  have hsz : (⟨s.toArray⟩ : ByteArray).size = s.length := by simp [ByteArray.size]
  have hex : (⟨s.toArray⟩ : ByteArray).extract l s.length = ⟨(s.drop l).toArray⟩ := by
    have : ((⟨s.toArray⟩ : ByteArray).extract l s.length).data = (s.drop l).toArray := by
      rw [ByteArray.data_extract]
      apply Array.toList_inj.1
      rw [Array.toList_extract]
      simp only [List.extract_eq_take_drop]
      exact List.take_of_length_le (by simp)
    cases h : (⟨s.toArray⟩ : ByteArray).extract l s.length with
    | mk a => rw [h] at this; simp only at this; rw [this]
  simp [execOp, hx, hl, strOf, Instr.sliceAt, Instr.slice, run_underlying ht.u, Instr.sliceBounds, Instr.sliceBound, asIntOf, h1, hsz, hex]
end
section
variable {n : Nat} {f : Env} {w : World} {ops : Array Oper} {K : Env → World → Prop} {rest : List Oper} {d : Option Nat} {ty : TypeId} {pos : String} {af : Array Edge} {gd : Option (Nat × Bool)}
theorem Y_toStr {x : Operand} {v : Value} {bs : Bytes} (hx : ev f x = v) (h : BytesAt w v bs) : (execOp (ev f) ⟨d, .convert 26 9 x, ty, pos, af, gd⟩).run Tryd.prog w = .ok (.value (strOf bs)) w := by
  subst hx
  simp [execOp, run_bytes_string w _ bs h]
theorem Y_neqMap {x : Operand} {r : Option Nat} (hx : ev f x = .map r) : (execOp (ev f) ⟨d, .binOp .neq 108 x (.const (.map none)) 108, ty, pos, af, gd⟩).run Tryd.prog w = .ok (.value (.bool r.isSome)) w := by
  refine Y_bin hx rfl ?_
  cases r with
  | none => kernel_rfl
  | some r => kernel_rfl
theorem Y_lookup {x y : Operand} {r : Nat} {m : CMap} {k : Bytes} (hx : ev f x = .map (some r)) (hy : ev f y = strOf k) (hc : CompAt w (.map (some r)) (some m)) : (execOp (ev f) ⟨d, .lookup 108 x y true, ty, pos, af, gd⟩).run Tryd.prog w = .ok (.value (.tuple #[.int .u16 (((lookC m k).getD 0 : Nat) : Int), .bool (lookC m k).isSome])) w := by
  obtain ⟨r', es, ck, e, hr, hm⟩ := hc
  cases e
  have := run_look w r es ck m k hr hm
  simp [execOp, hx, hy, this]
theorem WL_mapPut {x y z : Operand} {r p : Nat} {m : CMap} {k : Bytes} {ty : TypeId} (hx : ev f x = .map (some r)) (hy : ev f y = strOf k) (hz : ev f z = .int .u16 (p : Int)) (hc : CompAt w (.map (some r)) (some m)) (hl : lookC m k = none)
    (h : ∀ w', CompAt w' (.map (some r)) (some (m ++ [(k, p)])) → Chg (· = r) w w' → WL n Tryd.prog ops K rest f w') : WL n Tryd.prog ops K (⟨none, .mapUpdate 108 x y z, ty, pos, af, none⟩ :: rest) f w := by
  obtain ⟨r', es, ck, e, hr, hm⟩ := hc
  cases e
  have hrun := run_put w r es ck m k p hr hm hl
  refine WL_do rfl rfl ?_ (h (setObjW w r (.map (es.push ⟨strOf k, .int .u16 (p : Int), ck⟩) (ck + 1))) ⟨r, _, _, rfl, setObjW_at w r _ _ hr, mapOf_push hm k p ck⟩ (setObjW_chg w r _ (by rintro ⟨c, t, h⟩; rw [hr] at h; cases h)))
  simp [execOp, hx, hy, hz, hrun]
end
/-! bytes and a map that grow -/
def Foot2 (mv cv : Value) (k : Nat) : Prop := mv.ownBlock = some k ∨ mapBlock cv = some k
structure Pk (w : World) (mv cv : Value) (msg : Bytes) (w' : World) (mv' : Value) (msg' : Bytes) (c' : Option CMap) : Prop where
  was : Own w mv msg
  own : Own w' mv' msg'
  old : Own w' mv msg
  comp : CompAt w' cv c'
  chg : Chg (Foot2 mv cv) w w'
  at_ : mv'.ownBlock = mv.ownBlock ∨ ∃ k, w.heap.size ≤ k ∧ mv'.ownBlock = some k
theorem Own.not_map {w : World} {v : Value} {bs : Bytes} (h : Own w v bs) {r : Nat} {es : Array MapEntry} {ck : Nat} (hr : w.heap[r]? = some (.map es ck)) : v.ownBlock ≠ some r := by
  rcases h.2 with ⟨rfl, _⟩ | ⟨g', cap, cur, rfl, _, hg', _⟩
  · simp [Value.ownBlock]
  · simp only [Value.ownBlock]
    intro e
    cases e
    rw [hr] at hg'
    cases hg'
theorem CompAt.apart {w : World} {mv cv : Value} {msg : Bytes} {c : Option CMap} (h : CompAt w cv c) (ho : Own w mv msg) (k : Nat) (hk : mapBlock cv = some k) : mv.ownBlock ≠ some k := by
  cases c with
  | none => rw [show cv = .map none from h] at hk; cases hk
  | some m =>
    obtain ⟨r, es, ck, rfl, hr, _⟩ := h
    cases hk
    exact ho.not_map hr
theorem CompAt.lt {w : World} {cv : Value} {c : Option CMap} (h : CompAt w cv c) {k : Nat} (hk : mapBlock cv = some k) : k < w.heap.size := by
  cases c with
  | none => rw [show cv = .map none from h] at hk; cases hk
  | some m =>
    obtain ⟨r, es, ck, rfl, hr, _⟩ := h
    cases hk
    exact (Array.getElem?_eq_some_iff.1 hr).1
section
variable {w w1 w2 : World} {mv cv mv1 mv2 : Value} {msg msg1 msg2 : Bytes} {c c1 : Option CMap}
theorem Pk.refl (h : Own w mv msg) (hc : CompAt w cv c) : Pk w mv cv msg w mv msg c := ⟨h, h, h, hc, Chg.refl _ _, .inl rfl⟩
/-- bytes that grow leave the map alone -/
theorem Pk.grew (h : Pk w mv cv msg w1 mv1 msg1 c1) (hg : GrewB w1 mv1 msg1 w2 mv2 msg2) (hp : msg <+: msg1) : Pk w mv cv msg w2 mv2 msg2 c1 := by
  refine ⟨h.was, hg.own, ?_, ?_, ?_, ?_⟩
  · rcases h.at_ with ha | ⟨k, hk, ha⟩
    · have h0 : GrewB w1 mv msg w1 mv1 msg1 := ⟨h.old, h.own, h.old, grownBy_refl _ _, .inl ha⟩
      exact (h0.trans hg hp).old
    · refine World.ownsRow.kept h.old hg.by_ (.inr ?_)
      rw [ha]
      intro e
      have := (h.was.lt k e).2
      omega
  · refine h.comp.kept fun r hr => ?_
    exact hg.by_.block r (h.comp.lt hr) (fun e => h.comp.apart h.own r hr e.symm)
  · refine h.chg.trans (Chg.of_grownBy hg.by_ (S := fun k => mv1.ownBlock = some k) (fun k hk => hk) (fun k hk => hg.old.solid hk)) fun k hk hs => ?_
    rcases h.at_ with ha | ⟨j, hj, ha⟩
    · exact .inl (by rw [← ha]; exact hs)
    · rw [ha] at hs; cases hs; omega
  · rcases Grew.at_ hg with hb | ⟨k, hk, hb⟩
    · rw [hb]; exact h.at_
    · exact .inr ⟨k, Nat.le_trans h.chg.size hk, hb⟩
theorem Own.grow (h : Own w mv msg) (hg : Grows w w1) : Own w1 mv msg := own_grow h hg
theorem CompAt.grow (h : CompAt w cv c) (hg : Grows w w1) : CompAt w1 cv c := h.kept fun r hr => hg.block r (h.lt hr)
theorem Pk.grow (h : Pk w mv cv msg w1 mv1 msg1 c1) (hg : Grows w1 w2) : Pk w mv cv msg w2 mv1 msg1 c1 :=
  ⟨h.was, h.own.grow hg, h.old.grow hg, h.comp.grow hg, h.chg.trans (Chg.of_below hg (fun _ => False)) (fun _ _ h => h.elim), h.at_⟩
/-- a new entry of the map -/
theorem Pk.put {r : Nat} {c2 : Option CMap} (h : Pk w mv (.map (some r)) msg w1 mv1 msg1 c1) (hc : CompAt w2 (.map (some r)) c2) (hg : Chg (· = r) w1 w2) : Pk w mv (.map (some r)) msg w2 mv1 msg1 c2 := by
  have kept : ∀ {v : Value} {bs : Bytes}, Own w1 v bs → Own w2 v bs := fun {v bs} ho => by
    have hne := h.comp.apart ho r rfl
    rcases ho.2 with ⟨rfl, h0⟩ | ⟨g, cap, cur, rfl, hb, hgg, hr⟩
    · exact ⟨ho.1, .inl ⟨rfl, h0⟩⟩
    · refine ⟨ho.1, .inr ⟨g, cap, cur, rfl, hb, hg.kept hgg ?_, hr⟩⟩
      intro e
      subst e
      exact hne rfl
  refine ⟨h.was, kept h.own, kept h.old, hc, h.chg.trans hg (fun k _ e => .inr (by rw [e]; rfl)), h.at_⟩
end
end Go.Proofs.YtgkhfpkfjajdjaaDoor

/- How a name is packed: the walk of Name.pack. -/
namespace Go.Proofs.YtgkhfpkfjajdjaaDoor
open Go.RowKit
set_option maxHeartbeats 2000000
set_option maxRecDepth 100000

/-- an error: a pointer of one of two types -/
def IsErr (w : World) (v : Value) : Prop := ∃ a, (v = .iface 168 (.pointer (some a)) ∧ Solid w a.block) ∨ v = .iface 148 (.pointer (some a))
theorem IsErr.firm {w w1 : World} {v : Value} (h : IsErr w v) (hf : ∀ k, Solid w k → Solid w1 k) : IsErr w1 v := by
  obtain ⟨a, ⟨e, hs⟩ | e⟩ := h
  · exact ⟨a, .inl ⟨e, hf _ hs⟩⟩
  · exact ⟨a, .inr e⟩
theorem IsErr.grow {w w1 : World} {v : Value} (h : IsErr w v) (hg : Grows w w1) : IsErr w1 v := h.firm fun k hk => hk.of_eq (hg.block k hk.lt)
theorem IsErr.pk {w w1 : World} {mv cv mv1 : Value} {msg msg1 : Bytes} {c1 : Option CMap} {v : Value} (h : IsErr w v) (hp : Pk w mv cv msg w1 mv1 msg1 c1) : IsErr w1 v := h.firm hp.chg.firm
/-- a variable that holds an error -/
def ErrIs (w : World) (G : Nat) : Prop := ∃ tv p fr, w.heap[G]? = some (.cells #[.iface tv p] 78 fr) ∧ IsErr w (.iface tv p)
/-- the package's errors -/
def errGs : List Nat := [0, 1, 9, 10, 11, 12, 2, 3, 4, 5
, 8
, 6
, 7
  ]
def Errs (w : World) : Prop := ∀ G ∈ errGs, ErrIs w G
theorem Pk.kept {w w1 : World} {mv cv mv1 : Value} {msg msg1 : Bytes} {c1 c : Option CMap} (h : Pk w mv cv msg w1 mv1 msg1 c1) (hc : CompAt w cv c) {k : Nat} {cs : Array Value} {t : TypeId} {fr : Nat × Nat} (hk : w.heap[k]? = some (.cells cs t fr)) (ht : t ≠ 5) : w1.heap[k]? = some (.cells cs t fr) := by
  refine h.chg.kept hk ?_
  rintro (e | e)
  · exact Own.ne h.was hk ht e
  · exact hc.ne hk e
theorem Errs.pk {w w1 : World} {mv cv mv1 : Value} {msg msg1 : Bytes} {c1 c : Option CMap} (he : Errs w) (h : Pk w mv cv msg w1 mv1 msg1 c1) (hc : CompAt w cv c) : Errs w1 := fun G hG => by
  obtain ⟨tv, p, fr, hk, hI⟩ := he G hG
  exact ⟨tv, p, fr, h.kept hc hk (by decide), hI.pk h⟩
theorem Errs.grow {w w1 : World} (he : Errs w) (hg : Grows w w1) : Errs w1 := fun G hG => by
  obtain ⟨tv, p, fr, hk, hI⟩ := he G hG
  exact ⟨tv, p, fr, hg.kept hk, hI.grow hg⟩
theorem Pk.back {w w1 : World} {mv cv mv1 : Value} {msg msg1 : Bytes} {c1 : Option CMap} (h : Pk w mv cv msg w1 mv1 msg1 c1) : Pk w mv cv msg w1 mv msg c1 := ⟨h.was, h.old, h.old, h.comp, h.chg, .inl rfl⟩
/-- what a packing leaves -/
def PackPost (w : World) (mv cv : Value) (msg : Bytes) (r : PR) (e : Ending) (w' : World) : Prop :=
  match r with
  | .ok o c' => ∃ mv', e = .returned (.tuple #[mv', .nilIface]) ∧ Pk w mv cv msg w' mv' (msg ++ o) c'
  | .bad c' => ∃ v tv p, e = .returned (.tuple #[v, .iface tv p]) ∧ IsErr w' (.iface tv p) ∧ Pk w mv cv msg w' mv msg c'
theorem packPost_bad {w : World} {mv cv : Value} {msg : Bytes} {r : PR} {c' : Option CMap} {w' : World} (hr : r = .bad c') (v : Value) (tv : TypeId) (p : Value) (hI : IsErr w' (.iface tv p)) (h : Pk w mv cv msg w' mv msg c') : PackPost w mv cv msg r (.returned (.tuple #[v, .iface tv p])) w' := by
  subst hr; exact ⟨v, tv, p, rfl, hI, h⟩
theorem packPost_ok {w : World} {mv cv : Value} {msg o : Bytes} {r : PR} {c' : Option CMap} {w' : World} (hr : r = .ok o c') (mv' : Value) (h : Pk w mv cv msg w' mv' (msg ++ o) c') : PackPost w mv cv msg r (.returned (.tuple #[mv', .nilIface])) w' := by
  subst hr; exact ⟨mv', rfl, h⟩
/-- a name in the midst of a block -/
structure NameIn (cs : Array Value) (o : Nat) (nm : Bytes) : Prop where
  len : nm.length ≤ 255
  at_ : ∀ i (hi : i < nm.length), cs.toList[o + 0 + i * 1]? = some (.int .u8 (nm[i].toNat : Int))
  last : cs.toList[o + 255]? = some (.int .u8 (nm.length : Int))
theorem scan_dot (pos : Nat) (r part out : Bytes) (c : Option CMap) : scan pos (46 :: r) part out c = if 64 ≤ part.length then .bad c else if part.length = 0 then .bad c else scan pos r [] (out ++ UInt8.ofNat part.length :: part) c := by
  conv => lhs; unfold scan
  rw [if_pos rfl]
theorem scan_char (pos : Nat) (b : UInt8) (hb : b ≠ 46) (r part out : Bytes) (c : Option CMap) : scan pos (b :: r) part out c = if part.length = 0 then (match c with
      | none => scan pos r [b] out none
      | some m => match lookC m (b :: r) with
        | some p => .ok (out ++ ptrB p) (some m)
        | none => if pos + out.length ≤ 16383 then scan pos r [b] out (some (m ++ [(b :: r, pos + out.length)])) else scan pos r [b] out (some m)) else scan pos r (part ++ [b]) out c := by
  conv => lhs; unfold scan
  rw [if_neg hb]
  rfl
theorem scan_end (pos : Nat) (part out : Bytes) (c : Option CMap) : scan pos [] part out c = .ok (out ++ [0]) c := rfl
theorem name_last {nm : Bytes} (h : nm ≠ []) : nm.getLast? = some (nm[nm.length - 1]'(by have := List.length_pos_iff.2 h; omega)) := by
  rw [List.getLast?_eq_getElem?, List.getElem?_eq_getElem]
theorem b46e' (b : UInt8) : ((b.toNat : Int) == 46) = decide (b = 46) := by
  by_cases h : b = 46
  · subst h; rfl
  · have h2 : b.toNat ≠ 46 := fun e => h (UInt8.toNat_inj.1 (by rw [e]; rfl))
    simp [h]; omega
theorem u8_sub1 {n : Nat} (h : 0 < n) (h2 : n ≤ 255) : IntKind.u8.wrap ((n : Int) - 1) = ((n - 1 : Nat) : Int) := by
  rw [wrap8]; omega
theorem or_192 (q : Nat) (h : q < 64) : bits .or .u16 (q : Int) 192 = ((192 + q : Nat) : Int) := by
  have e := u16_or_nat q 192 (by omega) (by omega)
  rw [Nat.or_comm, nat_join 6 192 q (by decide) (by simpa using h)] at e
  exact_mod_cast e
theorem NameIn.bytes {cs : Array Value} {o : Nat} {nm : Bytes} (h : NameIn cs o nm) (i : Nat) (hi : i ≤ nm.length) : (cs.toList.drop (o + 0 + i)).take (nm.length - i) = bv (nm.drop i) := by
  refine List.ext_getElem? fun j => ?_
  by_cases hj : j < nm.length - i
  · rw [List.getElem?_take_of_lt hj, List.getElem?_drop]
    have := h.at_ (i + j) (by omega)
    rw [Nat.mul_one, ← Nat.add_assoc] at this
    rw [this]
    simp [bv, List.getElem?_drop, List.getElem?_eq_getElem (show i + j < nm.length by omega)]
  · rw [List.getElem?_eq_none (by simp; omega), List.getElem?_eq_none (by simp [bv]; omega)]
def sndN : Nat → Code → Code
  | 0, c => c
  | k + 1, .seq _ y => sndN k y
  | _, c => c
theorem name_loop (w w1 : World) (g o : Nat) (cs : Array Value) (t : TypeId) (fr : Nat × Nat) (nm : Bytes) (hN : NameIn cs o nm) (hg : w.heap[g]? = some (.cells cs t fr)) (hg1 : w1.heap[g]? = some (.cells cs t fr)) (ht : t ≠ 5) (h254 : nm.length ≤ 254) (mv cv : Value) (msg : Bytes) (st : Nat) (hst : st ≤ msg.length) (c : Option CMap) (hcomp : CompAt w cv c) (hck : CompOk c) (hlen : msg.length + 600 ≤ 200000000000000) (hE : Errs w) (P1 : Pk w mv cv msg w1 mv msg c) (f : Env)
    (he : EnvHas f [(0, .pointer (some ⟨g, o, none⟩)), (1, mv), (2, cv), (3, .int .i64 (st : Int)), (10, mv)]) :
    WC 180 Tryd.prog (sndN 5 (Tryd.f81.body.getD .skip)) (RetQ Tryd.prog Tryd.f81 (PackPost w mv cv msg (scan (msg.length - st) nm [] [] c))) f w1 := by
  conv => { arg 3; whnf }
  obtain ⟨f, rfl⟩ := he.form
  refine GO ?_
  refine WC_loop (fun m f w' => ∃ (i bg : Nat) (mv1 : Value) (out : Bytes) (c1 : Option CMap) (ns : Bytes), m = nm.length - i ∧ i ≤ nm.length ∧ EnvHas f [(0, .pointer (some ⟨g, o, none⟩)), (1, mv1), (2, cv), (3, .int .i64 (st : Int)), (10, mv), (11, strOf ns), (12, .int .i64 (i : Int)), (13, .int .i64 (bg : Int))] ∧ Pk w mv cv msg w' mv1 (msg ++ out) c1 ∧ bg ≤ i ∧ (46 : UInt8) ∉ (nm.drop bg).take (i - bg) ∧ (bg = 0 ∨ nm[bg - 1]? = some 46) ∧ scan (msg.length - st) (nm.drop i) ((nm.drop bg).take (i - bg)) out c1 = scan (msg.length - st) nm [] [] c ∧ (ns = [] ∨ ns = nm) ∧ CompOk c1 ∧ out.length ≤ bg) nm.length ?_ ?_
  · exact ⟨0, 0, mv, [], c, [], rfl, Nat.zero_le _, ⟨rfl, rfl, rfl, rfl, rfl, rfl, rfl, rfl, trivial⟩, by simpa using P1, Nat.le_refl _, by simp, .inl rfl, by simp, .inl rfl, hck, by simp⟩
  rintro m f w2 ⟨i, bg, mv1, out, c1, ns, rfl, hi, he, P2, hbi, hpd, hbg, hscan, hns, hck1, hol⟩
  obtain ⟨f, rfl⟩ := he.form
  have hE2 := hE.pk P2 hcomp
  have hg2 := P2.kept hcomp hg ht
  have hplen : ((nm.drop bg).take (i - bg)).length = i - bg := by simp; omega
  have hpre : msg <+: msg ++ out := List.prefix_append _ _
  refine GO ?_
  refine WL_load vv hg2 hN.last ?_
  refine WL_conv (c := (nm.length : Int)) vv (by rw [IntWalk.i64_in _ (by omega)]) ?_
  refine GO ?_
  first | refine WC_sif vv (fun hc => ?_) (fun hc => ?_) | refine WC_if vv (fun hc => ?_) (fun hc => ?_)
  · have hlt : i < nm.length := by simpa using hc
    rw [drop_head hlt] at hscan
    refine GO ?_
    refine WL_y (Y_indexArr vv vv (show i < 255 by omega)) ?_
    refine WL_load vv hg2 (hN.at_ i hlt) ?_
    refine WL_y (Y_eqlR vv vv (b46e' _)) ?_
    refine GO ?_
    first | refine WC_sif vv (fun hc => ?_) (fun hc => ?_) | refine WC_if vv (fun hc => ?_) (fun hc => ?_)
    · have hb : nm[i] = 46 := by simpa using hc
      rw [hb, scan_dot, hplen] at hscan
      refine GO ?_
      refine WL_sub (c := ((i - bg : Nat) : Int)) vv vv (by rw [IntWalk.i64_in _ (by omega)]; omega) ?_
      refine GO ?_
      first | refine WC_sif vv (fun hc => ?_) (fun hc => ?_) | refine WC_if vv (fun hc => ?_) (fun hc => ?_)
      · have h64 : 64 ≤ i - bg := by have : (64 : Int) ≤ ((i - bg : Nat) : Int) := (by simpa using hc); omega
        rw [if_pos h64] at hscan
        obtain ⟨tv, p, fr', hG, hI⟩ := hE2 11 (by decide)
        refine WC_seq (WC_draws (fun w' => w'.heap[11]? = some (.cells #[.iface tv p] 78 fr')) (by kernel_rfl) (fun w1 g => g.kept hG) ?_)
        intro w3 g3 hS3
        refine WT 0 ?_
        refine WT 1 ?_
        refine WT 2 ?_
        refine WT 3 ?_
        refine WD_done (by kernel_rfl) ?_
        refine GO ?_
        exact ret2 (v1 := mv) (v2 := .iface tv p) Tryd.results81 rfl rfl (packPost_bad (c' := c1) hscan.symm _ _ _ (hI.grow g3) (P2.grow g3).back)
      have h64 : ¬ 64 ≤ i - bg := by have : ¬ (64 : Int) ≤ ((i - bg : Nat) : Int) := (by simpa using hc); omega
      rw [if_neg h64] at hscan
      refine GO ?_
      refine WL_sub (c := ((i - bg : Nat) : Int)) vv vv (by rw [IntWalk.i64_in _ (by omega)]; omega) ?_
      refine GO ?_
      first | refine WC_sif vv (fun hc => ?_) (fun hc => ?_) | refine WC_if vv (fun hc => ?_) (fun hc => ?_)
      · have h0 : i - bg = 0 := by have : ((i - bg : Nat) : Int) = 0 := (by simpa using hc); omega
        rw [if_pos h0] at hscan
        obtain ⟨tv, p, fr', hG, hI⟩ := hE2 12 (by decide)
        refine WC_seq (WC_draws (fun w' => w'.heap[12]? = some (.cells #[.iface tv p] 78 fr')) (by kernel_rfl) (fun w1 g => g.kept hG) ?_)
        intro w3 g3 hS3
        refine WT 0 ?_
        refine WT 1 ?_
        refine WT 2 ?_
        refine WT 3 ?_
        refine WD_done (by kernel_rfl) ?_
        refine GO ?_
        exact ret2 (v1 := mv) (v2 := .iface tv p) Tryd.results81 rfl rfl (packPost_bad (c' := c1) hscan.symm _ _ _ (hI.grow g3) (P2.grow g3).back)
      have h0 : ¬ i - bg = 0 := by have : ¬ ((i - bg : Nat) : Int) = 0 := (by simpa using hc); omega
      rw [if_neg h0] at hscan
      refine GO ?_
      refine WL_sub (c := ((i - bg : Nat) : Int)) vv vv (by rw [IntWalk.i64_in _ (by omega)]; omega) ?_
      refine WL_conv (c := ((UInt8.ofNat (i - bg)).toNat : Int)) vv (u8_wrap _) ?_
      refine WL_slice (vs := [.int .u8 ((UInt8.ofNat (i - bg)).toNat : Int)]) rfl (by simp) rfl (by simp [Value.cells]) rfl ?_
      intro b3 w3 hb3 h3 g3
      refine WL_appendB vv (P2.grow g3).own vv (bytes_cells (n := 1) (bs := [UInt8.ofNat (i - bg)]) h3 rfl rfl) (by simp; omega) (by simp) ?_
      intro mv4 w4 g4
      have P4 := (P2.grow g3).grew g4 hpre
      refine GO ?_
      refine WC_loop (fun m f w' => ∃ (j : Nat) (mv5 : Value), m = i - j ∧ bg ≤ j ∧ j ≤ i ∧ EnvHas f [(0, .pointer (some ⟨g, o, none⟩)), (1, mv5), (2, cv), (3, .int .i64 (st : Int)), (10, mv), (11, strOf ns), (12, .int .i64 (i : Int)), (13, .int .i64 (bg : Int)), (14, .int .i64 (j : Int))] ∧ Pk w mv cv msg w' mv5 (msg ++ out ++ [UInt8.ofNat (i - bg)] ++ (nm.drop bg).take (j - bg)) c1) (i - bg) ?_ ?_
      · exact ⟨bg, mv4, rfl, Nat.le_refl _, hbi, ⟨rfl, rfl, rfl, rfl, rfl, rfl, rfl, rfl, rfl, trivial⟩, by simpa using P4⟩
      rintro m f w5 ⟨j, mv5, rfl, hbj, hji, he, P5⟩
      obtain ⟨f, rfl⟩ := he.form
      have hg5 := P5.kept hcomp hg ht
      have hpre5 : msg <+: msg ++ out ++ [UInt8.ofNat (i - bg)] ++ (nm.drop bg).take (j - bg) := by
        rw [List.append_assoc, List.append_assoc]; exact List.prefix_append _ _
      refine GO ?_
      first | refine WC_sif vv (fun hc => ?_) (fun hc => ?_) | refine WC_if vv (fun hc => ?_) (fun hc => ?_)
      · have hjlt : j < i := by simpa using hc
        refine GO ?_
        refine WL_y (Y_indexArr vv vv (show j < 255 by omega)) ?_
        refine WL_load vv hg5 (hN.at_ j (by omega)) ?_
        refine WL_slice (vs := [.int .u8 (nm[j].toNat : Int)]) rfl (by simp) rfl (by simp [Value.cells]) rfl ?_
        intro b6 w6 hb6 h6 g6
        refine WL_appendB vv (P5.grow g6).own vv (bytes_cells (n := 1) (bs := [nm[j]]) h6 rfl rfl) (by simp; omega) (by simp) ?_
        intro mv7 w7 g7
        have P7 := (P5.grow g6).grew g7 hpre5
        refine GO ?_
        refine WL_inc vv (by omega) ?_
        refine GO ?_
        refine ⟨i - (j + 1), by omega, j + 1, mv7, rfl, by omega, by omega, ⟨rfl, rfl, rfl, rfl, rfl, rfl, rfl, rfl, rfl, trivial⟩, ?_⟩
        have hstep : (nm.drop bg).take (j + 1 - bg) = (nm.drop bg).take (j - bg) ++ [nm[j]] := by
          rw [show j + 1 - bg = j - bg + 1 by omega, List.take_succ_eq_append_getElem (by simp; omega)]
          congr 2
          rw [List.getElem_drop]
          congr 1
          omega
        rw [hstep, ← List.append_assoc]
        exact P7
      have hjge : j = i := by have : ¬ (j : Int) < (i : Int) := (by simpa using hc); omega
      subst hjge
      refine GO ?_
      refine WL_inc vv (by omega) ?_
      refine GO ?_
      refine WL_inc vv (by omega) ?_
      refine GO ?_
      refine ⟨nm.length - (j + 1), by omega, j + 1, j + 1, mv5, out ++ UInt8.ofNat (j - bg) :: (nm.drop bg).take (j - bg), c1, ns, rfl, hlt, ⟨rfl, rfl, rfl, rfl, rfl, rfl, rfl, rfl, trivial⟩, by simpa using P5, Nat.le_refl _, by simp, ?_, by simpa using hscan, hns, hck1, ?_⟩
      · right
        rw [Nat.add_sub_cancel, List.getElem?_eq_getElem hlt, hb]
      · simp; omega
    have hb : nm[i] ≠ 46 := by simpa using hc
    rw [scan_char _ _ hb, hplen] at hscan
    have hnext : (nm.drop bg).take (i + 1 - bg) = (nm.drop bg).take (i - bg) ++ [nm[i]] := by
      rw [show i + 1 - bg = i - bg + 1 by omega, List.take_succ_eq_append_getElem (by simp; omega)]
      congr 2
      rw [List.getElem_drop]
      congr 1
      omega
    have hnd : (46 : UInt8) ∉ (nm.drop bg).take (i + 1 - bg) := by
      rw [hnext]
      simp only [List.mem_append, List.mem_singleton, not_or]
      exact ⟨hpd, fun e => hb e.symm⟩
    have hstart : bg = i ↔ (i = 0 ∨ nm[i - 1]? = some 46) := by
      constructor
      · rintro rfl; exact hbg
      · intro h
        rcases h with h | h
        · omega
        · by_cases e : bg = i
          · exact e
          · exfalso
            apply hpd
            rw [List.mem_iff_getElem?]
            refine ⟨i - 1 - bg, ?_⟩
            rw [List.getElem?_take_of_lt (by omega), List.getElem?_drop, show bg + (i - 1 - bg) = i - 1 by omega]
            exact h
    repeat (first | refine WC_skip ?_ | refine then_norm ?_)
    refine WC_cut (fun f w' => w' = w2 ∧ EnvHas f [(0, .pointer (some ⟨g, o, none⟩)), (1, mv1), (2, cv), (3, .int .i64 (st : Int)), (10, mv), (11, strOf ns), (12, .int .i64 (i : Int)), (13, .int .i64 (bg : Int)), (128, .bool (decide (bg = i) && c1.isSome))]) ?_ ?_
    · refine WC_region ?_
      have hcv : ∃ r, cv = .map r ∧ r.isSome = c1.isSome := by
        have hcm := P2.comp
        cases c1 with
        | none => exact ⟨none, hcm, rfl⟩
        | some m => obtain ⟨r, _, _, e, _⟩ := hcm; exact ⟨some r, e, rfl⟩
      obtain ⟨r, rfl, hr⟩ := hcv
      refine WL_move vv ?_
      by_cases hi0 : i = 0
      · refine WL_y (Y_eqlR (r := true) vv vv (by simp [hi0])) ?_
        refine WL_move vv ?_
        first | refine WL_unwanted (c := true) rfl vv rfl ?_ | refine WL_unwanted (c := false) rfl vv rfl ?_
        first | refine WL_unwanted (c := true) rfl vv rfl ?_ | refine WL_unwanted (c := false) rfl vv rfl ?_
        first | refine WL_unwanted (c := true) rfl vv rfl ?_ | refine WL_unwanted (c := false) rfl vv rfl ?_
        first | refine WL_unwanted (c := true) rfl vv rfl ?_ | refine WL_unwanted (c := false) rfl vv rfl ?_
        first | refine WL_unwanted (c := true) rfl vv rfl ?_ | refine WL_unwanted (c := false) rfl vv rfl ?_
        first | refine WL_unwanted (c := true) rfl vv rfl ?_ | refine WL_unwanted (c := false) rfl vv rfl ?_
        first | refine WL_unwanted (c := true) rfl vv rfl ?_ | refine WL_unwanted (c := false) rfl vv rfl ?_
        first | refine WL_unwanted (c := true) rfl vv rfl ?_ | refine WL_unwanted (c := false) rfl vv rfl ?_
        refine WL_y (Y_pick vv vv vv) ?_
        refine WL_move vv ?_
        refine WL_wanted rfl vv ?_
        refine WL_move vv ?_
        refine WL_wanted rfl vv ?_
        refine WL_y (Y_neqMap vv) ?_
        refine WL_y (Y_pick vv vv vv) ?_
        refine WL_nil ⟨rfl, rfl, rfl, rfl, rfl, rfl, rfl, rfl, rfl, ?_, trivial⟩
        show Value.bool r.isSome = _
        rw [hr, show decide (bg = i) = true by simp; omega]
        rfl
      · have hlt1 : i - 1 < nm.length := by omega
        refine WL_y (Y_eqlR (r := false) vv vv (by simp; omega)) ?_
        refine WL_move vv ?_
        refine WL_wanted rfl vv ?_
        refine WL_move vv ?_
        refine WL_wanted rfl vv ?_
        refine WL_move vv ?_
        refine WL_wanted rfl vv ?_
        refine WL_sub (c := ((i - 1 : Nat) : Int)) vv vv (by rw [IntWalk.i64_in _ (by omega)]; omega) ?_
        refine WL_wanted rfl vv ?_
        refine WL_nilCheck vv ?_
        refine WL_wanted rfl vv ?_
        refine WL_field vv ?_
        refine WL_wanted rfl vv ?_
        refine WL_y (Y_indexArr vv vv (show i - 1 < 255 by omega)) ?_
        refine WL_wanted rfl vv ?_
        refine WL_load vv hg2 (hN.at_ (i - 1) hlt1) ?_
        refine WL_wanted rfl vv ?_
        refine WL_y (Y_eqlR (r := decide (bg = i)) vv vv ?_) ?_
        · rw [b46e']
          apply decide_eq_decide.2
          rw [hstart, List.getElem?_eq_getElem hlt1]
          simp [hi0]
        refine WL_y (Y_pick vv vv vv) ?_
        refine WL_move vv ?_
        cases hd : decide (bg = i) with
        | true =>
          refine WL_wanted rfl vv ?_
          refine WL_move vv ?_
          refine WL_wanted rfl vv ?_
          refine WL_y (Y_neqMap vv) ?_
          refine WL_y (Y_pick vv vv vv) ?_
          refine WL_nil ⟨rfl, rfl, rfl, rfl, rfl, rfl, rfl, rfl, rfl, ?_, trivial⟩
          show Value.bool r.isSome = _
          rw [hr]
          rfl
        | false =>
          first | refine WL_unwanted (c := true) rfl vv rfl ?_ | refine WL_unwanted (c := false) rfl vv rfl ?_
          first | refine WL_unwanted (c := true) rfl vv rfl ?_ | refine WL_unwanted (c := false) rfl vv rfl ?_
          refine WL_y (Y_pick vv vv vv) ?_
          exact WL_nil ⟨rfl, rfl, rfl, rfl, rfl, rfl, rfl, rfl, rfl, rfl, trivial⟩
    rintro f w' ⟨rfl, he⟩
    obtain ⟨f, rfl⟩ := he.form
    cases hcase : (decide (bg = i) && c1.isSome) with
    | false =>
      have hscan2 : scan (msg.length - st) (nm.drop (i + 1)) ((nm.drop bg).take (i + 1 - bg)) out c1 = scan (msg.length - st) nm [] [] c := by
        rw [← hscan, hnext]
        by_cases e : bg = i
        · have hcn : c1 = none := by simpa [e] using hcase
          subst hcn
          rw [if_pos (by omega), show (nm.drop bg).take (i - bg) = [] by rw [show i - bg = 0 by omega]; rfl]
          rfl
        · rw [if_neg (by omega)]
      refine RUN ?_
      refine WL_inc vv (by omega) ?_
      refine GO ?_
      exact ⟨nm.length - (i + 1), by omega, i + 1, bg, mv1, out, c1, ns, rfl, hlt, ⟨rfl, rfl, rfl, rfl, rfl, rfl, rfl, rfl, trivial⟩, P2, by omega, hnd, hbg, hscan2, hns, hck1, hol⟩
    | true =>
      rw [Bool.and_eq_true] at hcase
      have hbe : bg = i := by simpa using hcase.1
      obtain ⟨mm, rfl⟩ : ∃ mm, c1 = some mm := Option.isSome_iff_exists.1 hcase.2
      obtain ⟨r, es, ck, rfl, hr, hm⟩ := P2.comp
      have hC2 : CompAt w' (.map (some r)) (some mm) := ⟨r, es, ck, rfl, hr, hm⟩
      rw [if_pos (by omega)] at hscan
      simp only at hscan
      have hpart : (nm.drop bg).take (i - bg) = [] := by rw [show i - bg = 0 by omega]; rfl
      rw [← drop_head hlt] at hscan
      refine WC_then vv rfl ?_
      refine GO ?_
      refine WC_seq (WC_draws (fun w3 => w3.heap[g]? = some (.cells cs t fr) ∧ CompAt w3 (.map (some r)) (some mm)) (by kernel_rfl) (fun w1 g => ⟨g.kept hg2, hC2.grow g⟩) ?_)
      intro w3 g3 hS3
      refine WT 0 ?_
      refine WT 1 ?_
      refine WT 2 ?_
      refine WT 3 ?_
      refine WT 4 ?_
      refine WT 5 ?_
      refine WT 6 ?_
      refine WT 7 ?_
      refine WD_take (i := 8) rfl rfl rfl rfl (by kernel_rfl) (by assumption) (fun w' hS => by exact Y_load vv hS.1 hN.last) ?_
      refine WD_take (i := 9) rfl rfl rfl rfl (by kernel_rfl) (by assumption) (fun w' hS => by exact Y_sliceArr vv vv vv (show i ≤ nm.length by omega) (show nm.length ≤ 255 by omega) (by omega)) ?_
      refine WD_take (i := 10) rfl rfl rfl rfl (by kernel_rfl) (by assumption) (fun w' hS => by exact Y_toStr (bs := nm.drop i) vv (bytes_of_block hS.1 (by simp) (hN.bytes i hi))) ?_
      refine WD_take (i := 11) rfl rfl rfl rfl (by kernel_rfl) (by assumption) (fun w' hS => by exact Y_lookup vv vv hS.2) ?_
      refine WT 12 ?_
      refine WT 13 ?_
      refine WT 14 ?_
      refine WT 15 ?_
      refine WT 16 ?_
      refine WD_done (by kernel_rfl) ?_
      have P3 := P2.grow g3
      refine GO ?_
      first | refine WC_sif vv (fun hc => ?_) (fun hc => ?_) | refine WC_if vv (fun hc => ?_) (fun hc => ?_)
      · obtain ⟨p, hp⟩ := Option.isSome_iff_exists.1 hc
        rw [hp] at hscan
        simp only at hscan
        have hple := look_le hck1 hp
        refine GO ?_
        rw [hp]
        simp only [Option.getD_some]
        refine WL_y (Y_shr (c := ((p / 256 : Nat) : Int)) vv vv (by decide) (by simp [IntKind.bits, Int.fdiv_eq_ediv_of_nonneg])) ?_
        refine WL_y (Y_or (c := ((192 + p / 256 : Nat) : Int)) vv vv (or_192 _ (by omega))) ?_
        refine WL_conv (c := ((UInt8.ofNat (192 + p / 256)).toNat : Int)) vv (u8_wrap _) ?_
        refine GO ?_
        refine WL_conv (c := ((UInt8.ofNat (p % 256)).toNat : Int)) vv (by rw [wrap8, UInt8.toNat_ofNat']; omega) ?_
        refine WL_slice (vs := [.int .u8 ((UInt8.ofNat (192 + p / 256)).toNat : Int), .int .u8 ((UInt8.ofNat (p % 256)).toNat : Int)]) rfl (by simp) rfl (by simp [Value.cells]) rfl ?_
        intro b4 w4 hb4 h4 g4
        refine WL_appendB vv (P3.grow g4).own vv (bytes_cells (n := 2) (bs := ptrB p) h4 rfl rfl) (by simp [ptrB]; omega) (by simp [ptrB]) ?_
        intro mv5 w5 g5
        refine GO ?_
        refine ret2 (v1 := mv5) (v2 := .nilIface) Tryd.results81 rfl rfl (packPost_ok (o := out ++ ptrB p) (c' := some mm) hscan.symm mv5 ?_)
        rw [← List.append_assoc]
        exact (P3.grow g4).grew g5 hpre
      have hnone : lookC mm (nm.drop i) = none := by simpa using hc
      rw [hnone] at hscan
      simp only at hscan
      obtain ⟨aom, capm, rfl⟩ := P3.own.reads.value
      have hrest : (nm.drop bg).take (i + 1 - bg) = [nm[i]] := by rw [hnext, hpart]; rfl
      refine GO ?_
      refine WL_sub (c := ((msg.length - st + out.length : Nat) : Int)) vv vv (by rw [List.length_append, IntWalk.i64_in _ (by omega)]; omega) ?_
      refine GO ?_
      first | refine WC_sif vv (fun hc => ?_) (fun hc => ?_) | refine WC_if vv (fun hc => ?_) (fun hc => ?_)
      · have h16 : msg.length - st + out.length ≤ 16383 := by have : ((msg.length - st + out.length : Nat) : Int) ≤ 16383 := (by simpa using hc); omega
        rw [if_pos h16] at hscan
        refine WC_cut (fun f w4 => Grows w3 w4 ∧ EnvHas f [(0, .pointer (some ⟨g, o, none⟩)), (1, .slice aom (msg ++ out).length capm), (2, .map (some r)), (3, .int .i64 (st : Int)), (10, mv), (11, strOf nm), (12, .int .i64 (i : Int)), (13, .int .i64 (bg : Int)), (17, .int .i64 ((msg.length - st + out.length : Nat) : Int))]) ?_ ?_
        · refine WC_rs ?_
          refine WL_move vv ?_
          refine WL_y (Y_eqS (b := []) vv rfl) ?_
          refine WL_nil ?_
          first | refine WC_sif vv (fun hc => ?_) (fun hc => ?_) | refine WC_if vv (fun hc => ?_) (fun hc => ?_)
          · refine WC_draws (fun w4 => w4.heap[g]? = some (.cells cs t fr)) (by kernel_rfl) (fun w1 g => g.kept hS3.1) ?_
            intro w4 g4 hS4
            refine WT 0 ?_
            refine WT 1 ?_
            refine WT 2 ?_
            refine WT 3 ?_
            refine WT 4 ?_
            refine WT 5 ?_
            refine WD_take (i := 6) rfl rfl rfl rfl (by kernel_rfl) (by assumption) (fun w' hS => by exact Y_load vv hS hN.last) ?_
            refine WD_take (i := 7) rfl rfl rfl rfl (by kernel_rfl) (by assumption) (fun w' hS => by exact Y_sliceArr0 vv vv (show nm.length ≤ 255 by omega) (by decide)) ?_
            refine WD_take (i := 8) rfl rfl rfl rfl (by kernel_rfl) (by assumption) (fun w' hS => by exact Y_toStr (bs := nm) vv (bytes_of_block hS (by simp) (by have := hN.bytes 0 (by omega); simpa using this))) ?_
            refine WT 9 ?_
            refine WD_done (by kernel_rfl) ?_
            refine then_norm ?_
            exact ⟨g4, rfl, rfl, rfl, rfl, rfl, rfl, rfl, rfl, rfl, trivial⟩
          · have hnn : ns = nm := by
              rcases hns with h | h
              · rw [h] at hc; cases hc
              · exact h
            subst hnn
            refine WC_skip ?_
            refine then_norm ?_
            exact ⟨Grows.refl _, rfl, rfl, rfl, rfl, rfl, rfl, rfl, rfl, rfl, trivial⟩
        rintro f w4 ⟨g4, he⟩
        obtain ⟨f, rfl⟩ := he.form
        have P4 := P3.grow g4
        refine GO ?_
        refine WL_y (Y_sliceS vv vv (show i ≤ nm.length by omega)) ?_
        refine GO ?_
        refine WL_conv (c := ((msg.length - st + out.length : Nat) : Int)) vv (by rw [wrap16]; omega) ?_
        refine WL_mapPut vv vv vv P4.comp hnone ?_
        intro w5 hC5 hch5
        have P5 := P4.put hC5 hch5
        refine GO ?_
        refine WL_inc vv (by omega) ?_
        refine GO ?_
        exact ⟨nm.length - (i + 1), by omega, i + 1, bg, _, out, some (mm ++ [(nm.drop i, msg.length - st + out.length)]), nm, rfl, hlt, ⟨rfl, rfl, rfl, rfl, rfl, rfl, rfl, rfl, trivial⟩, P5, by omega, hnd, hbg, by rw [hrest]; exact hscan, .inr rfl, hck1.push _ _ h16, hol⟩
      have h16 : ¬ msg.length - st + out.length ≤ 16383 := by have : ¬ ((msg.length - st + out.length : Nat) : Int) ≤ 16383 := (by simpa using hc); omega
      rw [if_neg h16] at hscan
      refine GO ?_
      refine WL_inc vv (by omega) ?_
      refine GO ?_
      exact ⟨nm.length - (i + 1), by omega, i + 1, bg, _, out, some mm, ns, rfl, hlt, ⟨rfl, rfl, rfl, rfl, rfl, rfl, rfl, rfl, trivial⟩, P3, by omega, hnd, hbg, by rw [hrest]; exact hscan, hns, hck1, hol⟩
  have hge : i = nm.length := by have : ¬ (i : Int) < (nm.length : Int) := (by simpa using hc); omega
  subst hge
  rw [List.drop_length, scan_end] at hscan
  refine GO ?_
  refine WL_slice (vs := [.int .u8 0]) rfl (by simp) rfl (by simp [Value.cells]) rfl ?_
  intro b3 w3 hb3 h3 g3
  refine WL_appendB vv (P2.grow g3).own vv (bytes_cells (n := 1) (bs := [0]) h3 rfl rfl) (by simp; omega) (by simp) ?_
  intro mv4 w4 g4
  refine GO ?_
  refine ret2 (v1 := mv4) (v2 := .nilIface) Tryd.results81 rfl rfl (packPost_ok (o := out ++ [0]) (c' := c1) hscan.symm mv4 ?_)
  rw [← List.append_assoc]
  exact (P2.grow g3).grew g4 hpre
theorem dns_Name_pack (w : World) (g o : Nat) (cs : Array Value) (t : TypeId) (fr : Nat × Nat) (nm : Bytes) (hN : NameIn cs o nm) (hg : w.heap[g]? = some (.cells cs t fr)) (ht : t ≠ 5) (mv cv : Value) (msg : Bytes) (st : Nat) (hst : st ≤ msg.length) (hown : Own w mv msg) (c : Option CMap) (hcomp : CompAt w cv c) (hck : CompOk c) (hlen : msg.length + 600 ≤ 200000000000000) (hE : Errs w) :
    Calls Tryd.prog 81 #[.pointer (some ⟨g, o, none⟩), mv, cv, .int .i64 (st : Int)] w (PackPost w mv cv msg (packN nm (msg.length - st) c)) := by
  have hnl := hN.len
  have P0 : Pk w mv cv msg w mv msg c := Pk.refl hown hcomp
  refine calls_of_WC Tryd.func81 rfl Tryd.ntmps81 rfl ?_
  refine GO ?_
  refine WL_load vv hg hN.last ?_
  refine GO ?_
  first | refine WC_sif vv (fun hc => ?_) (fun hc => ?_) | refine WC_if vv (fun hc => ?_) (fun hc => ?_)
  · have h254 : 254 < nm.length := by have : (254 : Int) < (nm.length : Int) := (by simpa using hc); omega
    obtain ⟨tv, p, fr', hG, hI⟩ := hE 9 (by decide)
    refine WC_seq (WC_draws (fun w' => w'.heap[9]? = some (.cells #[.iface tv p] 78 fr')) (by kernel_rfl) (fun w1 g => g.kept hG) ?_)
    intro w1 g1 hS1
    refine WT 0 ?_
    refine WT 1 ?_
    refine WT 2 ?_
    refine WD_done (by kernel_rfl) ?_
    refine GO ?_
    refine ret2 (v1 := .slice none 0 0) (v2 := .iface tv p) Tryd.results81 rfl rfl (packPost_bad (c' := c) ?_ _ _ _ (hI.grow g1) (P0.grow g1))
    unfold packN
    rw [if_pos h254]
  have h254 : nm.length ≤ 254 := by have : ¬ (254 : Int) < (nm.length : Int) := (by simpa using hc); omega
  refine GO ?_
  refine WC_seq (WC_draws (fun w' => w'.heap[g]? = some (.cells cs t fr)) (by kernel_rfl) (fun w1 g => g.kept hg) ?_)
  intro w1 g1 hS1
  have hE1 := hE.grow g1
  have P1 := P0.grow g1
  refine WT 0 ?_
  refine WT 1 ?_
  refine WT 2 ?_
  refine WD_take (i := 3) rfl rfl rfl rfl (by kernel_rfl) (by assumption) (fun w' hS => by exact Y_load vv hS hN.last) ?_
  by_cases hz : nm.length = 0
  · refine WD_take (i := 4) rfl rfl rfl rfl (by kernel_rfl) (by assumption) (fun w' hS => by exact Y_eqlR (r := true) vv vv (by simp [hz])) ?_
    refine WT 5 ?_
    refine WD_takeG (i := 6) (c := true) (v := undef) rfl rfl rfl rfl vv rfl rfl (by kernel_rfl) (by assumption) (fun h => by cases h) (fun _ => rfl) ?_
    refine WD_takeG (i := 7) (c := true) (v := undef) rfl rfl rfl rfl vv rfl rfl (by kernel_rfl) (by assumption) (fun h => by cases h) (fun _ => rfl) ?_
    refine WD_takeG (i := 8) (c := true) (v := undef) rfl rfl rfl rfl vv rfl rfl (by kernel_rfl) (by assumption) (fun h => by cases h) (fun _ => rfl) ?_
    refine WD_takeG (i := 9) (c := true) (v := undef) rfl rfl rfl rfl vv rfl rfl (by kernel_rfl) (by assumption) (fun h => by cases h) (fun _ => rfl) ?_
    refine WD_takeG (i := 10) (c := true) (v := undef) rfl rfl rfl rfl vv rfl rfl (by kernel_rfl) (by assumption) (fun h => by cases h) (fun _ => rfl) ?_
    refine WD_takeG (i := 11) (c := true) (v := undef) rfl rfl rfl rfl vv rfl rfl (by kernel_rfl) (by assumption) (fun h => by cases h) (fun _ => rfl) ?_
    refine WD_takeG (i := 12) (c := true) (v := undef) rfl rfl rfl rfl vv rfl rfl (by kernel_rfl) (by assumption) (fun h => by cases h) (fun _ => rfl) ?_
    refine WD_takeG (i := 13) (c := true) (v := undef) rfl rfl rfl rfl vv rfl rfl (by kernel_rfl) (by assumption) (fun h => by cases h) (fun _ => rfl) ?_
    refine WD_takeG (i := 14) (c := true) (v := undef) rfl rfl rfl rfl vv rfl rfl (by kernel_rfl) (by assumption) (fun h => by cases h) (fun _ => rfl) ?_
    refine WD_takeG (i := 15) (c := true) (v := undef) rfl rfl rfl rfl vv rfl rfl (by kernel_rfl) (by assumption) (fun h => by cases h) (fun _ => rfl) ?_
    refine WD_takeG (i := 16) (c := true) (v := undef) rfl rfl rfl rfl vv rfl rfl (by kernel_rfl) (by assumption) (fun h => by cases h) (fun _ => rfl) ?_
    refine WT 17 ?_
    refine WD_done (by kernel_rfl) ?_
    refine GO ?_
    first | refine WC_sif vv (fun hc => ?_) (fun hc => ?_) | refine WC_if vv (fun hc => ?_) (fun hc => ?_)
    · obtain ⟨tv, p, fr', hG, hI⟩ := hE1 10 (by decide)
      refine WC_seq (WC_draws (fun w' => w'.heap[10]? = some (.cells #[.iface tv p] 78 fr')) (by kernel_rfl) (fun w1 g => g.kept hG) ?_)
      intro w2 g2 hS2
      refine WT 0 ?_
      refine WT 1 ?_
      refine WT 2 ?_
      refine WT 3 ?_
      refine WD_done (by kernel_rfl) ?_
      refine GO ?_
      refine ret2 (v1 := mv) (v2 := .iface tv p) Tryd.results81 rfl rfl (packPost_bad (c' := c) ?_ _ _ _ (hI.grow g2) (P1.grow g2))
      unfold packN
      rw [if_neg (by omega), if_pos (by simp [List.eq_nil_of_length_eq_zero hz])]
    · cases hc
  have hne : nm ≠ [] := fun e => hz (by rw [e]; rfl)
  refine WD_take (i := 4) rfl rfl rfl rfl (by kernel_rfl) (by assumption) (fun w' hS => by exact Y_eqlR (r := false) vv vv (by simp; omega)) ?_
  refine WT 5 ?_
  refine WD_takeG (i := 6) (c := false) rfl rfl rfl rfl vv rfl rfl (by kernel_rfl) (by assumption) (fun _ w' hS => by first | exact Y_move vv | exact Y_assign vv | exact Y_nilCheck vv | exact Y_field vv | exact Y_load vv (by first | assumption | exact hS | exact hS.1 | exact hS.2 | exact hS.2.1 | exact hS.2.2) (by rfl) | exact Y_extract vv (by rfl) | exact Y_len vv | exact Y_lss vv vv | exact Y_leq vv vv | exact Y_gtr vv vv | exact Y_geq vv vv | exact Y_eql vv vv | exact Y_neq vv vv | exact Y_pick vv vv vv | exact Y_not vv) (fun h => absurd rfl h) ?_
  refine WD_takeG (i := 7) (c := false) rfl rfl rfl rfl vv rfl rfl (by kernel_rfl) (by assumption) (fun _ w' hS => by first | exact Y_move vv | exact Y_assign vv | exact Y_nilCheck vv | exact Y_field vv | exact Y_load vv (by first | assumption | exact hS | exact hS.1 | exact hS.2 | exact hS.2.1 | exact hS.2.2) (by rfl) | exact Y_extract vv (by rfl) | exact Y_len vv | exact Y_lss vv vv | exact Y_leq vv vv | exact Y_gtr vv vv | exact Y_geq vv vv | exact Y_eql vv vv | exact Y_neq vv vv | exact Y_pick vv vv vv | exact Y_not vv) (fun h => absurd rfl h) ?_
  refine WD_takeG (i := 8) (c := false) rfl rfl rfl rfl vv rfl rfl (by kernel_rfl) (by assumption) (fun _ w' hS => by first | exact Y_move vv | exact Y_assign vv | exact Y_nilCheck vv | exact Y_field vv | exact Y_load vv (by first | assumption | exact hS | exact hS.1 | exact hS.2 | exact hS.2.1 | exact hS.2.2) (by rfl) | exact Y_extract vv (by rfl) | exact Y_len vv | exact Y_lss vv vv | exact Y_leq vv vv | exact Y_gtr vv vv | exact Y_geq vv vv | exact Y_eql vv vv | exact Y_neq vv vv | exact Y_pick vv vv vv | exact Y_not vv) (fun h => absurd rfl h) ?_
  refine WD_takeG (i := 9) (c := false) rfl rfl rfl rfl vv rfl rfl (by kernel_rfl) (by assumption) (fun _ w' hS => by first | exact Y_move vv | exact Y_assign vv | exact Y_nilCheck vv | exact Y_field vv | exact Y_load vv (by first | assumption | exact hS | exact hS.1 | exact hS.2 | exact hS.2.1 | exact hS.2.2) (by rfl) | exact Y_extract vv (by rfl) | exact Y_len vv | exact Y_lss vv vv | exact Y_leq vv vv | exact Y_gtr vv vv | exact Y_geq vv vv | exact Y_eql vv vv | exact Y_neq vv vv | exact Y_pick vv vv vv | exact Y_not vv) (fun h => absurd rfl h) ?_
  refine WD_takeG (i := 10) (c := false) rfl rfl rfl rfl vv rfl rfl (by kernel_rfl) (by assumption) (fun _ w' hS => by exact Y_load vv hS hN.last) (fun h => absurd rfl h) ?_
  refine WD_takeG (i := 11) (c := false) rfl rfl rfl rfl vv rfl rfl (by kernel_rfl) (by assumption) (fun _ w' hS => by exact Y_sub (c := ((nm.length - 1 : Nat) : Int)) vv vv (u8_sub1 (by omega) hnl)) (fun h => absurd rfl h) ?_
  refine WD_takeG (i := 12) (c := false) rfl rfl rfl rfl vv rfl rfl (by kernel_rfl) (by assumption) (fun _ w' hS => by first | exact Y_move vv | exact Y_assign vv | exact Y_nilCheck vv | exact Y_field vv | exact Y_load vv (by first | assumption | exact hS | exact hS.1 | exact hS.2 | exact hS.2.1 | exact hS.2.2) (by rfl) | exact Y_extract vv (by rfl) | exact Y_len vv | exact Y_lss vv vv | exact Y_leq vv vv | exact Y_gtr vv vv | exact Y_geq vv vv | exact Y_eql vv vv | exact Y_neq vv vv | exact Y_pick vv vv vv | exact Y_not vv) (fun h => absurd rfl h) ?_
  refine WD_takeG (i := 13) (c := false) rfl rfl rfl rfl vv rfl rfl (by kernel_rfl) (by assumption) (fun _ w' hS => by first | exact Y_move vv | exact Y_assign vv | exact Y_nilCheck vv | exact Y_field vv | exact Y_load vv (by first | assumption | exact hS | exact hS.1 | exact hS.2 | exact hS.2.1 | exact hS.2.2) (by rfl) | exact Y_extract vv (by rfl) | exact Y_len vv | exact Y_lss vv vv | exact Y_leq vv vv | exact Y_gtr vv vv | exact Y_geq vv vv | exact Y_eql vv vv | exact Y_neq vv vv | exact Y_pick vv vv vv | exact Y_not vv) (fun h => absurd rfl h) ?_
  refine WD_takeG (i := 14) (c := false) rfl rfl rfl rfl vv rfl rfl (by kernel_rfl) (by assumption) (fun _ w' hS => by exact Y_indexArr vv vv (show nm.length - 1 < 255 by omega)) (fun h => absurd rfl h) ?_
  refine WD_takeG (i := 15) (c := false) rfl rfl rfl rfl vv rfl rfl (by kernel_rfl) (by assumption) (fun _ w' hS => by exact Y_load vv hS (hN.at_ (nm.length - 1) (by omega))) (fun h => absurd rfl h) ?_
  refine WD_takeG (i := 16) (c := false) rfl rfl rfl rfl vv rfl rfl (by kernel_rfl) (by assumption) (fun _ w' hS => by exact Y_neqR vv vv (b46 _)) (fun h => absurd rfl h) ?_
  refine WT 17 ?_
  refine WD_done (by kernel_rfl) ?_
  refine GO ?_
  first | refine WC_sif vv (fun hc => ?_) (fun hc => ?_) | refine WC_if vv (fun hc => ?_) (fun hc => ?_)
  · have hlast : nm[nm.length - 1] ≠ 46 := by simpa using hc
    obtain ⟨tv, p, fr', hG, hI⟩ := hE1 10 (by decide)
    refine WC_seq (WC_draws (fun w' => w'.heap[10]? = some (.cells #[.iface tv p] 78 fr')) (by kernel_rfl) (fun w1 g => g.kept hG) ?_)
    intro w2 g2 hS2
    refine WT 0 ?_
    refine WT 1 ?_
    refine WT 2 ?_
    refine WT 3 ?_
    refine WD_done (by kernel_rfl) ?_
    refine GO ?_
    refine ret2 (v1 := mv) (v2 := .iface tv p) Tryd.results81 rfl rfl (packPost_bad (c' := c) ?_ _ _ _ (hI.grow g2) (P1.grow g2))
    unfold packN
    rw [if_neg (by omega), if_pos (by rw [name_last hne]; simpa using hlast)]
  have hlast : nm[nm.length - 1] = 46 := by simpa using hc
  have hpk : packN nm (msg.length - st) c = if nm = [46] then .ok [0] c else scan (msg.length - st) nm [] [] c := by
    unfold packN
    rw [if_neg (by omega), if_neg (by rw [name_last hne, hlast]; simp)]
  refine GO ?_
  refine WL_y (Y_indexArr (i := 0) vv rfl (by decide)) ?_
  refine WL_load vv hS1 (hN.at_ 0 (by omega)) ?_
  refine WL_y (Y_eqlR vv vv (b46e' _)) ?_
  refine GO ?_
  by_cases h46 : nm[0] = 46
  · rw [show decide (nm[0] = 46) = true by simpa using h46]
    refine WL_wanted rfl vv ?_
    refine GO ?_
    refine WL_wanted rfl vv ?_
    refine GO ?_
    refine WL_wanted rfl vv ?_
    refine GO ?_
    refine WL_wanted rfl vv ?_
    refine WL_load vv hS1 hN.last ?_
    refine WL_wanted rfl vv ?_
    refine GO ?_
    refine WL_y (Y_pick vv vv vv) ?_
    refine GO ?_
    first | refine WC_sif vv (fun hc => ?_) (fun hc => ?_) | refine WC_if vv (fun hc => ?_) (fun hc => ?_)
    · have h1 : nm.length = 1 := by have : (nm.length : Int) = 1 := (by simpa using hc); omega
      have hnm : nm = [46] := List.ext_getElem (by simp [h1]) fun i h2 h3 => by
        have : i = 0 := by simp at h3; omega
        subst this
        simpa using h46
      refine GO ?_
      refine WL_slice (vs := [.int .u8 0]) rfl (by simp) rfl (by simp [Value.cells]) rfl ?_
      intro b2 w2 hb2 h2 g2
      refine WL_appendB vv (P1.grow g2).own vv (bytes_cells (n := 1) (bs := [0]) h2 rfl rfl) (by simp; omega) (by simp) ?_
      intro mv3 w3 g3
      refine GO ?_
      refine ret2 (v1 := mv3) (v2 := .nilIface) Tryd.results81 rfl rfl (packPost_ok (o := [0]) (c' := c) ?_ mv3 ((P1.grow g2).grew g3 (List.prefix_refl _)))
      rw [hpk, if_pos hnm]
    have hnr : nm ≠ [46] := fun e => by rw [e] at hc; simp at hc
    rw [hpk, if_neg hnr]
    repeat (first | refine WC_skip ?_ | refine then_norm ?_)
    refine name_loop w w1 g o cs t fr nm hN hg hS1 ht h254 mv cv msg st hst c hcomp hck hlen hE P1 _ ?_
    exact ⟨rfl, rfl, rfl, rfl, rfl, trivial⟩
  have hnr : nm ≠ [46] := fun e => h46 (by simp [e])
  rw [show decide (nm[0] = 46) = false by simpa using h46]
  first | refine WL_unwanted (c := true) rfl vv rfl ?_ | refine WL_unwanted (c := false) rfl vv rfl ?_
  first | refine WL_unwanted (c := true) rfl vv rfl ?_ | refine WL_unwanted (c := false) rfl vv rfl ?_
  first | refine WL_unwanted (c := true) rfl vv rfl ?_ | refine WL_unwanted (c := false) rfl vv rfl ?_
  first | refine WL_unwanted (c := true) rfl vv rfl ?_ | refine WL_unwanted (c := false) rfl vv rfl ?_
  first | refine WL_unwanted (c := true) rfl vv rfl ?_ | refine WL_unwanted (c := false) rfl vv rfl ?_
  refine WL_y (Y_pick vv vv vv) ?_
  refine GO ?_
  first | refine WC_sif vv (fun hc => ?_) (fun hc => ?_) | refine WC_if vv (fun hc => ?_) (fun hc => ?_)
  · cases hc
  rw [hpk, if_neg hnr]
  repeat (first | refine WC_skip ?_ | refine then_norm ?_)
  refine name_loop w w1 g o cs t fr nm hN hg hS1 ht h254 mv cv msg st hst c hcomp hck hlen hE P1 _ ?_
  exact ⟨rfl, rfl, rfl, rfl, rfl, trivial⟩
end Go.Proofs.YtgkhfpkfjajdjaaDoor

/- The small functions that pack. -/
namespace Go.Proofs.YtgkhfpkfjajdjaaDoor
open Go.RowKit
set_option maxHeartbeats 400000
set_option maxRecDepth 100000

theorem dns_packType (w : World) (v : Value) (bs : Bytes) (k : Int) (h0 : 0 ≤ k) (h1 : k < 65536) (hown : Own w v bs) (hlen : bs.length + 2 ≤ 200000000000000) :
    Calls Tryd.prog 82 #[v, .int .u16 k] w (Packs w v bs (two k)) := by
  refine calls_of_WC Tryd.func82 rfl Tryd.ntmps82 rfl ?_
  refine GO ?_
  refine WL_fun (by rfl) ((dns_packUint16 w v bs k h0 h1 hown hlen).mono ?_)
  rintro e w' ⟨v', rfl, hg⟩
  refine ⟨_, rfl, ?_⟩
  refine GO ?_
  exact ret1 Tryd.results82 rfl ⟨_, rfl, hg⟩
end Go.Proofs.YtgkhfpkfjajdjaaDoor

/- What packs numbers, questions and the headers of records. -/
namespace Go.Proofs.YtgkhfpkfjajdjaaDoor
open Go.RowKit
set_option maxHeartbeats 2000000
set_option maxRecDepth 100000

theorem Y_iface {P : Program} {f : Env} {w : World} {d : Option Nat} {ty : TypeId} {pos : String} {af : Array Edge} {gd : Option (Nat × Bool)} {t : TypeId} {x : Operand} {v : Value} {dd : TypeDesc} (hu : P.underlying t = some dd) (hd : (match dd with | .interface _ => true | _ => false) = false) (hx : ev f x = v) :
    (execOp (ev f) ⟨d, .makeInterface t x, ty, pos, af, gd⟩).run P w = .ok (.value (.iface t v)) w := by
  subst hx
  cases dd <;> first | (simp at hd; done) | simp [execOp, Instr.makeInterface, run_underlying hu]
theorem dns_packClass (w : World) (v : Value) (bs : Bytes) (k : Int) (h0 : 0 ≤ k) (h1 : k < 65536) (hown : Own w v bs) (hlen : bs.length + 2 ≤ 200000000000000) :
    Calls Tryd.prog 83 #[v, .int .u16 k] w (Packs w v bs (two k)) := by
  refine calls_of_WC Tryd.func83 rfl Tryd.ntmps83 rfl ?_
  refine GO ?_
  refine WL_fun (by rfl) ((dns_packUint16 w v bs k h0 h1 hown hlen).mono ?_)
  rintro e w' ⟨v', rfl, hg⟩
  refine ⟨_, rfl, ?_⟩
  refine GO ?_
  exact ret1 Tryd.results83 rfl ⟨_, rfl, hg⟩
theorem four_cells (k : Nat) (h1 : k < 4294967296) : bv (four k) = [.int .u8 ((UInt8.ofNat (k / 16777216)).toNat : Int), .int .u8 ((UInt8.ofNat (k / 65536)).toNat : Int), .int .u8 ((UInt8.ofNat (k / 256)).toNat : Int), .int .u8 ((UInt8.ofNat k).toNat : Int)] := by
  simp only [bv, four, two, List.map_append, List.map_cons, List.map_nil, List.cons_append, List.nil_append, UInt8.toNat_ofNat']
  have a1 : (((k : Int) / 65536) / 256).toNat % 2 ^ 8 = k / 16777216 % 2 ^ 8 := by omega
  have a2 : (((k : Int) / 65536) % 256).toNat % 2 ^ 8 = k / 65536 % 2 ^ 8 := by omega
  have a3 : (((k : Int) % 65536) / 256).toNat % 2 ^ 8 = k / 256 % 2 ^ 8 := by omega
  have a4 : (((k : Int) % 65536) % 256).toNat % 2 ^ 8 = k % 2 ^ 8 := by omega
  rw [a1, a2, a3, a4]
theorem dns_packUint32 (w : World) (v : Value) (bs : Bytes) (k : Nat) (h1 : k < 4294967296) (hown : Own w v bs) (hlen : bs.length + 4 ≤ 200000000000000) :
    Calls Tryd.prog 85 #[v, .int .u32 (k : Int)] w (Packs w v bs (four k)) := by
  refine calls_of_WC Tryd.func85 rfl Tryd.ntmps85 rfl ?_
  refine GO ?_
  refine WL_y (Y_shr (c := ((k / 16777216 : Nat) : Int)) vv vv (by decide) (by simp [IntKind.bits, Int.fdiv_eq_ediv_of_nonneg])) ?_
  refine WL_conv (c := ((UInt8.ofNat (k / 16777216)).toNat : Int)) vv (u8_wrap _) ?_
  refine GO ?_
  refine WL_y (Y_shr (c := ((k / 65536 : Nat) : Int)) vv vv (by decide) (by simp [IntKind.bits, Int.fdiv_eq_ediv_of_nonneg])) ?_
  refine WL_conv (c := ((UInt8.ofNat (k / 65536)).toNat : Int)) vv (u8_wrap _) ?_
  refine GO ?_
  refine WL_y (Y_shr (c := ((k / 256 : Nat) : Int)) vv vv (by decide) (by simp [IntKind.bits, Int.fdiv_eq_ediv_of_nonneg])) ?_
  refine WL_conv (c := ((UInt8.ofNat (k / 256)).toNat : Int)) vv (u8_wrap _) ?_
  refine GO ?_
  refine WL_conv (c := ((UInt8.ofNat k).toNat : Int)) vv (u8_wrap _) ?_
  refine WL_slice (vs := [.int .u8 ((UInt8.ofNat (k / 16777216)).toNat : Int), .int .u8 ((UInt8.ofNat (k / 65536)).toNat : Int), .int .u8 ((UInt8.ofNat (k / 256)).toNat : Int), .int .u8 ((UInt8.ofNat k).toNat : Int)]) rfl (by simp) rfl (by simp [Value.cells]) rfl ?_
  intro b1 w1 hb1 hs1 g1
  refine WL_appendB vv (hown.grow g1) vv (bytes_cells (n := 4) (bs := four k) hs1 (by rw [four_cells k h1]; rfl) rfl) (by rw [four_length]; omega) (by rw [four_length]; omega) ?_
  intro v2 w2 g2
  refine GO ?_
  refine ret1 (v := v2) Tryd.results85 rfl ⟨_, rfl, ?_⟩
  have h0 : GrewB w v bs w1 v bs := ⟨hown, hown.grow g1, hown.grow g1, grownBy_of_below g1 _, .inl rfl⟩
  exact h0.trans g2 (List.prefix_refl _)
/-! questions -/
def qCells (nm : Bytes) (ty cl : Nat) : List Value := nameList nm ++ [.int .u16 (ty : Int), .int .u16 (cl : Int)]
theorem nameIn_of {nm : Bytes} (h : nm.length ≤ 255) (pre rest : List Value) (o : Nat) (ho : o = pre.length) : NameIn (pre ++ nameList nm ++ rest).toArray o nm := by
  subst ho
  have hl := nameList_length nm h
  refine ⟨h, fun i hi => ?_, ?_⟩
  · simp only [Nat.add_zero, Nat.mul_one]
    rw [List.append_assoc, List.getElem?_append_right (by omega), Nat.add_sub_cancel_left, List.getElem?_append_left (by omega)]
    simp [nameList, bv, List.getElem?_append_left, hi]
  · simp only
    rw [List.append_assoc, List.getElem?_append_right (by omega), Nat.add_sub_cancel_left, List.getElem?_append_left (by omega)]
    have := nameCells_len nm h
    simpa [nameCells] using this
theorem after_name {nm : Bytes} (h : nm.length ≤ 255) (rest : List Value) (j : Nat) : (nameList nm ++ rest)[256 + j]? = rest[j]? := by
  rw [List.getElem?_append_right (by rw [nameList_length nm h]; omega), nameList_length nm h, Nat.add_sub_cancel_left]
theorem nameList_one (nm : Bytes) : ∀ u ∈ nameList nm, u.oneCell' = true := fun u hu => nameCells_one nm u (by simpa [nameCells] using hu)
theorem dns_Question_pack (w : World) (g : Nat) (nm : Bytes) (ty cl : Nat) (hnm : nm.length ≤ 255) (hty : ty < 65536) (hcl : cl < 65536) (hg : w.heap[g]? = some (.cells (qCells nm ty cl).toArray 121 (0, 0))) (mv cv : Value) (msg : Bytes) (st : Nat) (hst : st ≤ msg.length) (hown : Own w mv msg) (c : Option CMap) (hcomp : CompAt w cv c) (hck : CompOk c) (hlen : msg.length + 1000 ≤ 200000000000000) (hE : Errs w) :
    Calls Tryd.prog 74 #[.pointer (some ⟨g, 0, none⟩), mv, cv, .int .i64 (st : Int)] w (PackPost w mv cv msg ((packN nm (msg.length - st) c).post (two ty ++ two cl))) := by
  have hN : NameIn (qCells nm ty cl).toArray 0 nm := nameIn_of hnm [] _ 0 rfl
  refine calls_of_WC Tryd.func74 rfl Tryd.ntmps74 rfl ?_
  refine GO ?_
  refine WL_fun rfl ((dns_Name_pack w g 0 _ _ _ nm hN hg (by decide) mv cv msg st hst hown c hcomp hck (by omega) hE).mono ?_)
  intro e w1 hP
  cases hpk : packN nm (msg.length - st) c with
  | bad c' =>
    rw [hpk] at hP
    obtain ⟨v, tv, p, rfl, hI, P1⟩ := hP
    refine ⟨_, rfl, ?_⟩
    refine GO ?_
    refine WL_neqNil vv ?_
    refine RUN ?_
    refine WL_build (vs := [(0, .string ⟨#[78, 97, 109, 101]⟩), (1, .iface tv p)]) (l := [.string ⟨#[78, 97, 109, 101]⟩, .iface tv p]) (EvL.eq ⟨rfl, vv, rfl, vv, trivial⟩) ⟨⟨_, rfl⟩, ⟨_, rfl⟩, trivial⟩ (by kernel_rfl) ?_
    refine WL_box vv ?_
    intro b2 w2 hb2 h2 g2
    refine WL_y (Y_iface Tryd.underlying148 rfl vv) ?_
    refine GO ?_
    exact ret2 (v1 := v) (v2 := .iface 148 (.pointer (some ⟨b2, 0, none⟩))) Tryd.results74 rfl rfl (packPost_bad rfl _ _ _ ⟨_, .inr rfl⟩ (P1.grow g2))
  | ok out c' =>
    rw [hpk] at hP
    obtain ⟨mv1, rfl, P1⟩ := hP
    have hol := packN_length nm _ _ _ _ hpk
    refine ⟨_, rfl, ?_⟩
    refine GO ?_
    refine WL_neqNil0 vv ?_
    refine RUN ?_
    have hg1 := P1.kept hcomp hg (by decide)
    refine WL_load (v := .int .u16 (ty : Int)) vv hg1 (after_name hnm _ 0) ?_
    refine WL_fun rfl ((dns_packType w1 mv1 _ ty (by omega) (by omega) P1.own (by rw [List.length_append]; omega)).mono ?_)
    rintro e w2 ⟨mv2, rfl, g2⟩
    refine ⟨_, rfl, ?_⟩
    have P2 := P1.grew g2 (List.prefix_append _ _)
    have hg2 := P2.kept hcomp hg (by decide)
    refine GO ?_
    refine WL_load (v := .int .u16 (cl : Int)) vv hg2 (after_name hnm _ 1) ?_
    refine WL_fun rfl ((dns_packClass w2 mv2 _ cl (by omega) (by omega) P2.own (by simp only [List.length_append, two_length]; omega)).mono ?_)
    rintro e w3 ⟨mv3, rfl, g3⟩
    refine ⟨_, rfl, ?_⟩
    have P3 := P2.grew g3 (by rw [List.append_assoc]; exact List.prefix_append _ _)
    refine GO ?_
    refine ret2 (v1 := mv3) (v2 := .nilIface) Tryd.results74 rfl rfl (packPost_ok (o := out ++ (two ty ++ two cl)) (c' := c') rfl mv3 ?_)
    rw [← List.append_assoc, ← List.append_assoc]
    exact P3
end Go.Proofs.YtgkhfpkfjajdjaaDoor

/- The headers of records, packed; their lengths, put in behind. -/
namespace Go.Proofs.YtgkhfpkfjajdjaaDoor
open Go.RowKit
set_option maxHeartbeats 2000000
set_option maxRecDepth 100000

def rhCells (nm : Bytes) (ty cl ttl len : Nat) : List Value := nameList nm ++ [.int .u16 (ty : Int), .int .u16 (cl : Int), .int .u32 (ttl : Int), .int .u16 (len : Int)]
def rhB (ty cl ttl len : Nat) : Bytes := two ty ++ two cl ++ four ttl ++ two len
theorem rhB_length (ty cl ttl len : Nat) : (rhB ty cl ttl len).length = 10 := rfl
def HPost (w : World) (mv cv : Value) (msg : Bytes) (r : PR) (hd : Bytes) (e : Ending) (w' : World) : Prop :=
  match r with
  | .ok o c' => ∃ mv', e = .returned (.tuple #[mv', .int .i64 ((msg.length + o.length + 8 : Nat) : Int), .nilIface]) ∧ Pk w mv cv msg w' mv' (msg ++ (o ++ hd)) c'
  | .bad c' => ∃ v n tv p, e = .returned (.tuple #[v, n, .iface tv p]) ∧ IsErr w' (.iface tv p) ∧ Pk w mv cv msg w' mv msg c'
theorem dns_RH_pack (w : World) (g : Nat) (nm : Bytes) (ty cl ttl len : Nat) (hnm : nm.length ≤ 255) (hty : ty < 65536) (hcl : cl < 65536) (httl : ttl < 4294967296) (hln : len < 65536) (hg : w.heap[g]? = some (.cells (rhCells nm ty cl ttl len).toArray 76 (0, 0))) (mv cv : Value) (msg : Bytes) (st : Nat) (hst : st ≤ msg.length) (hown : Own w mv msg) (c : Option CMap) (hcomp : CompAt w cv c) (hck : CompOk c) (hlen : msg.length + 1000 ≤ 200000000000000) (hE : Errs w) :
    Calls Tryd.prog 78 #[.pointer (some ⟨g, 0, none⟩), mv, cv, .int .i64 (st : Int)] w (HPost w mv cv msg (packN nm (msg.length - st) c) (rhB ty cl ttl len)) := by
  have hN : NameIn (rhCells nm ty cl ttl len).toArray 0 nm := nameIn_of hnm [] _ 0 rfl
  refine calls_of_WC Tryd.func78 rfl Tryd.ntmps78 rfl ?_
  refine GO ?_
  refine WL_fun rfl ((dns_Name_pack w g 0 _ _ _ nm hN hg (by decide) mv cv msg st hst hown c hcomp hck (by omega) hE).mono ?_)
  intro e w1 hP
  cases hpk : packN nm (msg.length - st) c with
  | bad c' =>
    rw [hpk] at hP
    obtain ⟨v, tv, p, rfl, hI, P1⟩ := hP
    refine ⟨_, rfl, ?_⟩
    refine GO ?_
    refine WL_neqNil vv ?_
    refine RUN ?_
    refine WL_build (vs := [(0, .string ⟨#[78, 97, 109, 101]⟩), (1, .iface tv p)]) (l := [.string ⟨#[78, 97, 109, 101]⟩, .iface tv p]) (EvL.eq ⟨rfl, vv, rfl, vv, trivial⟩) ⟨⟨_, rfl⟩, ⟨_, rfl⟩, trivial⟩ (by kernel_rfl) ?_
    refine WL_box vv ?_
    intro b2 w2 hb2 h2 g2
    refine WL_y (Y_iface Tryd.underlying148 rfl vv) ?_
    refine GO ?_
    exact ret3 (v1 := mv) (v2 := .int .i64 0) (v3 := .iface 148 (.pointer (some ⟨b2, 0, none⟩))) Tryd.results78 rfl rfl rfl ⟨_, _, _, _, rfl, ⟨_, .inr rfl⟩, P1.grow g2⟩
  | ok out c' =>
    rw [hpk] at hP
    obtain ⟨mv1, rfl, P1⟩ := hP
    have hol := packN_length nm _ _ _ _ hpk
    refine ⟨_, rfl, ?_⟩
    refine GO ?_
    refine WL_neqNil0 vv ?_
    refine RUN ?_
    have hg1 := P1.kept hcomp hg (by decide)
    refine WL_load (v := .int .u16 (ty : Int)) vv hg1 (after_name hnm _ 0) ?_
    refine WL_fun rfl ((dns_packType w1 mv1 _ ty (by omega) (by omega) P1.own (by rw [List.length_append]; omega)).mono ?_)
    rintro e w2 ⟨mv2, rfl, g2⟩
    refine ⟨_, rfl, ?_⟩
    have P2 := P1.grew g2 (List.prefix_append _ _)
    have hg2 := P2.kept hcomp hg (by decide)
    refine GO ?_
    refine WL_load (v := .int .u16 (cl : Int)) vv hg2 (after_name hnm _ 1) ?_
    refine WL_fun rfl ((dns_packClass w2 mv2 _ cl (by omega) (by omega) P2.own (by simp only [List.length_append, two_length]; omega)).mono ?_)
    rintro e w3 ⟨mv3, rfl, g3⟩
    refine ⟨_, rfl, ?_⟩
    have P3 := P2.grew g3 (by rw [List.append_assoc]; exact List.prefix_append _ _)
    have hg3 := P3.kept hcomp hg (by decide)
    refine GO ?_
    refine WL_load (v := .int .u32 (ttl : Int)) vv hg3 (after_name hnm _ 2) ?_
    refine WL_fun rfl ((dns_packUint32 w3 mv3 _ ttl httl P3.own (by simp only [List.length_append, two_length]; omega)).mono ?_)
    rintro e w4 ⟨mv4, rfl, g4⟩
    refine ⟨_, rfl, ?_⟩
    have P4 := P3.grew g4 (by rw [List.append_assoc, List.append_assoc]; exact List.prefix_append _ _)
    have hg4 := P4.kept hcomp hg (by decide)
    obtain ⟨ao4, cap4, rfl⟩ := P4.own.reads.value
    refine GO ?_
    refine WL_load (v := .int .u16 (len : Int)) vv hg4 (after_name hnm _ 3) ?_
    refine WL_fun rfl ((dns_packUint16 w4 _ _ len (by omega) (by omega) P4.own (by simp only [List.length_append, two_length, four_length]; omega)).mono ?_)
    rintro e w5 ⟨mv5, rfl, g5⟩
    refine ⟨_, rfl, ?_⟩
    have P5 := P4.grew g5 (by rw [List.append_assoc, List.append_assoc, List.append_assoc]; exact List.prefix_append _ _)
    refine GO ?_
    refine ret3 (v1 := mv5) (v2 := .int .i64 ((msg.length + out.length + 8 : Nat) : Int)) (v3 := .nilIface) Tryd.results78 rfl ?_ rfl ⟨mv5, rfl, ?_⟩
    · show Value.int .i64 _ = _
      simp only [List.length_append, two_length, four_length]
    · simp only [rhB, ← List.append_assoc]
      exact P5
/-- a row of bytes, changed in place behind what is old -/
theorem Pk.patch {w w1 w2 : World} {mv cv mv1 : Value} {msg msg1 msg2 : Bytes} {c1 : Option CMap} (h : Pk w mv cv msg w1 mv1 msg1 c1) (ho : Own w2 mv1 msg2) (hg : w1.grownBy w2 mv1.ownBlock) (hp : msg <+: msg2) : Pk w mv cv msg w2 mv1 msg2 c1 := by
  refine ⟨h.was, ho, ?_, ?_, ?_, h.at_⟩
  · rcases h.at_ with ha | ⟨k, hk, ha⟩
    · rcases h.old.2 with ⟨e0, h0⟩ | ⟨g, cap, cur, e0, hb, hgg, hn, hm, hs, htk⟩
      · rw [e0]; exact ⟨h.old.1, .inl ⟨rfl, h0⟩⟩
      · rcases ho.2 with ⟨e1, _⟩ | ⟨g1, cap1, cur1, e1, hb1, hgg1, hn1, hm1, hs1, htk1⟩
        · rw [e0, e1] at ha; simp [Value.ownBlock] at ha
        · rw [e0, e1] at ha
          simp only [Value.ownBlock, Option.some.injEq] at ha
          subst ha
          have hcap : cap = cap1 := by
            have h1 : Own w1 (.slice (some ⟨g1, 0, none⟩) msg1.length cap1) msg1 := by
              have := h.own
              rw [e1] at this
              rcases this.2 with ⟨h0, _⟩ | ⟨_, _, _, hv, _⟩
              · cases h0
              · have hl : msg2.length = msg1.length := by
                  have h3 := h.own.reads.value
                  obtain ⟨ao, cp, hh⟩ := h3
                  rw [e1] at hh
                  simp only [Value.slice.injEq] at hh
                  exact hh.2.1
                rw [hl] at e1
                rw [← e1]; exact h.own
            obtain ⟨c1, hc1, hs1'⟩ := ownsRow_cap h1
            rw [hgg] at hc1
            simp only [Option.some.injEq, Obj.cells.injEq] at hc1
            rw [← hc1.1, hs] at hs1'
            omega
          rw [e0]
          rw [e1] at ho
          exact ownsRow_shorter (by decide) ho hcap (bv_prefix hp) (by rw [bv_length, Nat.mul_one])
    · refine World.ownsRow.kept h.old hg (.inr ?_)
      rw [ha]
      intro e
      have := (h.was.lt k e).2
      omega
  · exact h.comp.kept fun r hr => hg.block r (h.comp.lt hr) (fun e => h.comp.apart h.own r hr e.symm)
  · refine h.chg.trans (Chg.of_grownBy hg (S := fun k => mv1.ownBlock = some k) (fun k hk => hk) (fun k hk => ho.solid hk)) fun k hk hs => ?_
    rcases h.at_ with ha | ⟨j, hj, ha⟩
    · exact .inl (by rw [← ha]; exact hs)
    · rw [ha] at hs; cases hs; omega
theorem Own.wrote {w w' : World} {v : Value} {bs : Bytes} (h : Own w v bs) {b : Nat} (hw : Wrote b w w') (hne : v.ownBlock ≠ some b) : Own w' v bs := by
  rcases h.2 with ⟨rfl, h0⟩ | ⟨g, cap, cur, rfl, hb, hg, hr⟩
  · exact ⟨h.1, .inl ⟨rfl, h0⟩⟩
  · exact ⟨h.1, .inr ⟨g, cap, cur, rfl, hb, hw.kept hg (fun e => hne (by simp [Value.ownBlock, e])), hr⟩⟩
/-- a block that is new to the packing is written -/
theorem Pk.wrote {w w1 w2 : World} {mv cv mv1 : Value} {msg msg1 : Bytes} {c1 : Option CMap} (h : Pk w mv cv msg w1 mv1 msg1 c1) {g : Nat} {cs : Array Value} {t : TypeId} {fr : Nat × Nat} (hg : w1.heap[g]? = some (.cells cs t fr)) (ht : t ≠ 5) (hw : Wrote g w1 w2) (hg0 : w.heap.size ≤ g) : Pk w mv cv msg w2 mv1 msg1 c1 :=
  ⟨h.was, h.own.wrote hw (Own.ne h.own hg ht), h.old.wrote hw (Own.ne h.old hg ht), h.comp.kept fun r hr => hw.block r (h.comp.lt hr) (fun e => h.comp.ne hg (by rw [hr, e])),
    h.chg.trans hw (fun k hk e => by have e2 : k = g := e; omega), h.at_⟩
section
variable {P : Program} {f : Env} {w : World} {d : Option Nat} {ty : TypeId} {pos : String} {af : Array Edge} {gd : Option (Nat × Bool)}
/-- a slice of a slice -/
theorem Y_slice2 {t e : TypeId} {k : Nat} {x lo hi : Operand} {b o len cap l h : Nat} {kl kh : IntKind} [ht : TySl P t e k] (hx : ev f x = .slice (some ⟨b, o, none⟩) len cap) (hl : ev f lo = .int kl (l : Int)) (hh : ev f hi = .int kh (h : Int)) (h1 : l ≤ h) (h2 : h ≤ cap) (h3 : l < cap) {n' : Nat} (hn' : h - l = n') :
    (execOp (ev f) ⟨d, .slice t x (some lo) (some hi) none, ty, pos, af, gd⟩).run P w = .ok (.value (.slice (some ⟨b, o + l * k, none⟩) n' (cap - l))) w := by
  subst hn'
  have e1 : ¬ cap = l := by omega
  simp [execOp, hx, hl, hh, Instr.sliceAt, Instr.slice, run_underlying ht.u, Instr.sliceBounds, Instr.sliceBound, asIntOf, h1, h2, runSize w ht.s, e1, add_addr]
end
/-- what fixLen leaves: the length put in, or an error -/
theorem dns_fixLen (w0 w : World) (g : Nat) (nm : Bytes) (ty cl ttl len : Nat) (hnm : nm.length ≤ 255) (hg : w.heap[g]? = some (.cells (rhCells nm ty cl ttl len).toArray 76 (0, 0))) (mv0 cv mv : Value) (msg0 A B : Bytes) (c : Option CMap) (P : Pk w0 mv0 cv msg0 w mv (A ++ (two len ++ B)) c) (hA : msg0 <+: A) (hlen : (A ++ (two len ++ B)).length ≤ 200000000000000) (hE : Errs w) (hg0 : w0.heap.size ≤ g) :
    Calls Tryd.prog 80 #[.pointer (some ⟨g, 0, none⟩), mv, .int .i64 (A.length : Int), .int .i64 ((A.length + 2 : Nat) : Int)] w fun e w' =>
      if 65535 < B.length then (∃ tv p, e = .returned (.iface tv p) ∧ IsErr w' (.iface tv p)) ∧ Pk w0 mv0 cv msg0 w' mv (A ++ (two len ++ B)) c else e = .returned .nilIface ∧ Pk w0 mv0 cv msg0 w' mv (A ++ (two B.length ++ B)) c := by
  have hL : (A ++ (two len ++ B)).length = A.length + 2 + B.length := by simp only [List.length_append, two_length]; omega
  rw [hL] at hlen
  obtain ⟨gm, cap, rfl, hcap, hgm⟩ := P.own.form _ rfl (by rw [hL]; omega)
  refine calls_of_WC Tryd.func80 rfl Tryd.ntmps80 rfl ?_
  refine GO ?_
  refine WL_sub (c := (B.length : Int)) vv vv (by rw [hL, IntWalk.i64_in _ (by omega)]; omega) ?_
  refine GO ?_
  first | refine WC_sif vv (fun hc => ?_) (fun hc => ?_) | refine WC_if vv (fun hc => ?_) (fun hc => ?_)
  · have h65 : 65535 < B.length := by have : (65535 : Int) < (B.length : Int) := (by simpa using hc); omega
    obtain ⟨tv, p, fr', hG, hI⟩ := hE 8 (by decide)
    refine GO ?_
    refine ret1 (v := .iface tv p) Tryd.results80 rfl ?_
    rw [if_pos h65]
    exact ⟨⟨_, _, rfl, hI⟩, P⟩
  have h65 : ¬ 65535 < B.length := by have : ¬ (65535 : Int) < (B.length : Int) := (by simpa using hc); omega
  refine GO ?_
  refine WL_y (Y_slice2 (l := A.length) (h := A.length) vv vv vv (Nat.le_refl _) (by rw [hL] at hcap; omega) (by rw [hL] at hcap; omega) (n' := 0) (by omega)) ?_
  refine GO ?_
  refine WL_conv (c := (B.length : Int)) vv (by rw [wrap16]; omega) ?_
  refine WL_fun rfl ((dns_packUint16_at w _ _ gm _ cap rfl P.own (0 + A.length * 1) 0 (cap - A.length) B.length (by omega) (by omega) (by rw [hL] at hcap; omega) (by rw [hL]; omega)).mono ?_)
  rintro e w1 ⟨rfl, ho1, gr1⟩
  refine ⟨_, rfl, ?_⟩
  have hput : put (A ++ (two len ++ B)) (0 + A.length * 1 + 0) (two B.length) = A ++ (two B.length ++ B) := by
    rw [Nat.zero_add, Nat.mul_one, Nat.add_zero, ← List.append_assoc, put_mid A (two len) B (two B.length) rfl, List.append_assoc]
  rw [hput] at ho1
  have P1 := P.patch ho1 gr1 (hA.trans (List.prefix_append _ _))
  have hne : g ≠ gm := fun e => by
    have := Own.ne P.own hg (by decide)
    exact this (by simp [Value.ownBlock, e])
  have hg1 : w1.heap[g]? = some (.cells (rhCells nm ty cl ttl len).toArray 76 (0, 0)) := cell_after hg gr1 hne
  refine GO ?_
  refine WL_conv (c := (B.length : Int)) vv (by rw [wrap16]; omega) ?_
  refine GO ?_
  refine WL_store1 vv vv hg1 (by simp [rhCells, nameList_length nm hnm]) rfl ?_
  intro w2 hw2 h2
  refine GO ?_
  refine ret1 (v := .nilIface) Tryd.results80 rfl ?_
  rw [if_neg h65]
  exact ⟨rfl, P1.wrote hg1 (by decide) hw2 hg0⟩
end Go.Proofs.YtgkhfpkfjajdjaaDoor
