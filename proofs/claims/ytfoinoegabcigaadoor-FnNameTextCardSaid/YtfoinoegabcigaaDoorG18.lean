/- Names as texts: String, textOf, NameText. -/
import Derived.Test.YtfoinoegabcigaaDoorG6
import Derived.Laws.ResultCell
import Derived.Test.YtfoinoegabcigaaDoorG12
set_option linter.unusedVariables false
set_option linter.unusedSimpArgs false
namespace Go.Proofs.YtfoinoegabcigaaDoor
open Go.RowKit
set_option maxHeartbeats 1000000
set_option maxRecDepth 100000
/-- the bytes of a name in a row -/
theorem nameBytes {w : World} {g cap : Nat} {nm : Bytes} {t : TypeId} {fr : Nat × Nat} (hg : w.heap[g]? = some (.cells (nameCells nm) t fr)) : BytesAt w (.slice (some ⟨g, 0, none⟩) nm.length cap) nm := by
  refine ⟨by rw [bv_length, Nat.mul_one], some ⟨g, 0, none⟩, cap, rfl, fun h => by simp at h, fun j x hj => ⟨⟨g, 0, none⟩, rfl, ?_⟩⟩
  have hadd : (⟨g, 0, none⟩ : Addr).add j = ⟨g, j, none⟩ := by unfold Addr.add; split <;> simp_all
  rw [hadd, cell_of_row w g j _ _ _ hg]
  have hlt : j < (bv nm).length := (List.getElem?_eq_some_iff.1 hj).1
  rw [nameCells, List.getElem?_toArray, nameList, List.getElem?_append_left hlt, hj]
theorem dns_Name_String (nm : Bytes) (hl : nm.length ≤ 255) (w : World) :
    Calls Tryd.prog 26 #[.agg (nameCells nm)] w fun e w' => e = .returned (strOf nm) ∧ Below w.heap.size w w' := by
  go_enter Tryd.func26, Tryd.ntmps26
  have g1 : (w.alloc (.cells (nameCells nm) 67)).heap[w.heap.size]? = some (.cells (nameCells nm) 67 (0, 0)) := hp_eq _ _ _ rfl
  have c1 : (w.alloc (.cells (nameCells nm) 67)).cell? ⟨w.heap.size, 255, none⟩ = some (.int .u8 (nm.length : Int)) := (cell_of_row _ _ 255 _ _ _ g1).trans (nameCells_len nm hl)
  have r1 := run_bytes_string _ _ nm (nameBytes (cap := 255) g1)
  have hh0 : (0 : Int) ≤ (nm.length : Int) := by omega
  have hh1 : (nm.length : Int) ≤ 255 := by omega
  have G1 := Lib.hid g1
  clear g1
  go_wp2_with fail
  go_ret
  exact ⟨rfl, (Below.refl _ w).alloc (Nat.le_refl _) _⟩
theorem impl_textOf (nm : Bytes) (hl : nm.length ≤ 255) (w : World) :
    Calls Tryd.prog 28 #[.agg (nameCells nm)] w fun e w' => e = .returned (strOf nm) ∧ Below w.heap.size w w' := by
  go_enter Tryd.func28, Tryd.ntmps28
  have g1 : (w.alloc (.cells (nameCells nm) 67)).heap[w.heap.size]? = some (.cells (nameCells nm) 67 (0, 0)) := hp_eq _ _ _ rfl
  have c1 : (w.alloc (.cells (nameCells nm) 67)).cell? ⟨w.heap.size, 255, none⟩ = some (.int .u8 (nm.length : Int)) := (cell_of_row _ _ 255 _ _ _ g1).trans (nameCells_len nm hl)
  have r1 := run_bytes_string _ _ nm (nameBytes (cap := 255) g1)
  have hh0 : (0 : Int) ≤ (nm.length : Int) := by omega
  have hh1 : (nm.length : Int) ≤ 255 := by omega
  clear g1
  go_wp2_with fail
  go_ret
  exact ⟨rfl, (Below.refl _ w).alloc (Nat.le_refl _) _⟩
theorem impl_NameText (s : ByteArray) (nm : Bytes) (hnm0 : s.data.toList.take 255 = nm) (w : World) :
    Calls Tryd.prog 9 #[.string s] w fun e w' => e = .returned (strOf nm) ∧ Below w.heap.size w w' := by
  have hl : nm.length ≤ 255 := by rw [← hnm0, List.length_take]; omega
  have hnm := Lib.hid hnm0
  clear hnm0
  go_enter Tryd.func9, Tryd.ntmps9
  go_wp2_with fail
  refine (impl_nameOf s nm hnm.out _).mono ?_
  rintro e w1 ⟨rfl, b1⟩
  have B1 := Lib.hid b1
  clear b1
  go_wp2_with fail
  refine (dns_Name_String nm hl _).mono ?_
  rintro e w2 ⟨rfl, b2⟩
  have B2 := Lib.hid b2
  clear b2
  go_wp2_with fail
  go_ret
  exact ⟨rfl, B1.out.trans (B2.out.mono B1.out.size)⟩
end Go.Proofs.YtfoinoegabcigaaDoor

/- NewName of a text of at most 255 bytes. -/
namespace Go.Proofs.YtfoinoegabcigaaDoor
open Go.RowKit
set_option maxHeartbeats 1000000
set_option maxRecDepth 100000
def nameLen (n : Int) : Array Value := (List.replicate 255 (Value.int .u8 0) ++ [Value.int .u8 n]).toArray
theorem name_set_len (n : Int) : (nameCells []).toList.set 255 (Value.int .u8 n) = (nameLen n).toList := by
  have := rowK_set 255 (Value.int .u8 0) (Value.int .u8 0) (Value.int .u8 n) [] (by simp)
  simp only [List.nil_append, List.length_nil, Nat.sub_zero] at this
  rw [name_nil, this]
  rfl
theorem nameLen_size (n : Int) : (nameLen n).size = 256 := by rw [nameLen, List.size_toArray, List.length_append, List.length_replicate]; rfl
theorem nameLen_one (n : Int) : ∀ u ∈ (nameLen n).toList, u.oneCell' = true := by
  intro u hu
  simp only [nameLen, List.mem_append, List.mem_replicate, List.mem_singleton] at hu
  rcases hu with ⟨_, rfl⟩ | rfl
  · rfl
  · rfl
theorem nameLen_copied (nm : Bytes) (h : nm.length ≤ 255) : (List.take 0 (nameLen (nm.length : Int)).toList ++ bv nm ++ List.drop (0 + nm.length) (nameLen (nm.length : Int)).toList).toArray = nameCells nm := by
  rw [nameCells, nameList, nameLen, List.take_zero, List.nil_append, Nat.zero_add, List.drop_append_of_le_length (by rw [List.length_replicate]; exact h), List.drop_replicate]
theorem dns_NewName (s : ByteArray) (nm : Bytes) (hnm0 : s.data.toList = nm) (hl : nm.length ≤ 255) (w : World) :
    Calls Tryd.prog 27 #[.string s] w fun e w' => e = .returned (.tuple #[.agg (nameCells nm), .nilIface]) ∧ Below w.heap.size w w' := by
  have hz := name_zero
  have hs0 := nameCells_size [] (by decide)
  have hsz : s.size = nm.length := by rw [← hnm0, Array.length_toList]; rfl
  have hh0 : (0 : Int) ≤ (nm.length : Int) := by omega
  have hh1 : (nm.length : Int) ≤ 255 := by omega
  have hnm := Lib.hid hnm0
  clear hnm0
  go_enter Tryd.func27, Tryd.ntmps27
  go_wp2_with fail
  have g0 : ((w.alloc (.cells (nameCells []) 67)).alloc (.cells (nameCells []) 67)).heap[w.heap.size + 1]? = some (.cells (nameCells []) 67 (0, 0)) := by simp (disch := (first | (simp only [World.size_alloc]; done) | (simp only [World.size_alloc]; omega) | omega)) only [hp_eq]
  have r0 : ((w.alloc (.cells (nameCells []) 67)).alloc (.cells (nameCells []) 67)).heap[w.heap.size]? = some (.cells (nameCells []) 67 (0, 0)) := by simp (disch := (first | (simp only [World.size_alloc]; done) | (simp only [World.size_alloc]; omega) | omega)) only [hp_eq, hp_ne]
  rw [name_set_len, run_storeRow _ _ _ _ _ g0 (by rw [hs0, nameLen_size]) (nameLen_one _)]
  have h1 : ∃ w1, w1 = ((w.alloc (Obj.cells (nameCells []) 67)).alloc (Obj.cells (nameCells []) 67)).setRow (w.heap.size + 1) (nameLen (nm.length : Int)) := ⟨_, rfl⟩
  obtain ⟨w1, hw1⟩ := h1
  rw [← hw1]
  have g1 : w1.heap[w.heap.size + 1]? = some (.cells (nameLen (nm.length : Int)) 67 (0, 0)) := by rw [hw1]; exact setRow_heap _ _ _ _ _ _ g0
  have r1 : w1.heap[w.heap.size]? = some (.cells (nameCells []) 67 (0, 0)) := by rw [hw1, setRow_other _ _ _ _ (by omega)]; exact r0
  have b1 : Below w.heap.size w w1 := by
    rw [hw1]
    exact below_setRow (((Below.refl _ w).alloc (Nat.le_refl _) _).alloc (by simp) _) (by omega) _
  clear hw1 g0 r0
  have G1 := Lib.hid g1
  have R1 := Lib.hid r1
  have B1 := Lib.hid b1
  clear g1 r1 b1
  go_wp2_with fail
  rw [run_copy_str _ 39 9 3 5 (w.heap.size + 1) 0 255 255 s (nameLen (nm.length : Int)) 67 nm (by rw [hnm.out]; exact List.take_of_length_le hl) Tryd.underlying39 u8_size G1.out (by rw [nameLen_size]; omega), nameLen_copied nm hl]
  have h2 : ∃ w2, w2 = w1.setRow (w.heap.size + 1) (nameCells nm) := ⟨_, rfl⟩
  obtain ⟨w2, hw2⟩ := h2
  rw [← hw2]
  have g2 : w2.heap[w.heap.size + 1]? = some (.cells (nameCells nm) 67 (0, 0)) := by rw [hw2]; exact setRow_heap _ _ _ _ _ _ G1.out
  have r2 : w2.heap[w.heap.size]? = some (.cells (nameCells []) 67 (0, 0)) := by rw [hw2, setRow_other _ _ _ _ (by omega)]; exact R1.out
  have b2 : Below w.heap.size w w2 := by rw [hw2]; exact below_setRow B1.out (by omega) _
  clear hw2
  have G2 := Lib.hid g2
  have R2 := Lib.hid r2
  have B2 := Lib.hid b2
  clear g2 r2 b2
  have hs2 := nameCells_size nm hl
  go_upto_region 5 with (fail)
  go_step
  refine wpList_load_row rfl 67 (.tmp 4) rfl (w.heap.size + 1) rfl 67 (nameCells nm) (0, 0) _ G2.out Tryd.underlying67 rfl (name_size nm hl) ?_
  refine wpList_store_row rfl 67 (.tmp 2) (.tmp 18) rfl w.heap.size (nameCells nm) rfl rfl 67 (nameCells []) R2.out (name_size nm hl) (by rw [hs0, hs2]) (nameCells_all nm) ?_
  repeat (first | go_skip | go_step)
  have hld := run_loadVar_row (P := Tryd.prog) (w2.setRow w.heap.size (nameCells nm)) w.heap.size 67 67 (nameCells nm) (0, 0) _ (setRow_heap _ _ _ _ _ _ R2.out) Tryd.underlying67 rfl (name_size nm hl)
  refine bodyPost_ret (v := .tuple #[.agg (nameCells nm), .nilIface]) ?_ rfl ⟨rfl, below_setRow B2.out (Nat.le_refl _) _⟩
  rw [results_cell_tmp Tryd.results27]
  show ((asAddr (.pointer (some ⟨w.heap.size, 0, none⟩))).run Tryd.prog _).andThen _ = _
  simp only [asAddr, Sem.run_pure, Result.andThen_ok, hld]
  rfl
end Go.Proofs.YtfoinoegabcigaaDoor

/- impl.NewName of a text of at most 255 bytes; the least of two numbers; the head of a text. -/
namespace Go.Proofs.YtfoinoegabcigaaDoor
open Go.RowKit
set_option maxHeartbeats 1000000
set_option maxRecDepth 100000

section
variable {P : Program} {f : Env} {w : World} {d : Option Nat} {ty : TypeId} {pos : String} {af : Array Edge} {gd : Option (Nat × Bool)}
theorem Y_min {x y : Operand} {tys : Array TypeId} {k j : IntKind} {a b : Int} (hx : ev f x = .int k a) (hy : ev f y = .int j b) : (execOp (ev f) ⟨d, .call ⟨.builtin .min, #[x, y], tys⟩, ty, pos, af, gd⟩).run P w = .ok (.value (.int k (if b < a then b else a))) w := by
  simp [execOp, resolve, hx, hy, invoke, builtin, Builtin.min_, Builtin.min2]
theorem Y_sliceH {t : TypeId} {x hi : Operand} {s : Bytes} {h : Nat} {kh : IntKind} [ht : TyStr P t] (hx : ev f x = strOf s) (hh : ev f hi = .int kh (h : Int)) (h1 : h ≤ s.length) :
    (execOp (ev f) ⟨d, .slice t x none (some hi) none, ty, pos, af, gd⟩).run P w = .ok (.value (strOf (s.take h))) w := by
  have hsz : (⟨s.toArray⟩ : ByteArray).size = s.length := by simp [ByteArray.size]
  have hex : (⟨s.toArray⟩ : ByteArray).extract 0 h = ⟨(s.take h).toArray⟩ := by
    have : ((⟨s.toArray⟩ : ByteArray).extract 0 h).data = (s.take h).toArray := by
      rw [ByteArray.data_extract]
      apply Array.toList_inj.1
      rw [Array.toList_extract]
      simp only [List.extract_eq_take_drop, List.drop_zero, Nat.sub_zero]
    cases h : (⟨s.toArray⟩ : ByteArray).extract 0 h with
    | mk a => rw [h] at this; simp only at this; rw [this]
  simp [execOp, hx, hh, strOf, Instr.sliceAt, Instr.slice, run_underlying ht.u, Instr.sliceBounds, Instr.sliceBound, asIntOf, h1, hsz, hex]
theorem Y_eqlNil0 {t u : TypeId} {x : Operand} [ht : TyIf P t] (hx : ev f x = .nilIface) : (execOp (ev f) ⟨d, .binOp .eql t x (.const .nilIface) u, ty, pos, af, gd⟩).run P w = .ok (.value (.bool true)) w :=
  Y_bin (v2 := .nilIface) hx rfl (by simp [eqGuard, run_eql_nil_nil w t ht.u])
end
theorem impl_NewName (nm : Bytes) (hl : nm.length ≤ 255) (w : World) : Calls Tryd.prog 10 #[strOf nm] w fun e w' => e = .returned (.tuple #[strOf nm, .bool true]) ∧ Grows w w' := by
  refine calls_of_WC Tryd.func10 rfl Tryd.ntmps10 rfl ?_
  refine GO ?_
  refine WL_fun rfl ((dns_NewName ⟨nm.toArray⟩ nm rfl hl w).mono ?_)
  rintro e w1 ⟨rfl, g1⟩
  refine ⟨_, rfl, ?_⟩
  have g1 : Grows w w1 := g1
  refine GO ?_
  refine WL_alloc ?_
  intro b4 w2 hb4 h4 g2
  refine WL_storeRow (new := nameCells nm) vv vv h4 (by rw [nameCells_size nm hl]) (by simp [Value.cells]) (fun u hu => List.all_eq_true.1 (by have := nameCells_all nm; simpa using this) u hu) ?_
  intro w3 hw3 h3
  have g3 : Grows w1 w3 := g2.wrote hw3 hb4
  refine GO ?_
  refine WC_seq (WC_draws (fun w' => w'.heap[b4]? = some (.cells (nameCells nm) 67 (0, 0))) (by kernel_rfl) (fun w1 g => g.kept h3) ?_)
  intro w4 g4 hS
  refine WD_take (i := 0) rfl rfl rfl rfl (by kernel_rfl) (by assumption) (fun w' hS => by exact Y_loadRow vv hS (nameCells_size nm hl)) ?_
  refine WT 2 ?_
  refine WD_take (i := 3) rfl rfl rfl rfl (by kernel_rfl) (by assumption) (fun w' hS => by exact Y_eqlNil0 vv) ?_
  refine WD_one (c := 1) (by kernel_rfl) rfl ?_
  refine WL_fun rfl ((impl_textOf nm hl w4).mono ?_)
  rintro e w5 ⟨rfl, g5⟩
  refine ⟨_, rfl, ?_⟩
  have g5 : Grows w4 w5 := g5
  have hS5 := g5.kept hS
  refine WL_nil ⟨hS5, ?_⟩
  refine WD_one (c := 4) (by kernel_rfl) rfl ?_
  refine WL_assign vv (WL_nil ⟨hS5, ?_⟩)
  refine WD_one (c := 5) (by kernel_rfl) rfl ?_
  refine WL_assign vv (WL_nil ⟨hS5, ?_⟩)
  refine WD_done (by kernel_rfl) ?_
  refine GO ?_
  exact ret2 (v1 := strOf nm) (v2 := .bool true) Tryd.results10 rfl rfl ⟨rfl, (g1.trans g3).trans (g4.trans g5)⟩
end Go.Proofs.YtfoinoegabcigaaDoor

/- The witness world again, for the law of names' texts, whose row lists one variable. -/
namespace Go.Proofs.YtfoinoegabcigaaDoor
open Go.RowKit Go.ChangeShapes Go.WideShapes Go.ChangeAt
set_option maxRecDepth 100000
set_option maxHeartbeats 1000000

namespace nmT
theorem w1_laid (os : Os) : laidMetH Tryd.prog Rows.fnNameTextRow.laid (W1 os).memory :=
  laidMetH_of_parts3 (fuel := 8) (laidMet_of_run' 8 (by kernel_rfl) (by kernel_rfl)) (by kernel_rfl) (by kernel_rfl)
theorem w1_reads {H : Type} (enc : TypeId × Value → H) (os : Os) : ∃ (hs : List H) (ps : List MemPlace), hs.length = Rows.fnNameTextSpec.vars.length ∧ DataW.trodVars enc Tryd.prog (W1 os).memory (fun _ => true) 8 Rows.fnNameTextSpec.vars = some (hs.map .held, ps) ∧ ps.all (fun p => !MemPlace.frozenIn (W1 os).memory p) = true := by
  have h1 : (DataW.trodVars enc Tryd.prog (W1 os).memory (fun _ => true) 8 Rows.fnNameTextSpec.vars).map (fun x => (x.1.all isHeld && x.1.length == Rows.fnNameTextSpec.vars.length, x.2.all fun p => !MemPlace.frozenIn (W1 os).memory p)) = some (true, true) := by kernel_rfl
  cases h : DataW.trodVars enc Tryd.prog (W1 os).memory (fun _ => true) 8 Rows.fnNameTextSpec.vars with
  | none => rw [h] at h1; cases h1
  | some x =>
    rw [h] at h1
    simp only [Option.map_some, Option.some.injEq, Prod.mk.injEq, Bool.and_eq_true, beq_iff_eq] at h1
    obtain ⟨hs, hg⟩ := held_list x.1 h1.1.1
    exact ⟨hs, x.2, by rw [← h1.1.2, hg]; simp, by rw [← hg], h1.2⟩
/-- the witness, for a law whose arguments hold no place -/
theorem witness_of {H : Type} {enc : TypeId × Value → H} {os : Os} {f : FuncId} {fn : Func} {s : OpenSpec} {conds : List PathCond} {laid : List (String × DataW Unit)} (args : Array Value) {ds : List (DataW H)} (hvars : s.vars = Rows.fnNameTextSpec.vars) (hlaid : laid = Rows.fnNameTextRow.laid)
    (hok : Input.okWideB Tryd.prog (W1 os) f ⟨#[], args, []⟩ = true) (hds : DataW.trodAll enc Tryd.prog (W1 os).memory 0 (fun _ => true) true 8 fn.params.toList args.toList = some (ds, []))
    (hall : ∀ hs : List H, hs.length = Rows.fnNameTextSpec.vars.length → conds.all (PathCond.test Tryd.prog ⟨fn.params.toList, ds, s.bare.plain.varTypes Tryd.prog, hs.map .held⟩) = true ∧ (∀ k, s.cond = some k → k H (ds ++ hs.map .held) = true) ∧ 
      (DataW.weightsEach Tryd.prog (fn.params.toList ++ s.bare.plain.varTypes Tryd.prog) (ds ++ hs.map .held)).all (· ≤ reachBytes) = true) :
    ∃ (w : World) (tape : Tape) (i : Input), w.os = os ∧ (w.forCall tape i).Shaped Tryd.checked.prog ∧ i.vars = [] ∧ Input.okWide Tryd.checked.prog (w.forCall tape i) .any w.heap.size f i ∧
      s.preRow enc Tryd.checked.prog fn conds false laid (w.forCall tape i).memory i.args ∧ ({ modest := false } : Assume).holds Tryd.checked.prog (lone (Frame.enter Tryd.checked.prog f i.args .normal) [] (w.forCall tape i)) := by
  obtain ⟨hs, ps, hlen, hg, hfz⟩ := w1_reads enc os
  obtain ⟨hconds, hkk, hwt⟩ := hall hs hlen
  have hpl : (Tryd.checked.prog.platform == "linux/amd64/v1") = true := by kernel_rfl
  have hx : DataW.whole enc Tryd.prog (W1 os).memory fn.params.toList s.vars false args.toList 8 = some (ds, hs.map .held, ps) := by
    unfold DataW.whole
    rw [hvars, hds, hg]
    simp [hfz]
  have hxb : DataW.whole enc Tryd.prog (W1 os).memory fn.params.toList s.bare.vars false args.toList 8 = some (ds, hs.map .held, ps) := hx
  refine witness_row_atRef (enc := enc) (C := Tryd.checked) false (W0 os) args rfl ?_ ?_ ?_ ?_
  · rw [w0_call]; exact w1_vars os
  · rw [w0_call]; exact w1_rest os
  · rw [w0_call]; exact hok
  · rw [w0_call]
    refine OpenSpec.preRow_of_cond 8 hx hconds hkk ?_ (by rw [hlaid]; exact w1_laid os)
    unfold ChangeSpec.sizedB
    rw [hpl, show DataW.whole enc Tryd.checked.prog (W1 os).memory fn.params.toList s.bare.vars false args.toList 8 = some (ds, hs.map .held, ps) from hxb]
    exact hwt
end nmT
end Go.Proofs.YtfoinoegabcigaaDoor
