/- The witness world of this seat's rows: the variables as the program's text lays them. Each closed fact once; every law of the seat takes them from here. -/
import Derived.Test.YtkhghacfhlociaaDoorDoor
namespace Go.Proofs.YtkhghacfhlociaaDoor
open Go.RowKit Go.ChangeShapes Go.WideShapes Go.ChangeAt
set_option maxRecDepth 100000
set_option maxHeartbeats 1000000

noncomputable def W0 (os : Os) : World := World.doorLaid Tryd.prog 199 os
noncomputable def W1 (os : Os) : World := { W0 os with tape := fun _ _ => 0, drawn := 0 }
theorem w0_call (os : Os) (args : Array Value) : (W0 os).forCall (fun _ _ => 0) ⟨#[], args, []⟩ = W1 os := by
  simp [World.forCall, Input.heap, W1]
theorem w1_laid (os : Os) : laidMetH Tryd.prog Rows.fnAsksTwiceRow.laid (W1 os).memory :=
  laidMetH_of_parts3 (fuel := 8) (laidMet_of_run' 8 (by kernel_rfl) (by kernel_rfl)) (by kernel_rfl) (by kernel_rfl)
theorem w1_vars (os : Os) : (W1 os).variablesRefB Tryd.checked.prog = true := by kernel_rfl
theorem w1_rest (os : Os) : ((W1 os).heap.toList.drop Tryd.checked.prog.globals.size).take ((begin Tryd.checked.prog (fun _ _ => 0) default).world.heap.size - Tryd.checked.prog.globals.size) =
      (begin Tryd.checked.prog (fun _ _ => 0) default).world.heap.toList.drop Tryd.checked.prog.globals.size := by kernel_rfl
def isHeld {H : Type} : DataW H → Bool
  | .held _ => true
  | _ => false
theorem held_list {H : Type} : ∀ gs : List (DataW H), gs.all isHeld = true → ∃ hs : List H, gs = hs.map .held
  | [], _ => ⟨[], rfl⟩
  | d :: gs, h => by
    simp only [List.all_cons, Bool.and_eq_true] at h
    obtain ⟨hs, rfl⟩ := held_list gs h.2
    cases d <;> simp [isHeld] at h
    rename_i x
    exact ⟨x :: hs, rfl⟩
theorem w1_reads {H : Type} (enc : TypeId × Value → H) (os : Os) : ∃ (hs : List H) (ps : List MemPlace), hs.length = Rows.fnAsksTwiceSpec.vars.length ∧ DataW.trodVars enc Tryd.prog (W1 os).memory (fun _ => true) 8 Rows.fnAsksTwiceSpec.vars = some (hs.map .held, ps) ∧ ps.all (fun p => !MemPlace.frozenIn (W1 os).memory p) = true := by
  have h1 : (DataW.trodVars enc Tryd.prog (W1 os).memory (fun _ => true) 8 Rows.fnAsksTwiceSpec.vars).map (fun x => (x.1.all isHeld && x.1.length == Rows.fnAsksTwiceSpec.vars.length, x.2.all fun p => !MemPlace.frozenIn (W1 os).memory p)) = some (true, true) := by kernel_rfl
  cases h : DataW.trodVars enc Tryd.prog (W1 os).memory (fun _ => true) 8 Rows.fnAsksTwiceSpec.vars with
  | none => rw [h] at h1; cases h1
  | some x =>
    rw [h] at h1
    simp only [Option.map_some, Option.some.injEq, Prod.mk.injEq, Bool.and_eq_true, beq_iff_eq] at h1
    obtain ⟨hs, hg⟩ := held_list x.1 h1.1.1
    exact ⟨hs, x.2, by rw [← h1.1.2, hg]; simp, by rw [← hg], h1.2⟩
/-- the witness, for a law whose arguments hold no place -/
theorem witness_of {H : Type} {enc : TypeId × Value → H} {os : Os} {f : FuncId} {fn : Func} {s : OpenSpec} {conds : List PathCond} {laid : List (String × DataW Unit)} (args : Array Value) {ds : List (DataW H)} (hvars : s.vars = Rows.fnAsksTwiceSpec.vars) (hlaid : laid = Rows.fnAsksTwiceRow.laid)
    (hok : Input.okWideB Tryd.prog (W1 os) f ⟨#[], args, []⟩ = true) (hds : DataW.trodAll enc Tryd.prog (W1 os).memory 0 (fun _ => true) true 8 fn.params.toList args.toList = some (ds, []))
    (hall : ∀ hs : List H, hs.length = Rows.fnAsksTwiceSpec.vars.length → conds.all (PathCond.test Tryd.prog ⟨fn.params.toList, ds, s.bare.plain.varTypes Tryd.prog, hs.map .held⟩) = true ∧ (∀ k, s.cond = some k → k H (ds ++ hs.map .held) = true) ∧ 
      (DataW.weightsEach Tryd.prog (fn.params.toList ++ s.bare.plain.varTypes Tryd.prog) (ds ++ hs.map .held)).all (· ≤ reachBytes) = true) :
    ∃ (w : World) (tape : Tape) (i : Input), w.os = os ∧ (w.forCall tape i).Shaped Tryd.checked.prog ∧ i.vars = [] ∧ Input.okWide Tryd.checked.prog (w.forCall tape i) .any w.heap.size f i ∧
      s.preRow enc Tryd.checked.prog fn conds false laid (w.forCall tape i).memory i.args ∧ ({ modest := false } : Assume).holds Tryd.checked.prog (lone (Frame.enter Tryd.checked.prog f i.args .normal) [] (w.forCall tape i)) := by
  obtain ⟨hs, ps, hlen, hg, hfz⟩ := w1_reads enc os
  obtain ⟨hconds, hkk, hwt⟩ := hall hs hlen
  have hpl : (Tryd.checked.prog.platform == "linux/amd64/v1") = true := by kernel_rfl
  have hx : DataW.whole enc Tryd.prog (W1 os).memory fn.params.toList s.vars false args.toList 8 = some (ds, hs.map .held, ps) := by
    unfold DataW.whole
    rw [hvars, hds, hg]
    simp [hfz]
  have hxb : DataW.whole enc Tryd.prog (W1 os).memory fn.params.toList s.bare.vars false args.toList 8 = some (ds, hs.map .held, ps) := hx
  refine witness_row_atRef (enc := enc) (C := Tryd.checked) false (W0 os) args rfl ?_ ?_ ?_ ?_
  · rw [w0_call]; exact w1_vars os
  · rw [w0_call]; exact w1_rest os
  · rw [w0_call]; exact hok
  · rw [w0_call]
    refine OpenSpec.preRow_of_cond 8 hx hconds hkk ?_ (by rw [hlaid]; exact w1_laid os)
    unfold ChangeSpec.sizedB
    rw [hpl, show DataW.whole enc Tryd.checked.prog (W1 os).memory fn.params.toList s.bare.vars false args.toList 8 = some (ds, hs.map .held, ps) from hxb]
    exact hwt
end Go.Proofs.YtkhghacfhlociaaDoor
