/- laws.FnNameText: what its text says of the law is shown here of the given program: the law returns true for each input that its row speaks of. Its row and its card. -/
import Derived.Test.YtfoinoegabcigaaDoorWalkNameText
import Derived.Test.YtfoinoegabcigaaDoorG18
import Derived.Test.YtfoinoegabcigaaDoorG12
import Derived.Test.YtfoinoegabcigaaDoorG13
set_option linter.unusedVariables false
set_option linter.unusedSimpArgs false
namespace Go.Proofs.YtfoinoegabcigaaDoor
open Go.RowKit Go.ChangeShapes Go.WideShapes Go.ChangeAt
set_option maxHeartbeats 4000000
set_option maxRecDepth 100000

namespace fnNameText
def argv : Array Value := #[.string ⟨#[]⟩]
theorem contract (H : Type) (enc : TypeId × Value → H) (W : World) (base : Nat) (args : Array Value) (ds gs : List (DataW H)) (before : List MemPlace)
    (hval : ∀ (j : Nat) t v, Tryd.f3.params[j]? = some t → args[j]? = some v → Value.okWide Tryd.prog W .any base t v)
    (hW : DataW.Whole enc Tryd.prog Tryd.f3.params.toList Rows.fnNameTextSpec.vars false W args.toList ds gs before)
    (hwt : (DataW.weightsEach Tryd.prog (Tryd.f3.params.toList ++ (OpenSpec.ofChange Rows.fnNameTextSpec).bare.plain.varTypes Tryd.prog) (ds ++ gs)).all (· ≤ reachBytes) = true)
    (hL : laidMetH Tryd.prog Rows.fnNameTextRow.laid W) (hSh : W.ShapedOpen Tryd.prog) :
    Calls Tryd.prog 3 args W fun e W' => ∃ v, e = .returned v ∧ Rows.fnNameTextSpec.post enc Tryd.prog Tryd.f3 false true false false W args v W' := by
  have hW' := hW
  obtain ⟨p, q, hA0, hV, rfl, hfz, hnd⟩ := hW
  have hA : DataW.TrodAll enc Tryd.prog W 0 (fun _ => true) true Tryd.f3.params.toList args.toList ds p := hA0
  have hg := trodVars_length _ _ _ hV
  rw [Tryd.params3] at hA hval hwt
  obtain ⟨v0, vs0, d0, ds0, p0, q0, hargs, rfl, rfl, h0, r0⟩ := trodAll_cons hA
  obtain ⟨rfl, rfl, rfl⟩ := trodAll_nil r0
  obtain rfl : args = #[v0] := by cases args; simp_all
  have hsm := sml_append (by rfl) hwt
  obtain ⟨x0, rfl, hx0⟩ := str_arg (hval 0 9 v0 rfl rfl) h0 (sml_each hsm (j := 0) (t := 9) (d := d0) rfl rfl)
  refine (laws_FnNameText W x0 hx0).mono ?_
  rintro e W' ⟨rfl, hb⟩
  have hb : Below W.heap.size W W' := hb
  refine ⟨_, rfl, lift_post laid_out Tryd.underlying4 (by kernel_rfl) (of_decide_eq_true (by kernel_rfl)) (of_decide_eq_true (by kernel_rfl)) ?_ hW' hb⟩
  match gs, hg with
  | [h0], _ => rfl
theorem lifted (os : Os) (started : os.Started) (H : Type) (enc : TypeId × Value → H) (F : Stop.Interp) :
    ReturnsInHanded {} Tryd.checked os 3 .any ((OpenSpec.ofChange Rows.fnNameTextSpec).preRow enc Tryd.prog Tryd.f3 Rows.fnNameTextRow.domain false Rows.fnNameTextRow.laid) (((OpenSpec.ofChange Rows.fnNameTextSpec).at F).post enc Tryd.prog Tryd.f3 false true false false) := by
  refine returnsInHanded_of_row (C := Tryd.checked) (s := OpenSpec.ofChange Rows.fnNameTextSpec) own_knob started (by kernel_rfl) Tryd.func3
    (nmT.witness_of (enc := enc) (os := os) argv rfl rfl (by kernel_rfl) (ds := [.lit (.string [])]) (by kernel_rfl)
      (fun hs hl => by
        match hs, hl with
        | [h0], _ => exact ⟨by kernel_rfl, fun k hk => (by cases hk), by kernel_rfl⟩)) ?_
  intro W base args ds gs before hval hW _ _ hwt hL hSh _
  exact contract H enc W base args ds gs before hval hW hwt hL hSh
theorem named : Tryd.pinned.checked.prog.funcNamed "loop.example/pub-messagesbuilt/laws.FnNameText" = some 3 := by kernel_rfl
theorem closed : joinedFacts Tryd.pinned.checked.prog 3 Tryd.f3 (OpenSpec.ofChange Rows.fnNameTextSpec).bare Rows.fnNameTextRow = true := by
  have e1 : namedTie Tryd.pinned.checked.prog Rows.fnNameTextRow.named (OpenSpec.ofChange Rows.fnNameTextSpec).bare.vars = true := by kernel_rfl
  have e2 : ((OpenSpec.ofChange Rows.fnNameTextSpec).bare.vars.all (Program.varReadable Tryd.pinned.checked.prog ·)) = true := by kernel_rfl
  unfold joinedFacts
  rw [prog_enter, prog_lifts, prog_make, prog_laid, prog_maps, e1, e2, prog_keys, prog_heard]
  show (_ : Bool) = true
  kernel_rfl
theorem said : Rows.FnNameTextSaid :=
  OpenClaim.holds_of_cond 3 Tryd.f3 rfl rfl rfl rfl rfl rfl rfl ⟨rfl, rfl, rfl, rfl, rfl⟩ rfl rfl rfl rfl rfl named Tryd.func3 closed
    (of_decide_eq_true (by kernel_rfl)) (by unfold Func.isWrapper; first | (rw [if_pos (by decide +kernel)]; kernel_rfl) | (rw [if_neg (by decide +kernel)]; exact ⟨rfl, rfl⟩))
    (fun os started H enc _ F => by rw [OpenClaim.pre_eq_preRow]; exact lifted os started H enc F)
theorem plain (f : FuncId) (fn : Func) (hf : Tryd.pinned.checked.prog.funcNamed "loop.example/pub-messagesbuilt/laws.FnNameText" = some f) (hfn : Tryd.pinned.checked.prog.funcs[f]? = some fn) :
    true = Tryd.pinned.checked.prog.looks [] ∧ ∀ (j : Nat) t, fn.params[j]? = some t → Tryd.pinned.checked.prog.wantsStandIn t = false := by
  obtain rfl : f = 3 := Option.some.inj (named.symm.trans hf) |>.symm
  obtain rfl : fn = Tryd.f3 := (Option.some.inj (Tryd.func3.symm.trans hfn)).symm
  refine ⟨by kernel_rfl, fun j t ht => ?_⟩
  rw [Tryd.params3] at ht
  have hall : ([9] : List TypeId).all (fun t => !Tryd.pinned.checked.prog.wantsStandIn t) = true := by kernel_rfl
  have h1 := List.all_eq_true.1 hall t (by simpa using Array.mem_of_getElem? ht)
  simpa using h1
theorem card : Rows.FnNameTextCardSaid :=
  Claim7.holds_tied_plain_at .later [] _ _ _ _ said (fun _ h => by cases h) (by kernel_rfl) (fun _ h => by cases h) fnNameText_row_tie rfl ⟨rfl, rfl⟩ (by kernel_rfl) rfl plain (by kernel_rfl)
end fnNameText

end Go.Proofs.YtfoinoegabcigaaDoor
