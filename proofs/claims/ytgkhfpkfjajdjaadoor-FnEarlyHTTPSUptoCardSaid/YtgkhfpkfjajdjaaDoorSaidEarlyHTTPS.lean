/- laws.FnEarlyHTTPS: what its text says of the law is shown here of the given program: the law returns true for each input that its row speaks of. Its row and its card. -/
import Derived.Test.YtgkhfpkfjajdjaaDoorWalkEarlyHTTPS
import Derived.Test.YtgkhfpkfjajdjaaDoorG12
import Derived.Test.YtgkhfpkfjajdjaaDoorG13
set_option linter.unusedVariables false
set_option linter.unusedSimpArgs false
namespace Go.Proofs.YtgkhfpkfjajdjaaDoor
open Go.RowKit Go.ChangeShapes Go.WideShapes Go.ChangeAt
set_option maxHeartbeats 4000000
set_option maxRecDepth 100000

namespace fnEarlyHTTPS
def argv : Array Value := #[.agg #[.int .u16 0, .bool false, .int .u16 0, .bool false, .bool false, .bool false, .bool false, .bool false, .bool false, .int .u16 0], .agg #[.string ⟨#[]⟩, .int .u16 0, .int .u16 0, .int .u32 0, .int .u16 0, .int .i64 0, .slice none 0 0, .string ⟨#[]⟩, .string ⟨#[]⟩, .int .u32 0, .int .u32 0, .int .u32 0, .int .u32 0, .int .u32 0, .slice none 0 0, .slice none 0 0]]
theorem contract (H : Type) (enc : TypeId × Value → H) (W : World) (base : Nat) (args : Array Value) (ds gs : List (DataW H)) (before : List MemPlace)
    (hval : ∀ (j : Nat) t v, Tryd.f3.params[j]? = some t → args[j]? = some v → Value.okWide Tryd.prog W .any base t v)
    (hW : DataW.Whole enc Tryd.prog Tryd.f3.params.toList Rows.fnEarlyHTTPSSpec.vars false W args.toList ds gs before)
    (hwt : (DataW.weightsEach Tryd.prog (Tryd.f3.params.toList ++ (Rows.OpenSpec.upto Rows.fnEarlyHTTPSSpec).bare.plain.varTypes Tryd.prog) (ds ++ gs)).all (· ≤ reachBytes) = true)
    (hk : Rows.uptoSmall H (ds ++ gs) = true) (hL : laidMetH Tryd.prog Rows.fnEarlyHTTPSUptoRow.laid W) (hSh : W.ShapedOpen Tryd.prog) :
    Calls Tryd.prog 3 args W fun e W' => ∃ v, e = .returned v ∧ Rows.fnEarlyHTTPSSpec.post enc Tryd.prog Tryd.f3 false true false false W args v W' := by
  obtain ⟨hE, hKn⟩ := known_of_laid (show laidMetH Tryd.prog laidL W from hL) hSh
  have hW' := hW
  obtain ⟨p, q, hA0, hV, rfl, hfz, hnd⟩ := hW
  have hA : DataW.TrodAll enc Tryd.prog W 0 (fun _ => true) true Tryd.f3.params.toList args.toList ds p := hA0
  have hg := trodVars_length _ _ _ hV
  rw [Tryd.params3] at hA hval hwt
  obtain ⟨v0, vs0, d0, ds0, p0, q0, hargs, rfl, rfl, h0, r0⟩ := trodAll_cons hA
  obtain ⟨v1, vs1, d1, ds1, p1, q1, rfl, rfl, rfl, h1, r1⟩ := trodAll_cons r0
  obtain ⟨rfl, rfl, rfl⟩ := trodAll_nil r1
  obtain rfl : args = #[v0, v1] := Array.toList_inj.1 hargs
  have hsm := sml_upto hk
  obtain ⟨id, op, code, qr, aa, tc, rd, ra, ad, cd, rfl, hid, _, _⟩ := head_form (hval 0 24 v0 rfl rfl) h0
  obtain ⟨x1, rfl, hx1⟩ := rec_arg (hval 1 30 v1 rfl rfl) h1 (sml_each hsm (j := 1) (t := 30) (d := d1) rfl rfl)
  clear hk hwt hsm
  refine (laws_FnEarlyHTTPS W ⟨id, qr, op, aa, tc, rd, ra, ad, cd, code⟩ hid x1 hx1 hE hKn).mono ?_
  rintro e W' ⟨rfl, hb⟩
  have hb : Below W.heap.size W W' := hb
  refine ⟨_, rfl, lift_post laid_out Tryd.underlying4 (by kernel_rfl) (of_decide_eq_true (by kernel_rfl)) (of_decide_eq_true (by kernel_rfl)) ?_ hW' hb⟩
  match gs, hg with
  | [h0, h1, h2, h3, h4, h5, h6, h7, h8, h9, h10, h11, h12], _ => rfl
theorem lifted (os : Os) (started : os.Started) (H : Type) (enc : TypeId × Value → H) (F : Stop.Interp) :
    ReturnsInHanded {} Tryd.checked os 3 .any ((Rows.OpenSpec.upto Rows.fnEarlyHTTPSSpec).preRow enc Tryd.prog Tryd.f3 Rows.fnEarlyHTTPSUptoRow.domain false Rows.fnEarlyHTTPSUptoRow.laid) (((Rows.OpenSpec.upto Rows.fnEarlyHTTPSSpec).at F).post enc Tryd.prog Tryd.f3 false true false false) := by
  refine returnsInHanded_of_row (C := Tryd.checked) (s := Rows.OpenSpec.upto Rows.fnEarlyHTTPSSpec) own_knob started (by kernel_rfl) Tryd.func3
    (witness_of (enc := enc) (os := os) argv rfl rfl (by kernel_rfl) (ds := [.agg [.lit (.int .u16 0), .lit (.bool false), .lit (.int .u16 0), .lit (.bool false), .lit (.bool false), .lit (.bool false), .lit (.bool false), .lit (.bool false), .lit (.bool false), .lit (.int .u16 0)], .agg [.lit (.string []), .lit (.int .u16 0), .lit (.int .u16 0), .lit (.int .u32 0), .lit (.int .u16 0), .lit (.int .i64 0), .nil, .lit (.string []), .lit (.string []), .lit (.int .u32 0), .lit (.int .u32 0), .lit (.int .u32 0), .lit (.int .u32 0), .lit (.int .u32 0), .nil, .nil]]) (by kernel_rfl)
      (fun hs hl => by
        match hs, hl with
        | [h0, h1, h2, h3, h4, h5, h6, h7, h8, h9, h10, h11, h12], _ => exact ⟨by kernel_rfl, fun k hk => (by cases hk; kernel_rfl), by kernel_rfl⟩)) ?_
  intro W base args ds gs before hval hW _ hcond hwt hL hSh _
  exact contract H enc W base args ds gs before hval hW hwt (hcond _ rfl) hL hSh
theorem named : Tryd.pinned.checked.prog.funcNamed "loop.example/pub-messagesbuilt/laws.FnEarlyHTTPS" = some 3 := by kernel_rfl
theorem closed : joinedFacts Tryd.pinned.checked.prog 3 Tryd.f3 (Rows.OpenSpec.upto Rows.fnEarlyHTTPSSpec).bare Rows.fnEarlyHTTPSUptoRow = true := by
  have e1 : namedTie Tryd.pinned.checked.prog Rows.fnEarlyHTTPSUptoRow.named (Rows.OpenSpec.upto Rows.fnEarlyHTTPSSpec).bare.vars = true := prog_tie
  have e2 : ((Rows.OpenSpec.upto Rows.fnEarlyHTTPSSpec).bare.vars.all (Program.varReadable Tryd.pinned.checked.prog ·)) = true := prog_read
  unfold joinedFacts
  rw [prog_enter, prog_lifts, prog_make, prog_laid, prog_maps, e1, e2, prog_keys, prog_heard]
  show (_ : Bool) = true
  kernel_rfl
theorem said : Rows.FnEarlyHTTPSUptoSaid :=
  OpenClaim.holds_of_cond 3 Tryd.f3 rfl rfl rfl rfl rfl rfl rfl ⟨rfl, rfl, rfl, rfl, rfl⟩ rfl rfl rfl rfl rfl named Tryd.func3 closed
    (of_decide_eq_true (by kernel_rfl)) (by unfold Func.isWrapper; first | (rw [if_pos (by decide +kernel)]; kernel_rfl) | (rw [if_neg (by decide +kernel)]; exact ⟨rfl, rfl⟩))
    (fun os started H enc _ F => by rw [OpenClaim.pre_eq_preRow]; exact lifted os started H enc F)
theorem plain (f : FuncId) (fn : Func) (hf : Tryd.pinned.checked.prog.funcNamed "loop.example/pub-messagesbuilt/laws.FnEarlyHTTPS" = some f) (hfn : Tryd.pinned.checked.prog.funcs[f]? = some fn) :
    true = Tryd.pinned.checked.prog.looks [] ∧ ∀ (j : Nat) t, fn.params[j]? = some t → Tryd.pinned.checked.prog.wantsStandIn t = false := by
  obtain rfl : f = 3 := Option.some.inj (named.symm.trans hf) |>.symm
  obtain rfl : fn = Tryd.f3 := (Option.some.inj (Tryd.func3.symm.trans hfn)).symm
  refine ⟨by kernel_rfl, fun j t ht => ?_⟩
  rw [Tryd.params3] at ht
  have hall : ([24, 30] : List TypeId).all (fun t => !Tryd.pinned.checked.prog.wantsStandIn t) = true := by kernel_rfl
  have h1 := List.all_eq_true.1 hall t (by simpa using Array.mem_of_getElem? ht)
  simpa using h1
theorem card : Rows.FnEarlyHTTPSUptoCardSaid :=
  Claim7.holds_tied_plain_at .later [] _ _ _ _ said (fun _ h => by cases h) (by kernel_rfl) (fun _ h => by cases h) fnEarlyHTTPSUpto_row_tie rfl ⟨rfl, rfl⟩ (by kernel_rfl) rfl plain (by kernel_rfl)
end fnEarlyHTTPS

end Go.Proofs.YtgkhfpkfjajdjaaDoor
