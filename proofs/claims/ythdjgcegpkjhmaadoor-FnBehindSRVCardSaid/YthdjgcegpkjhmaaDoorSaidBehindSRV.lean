/- laws.FnBehindSRV: what its text says of the law is shown here of the given program: the law returns true for each input that its row speaks of. Its walk, its row and its card. -/
import Derived.Test.YthdjgcegpkjhmaaDoorKSRV
import Derived.Test.YthdjgcegpkjhmaaDoorG10
import Derived.Test.YthdjgcegpkjhmaaDoorG12
import Derived.Test.YthdjgcegpkjhmaaDoorG13
set_option linter.unusedVariables false
set_option linter.unusedSimpArgs false
namespace Go.Proofs.YthdjgcegpkjhmaaDoor
open Go.RowKit Go.ChangeShapes Go.WideShapes Go.ChangeAt
set_option maxHeartbeats 4000000
set_option maxRecDepth 100000

theorem laws_FnBehindSRV (w : World) (u0 : Value) (x0 : Bytes) (hx0 : BytesAt w u0 x0) (hl0 : x0.length ≤ lim) (x1 : Bool) (h : HeadM) (hid : h.id < 65536) (u3 : Value) (x3 : List AskM) (hx3 : AsksAt w u3 x3) (u4 : Value) (x4 : List (RecM × RecV)) (hx4 : RecsAt w u4 x4) (u5 : Value) (x5 : List (RecM × RecV)) (hx5 : RecsAt w u5 x5) (hE : Errs w) (hKn : Known w) : Calls Tryd.prog 11 #[u0, .bool x1, .agg (hcells h), u3, u4, u5] w (RetV w (.bool true)) := by
  refine calls_of_WC Tryd.func11 rfl Tryd.ntmps11 rfl ?_
  refine GO ?_
  refine WL_box vv ?_
  intro b1 w1 hb1 h1 g1
  refine GO ?_
  refine WL_loadRow vv h1 rfl ?_
  refine GO ?_
  refine WL_fun rfl ((laws_behind kc_SRV w1 _ x0 x1 h _ _ _ x3 x4 x5 (hx0.grow g1) hl0 hid (hx3.grow g1) (hx4.grow g1) (hx5.grow g1) (hE.grow g1) (hKn.grow g1)).mono ?_)
  rintro e w2 ⟨rfl, g2⟩
  refine ⟨_, rfl, ?_⟩
  have g2 : Grows w1 w2 := g2
  refine GO ?_
  exact ret1 (v := .bool true) Tryd.results11 rfl ⟨rfl, g1.trans g2⟩
namespace fnBehindSRV
def argv : Array Value := #[.slice none 0 0, .bool false, .agg #[.int .u16 0, .bool false, .int .u16 0, .bool false, .bool false, .bool false, .bool false, .bool false, .bool false, .int .u16 0], .slice none 0 0, .slice none 0 0, .slice none 0 0]
theorem contract (H : Type) (enc : TypeId × Value → H) (W : World) (base : Nat) (args : Array Value) (ds gs : List (DataW H)) (before : List MemPlace)
    (hval : ∀ (j : Nat) t v, Tryd.f11.params[j]? = some t → args[j]? = some v → Value.okWide Tryd.prog W .any base t v)
    (hW : DataW.Whole enc Tryd.prog Tryd.f11.params.toList Rows.fnBehindSRVSpec.vars false W args.toList ds gs before)
    (hwt : (DataW.weightsEach Tryd.prog (Tryd.f11.params.toList ++ (OpenSpec.ofChange Rows.fnBehindSRVSpec).bare.plain.varTypes Tryd.prog) (ds ++ gs)).all (· ≤ reachBytes) = true)
    (hL : laidMetH Tryd.prog Rows.fnBehindSRVRow.laid W) (hSh : W.ShapedOpen Tryd.prog) :
    Calls Tryd.prog 11 args W fun e W' => ∃ v, e = .returned v ∧ Rows.fnBehindSRVSpec.post enc Tryd.prog Tryd.f11 false true false false W args v W' := by
  obtain ⟨hE, hKn⟩ := known_of_laid (show laidMetH Tryd.prog laidL W from hL) hSh
  have hW' := hW
  obtain ⟨p, q, hA0, hV, rfl, hfz, hnd⟩ := hW
  have hA : DataW.TrodAll enc Tryd.prog W 0 (fun _ => true) true Tryd.f11.params.toList args.toList ds p := hA0
  have hg := trodVars_length _ _ _ hV
  rw [Tryd.params11] at hA hval hwt
  obtain ⟨v0, vs0, d0, ds0, p0, q0, hargs, rfl, rfl, h0, r0⟩ := trodAll_cons hA
  obtain ⟨v1, vs1, d1, ds1, p1, q1, rfl, rfl, rfl, h1, r1⟩ := trodAll_cons r0
  obtain ⟨v2, vs2, d2, ds2, p2, q2, rfl, rfl, rfl, h2, r2⟩ := trodAll_cons r1
  obtain ⟨v3, vs3, d3, ds3, p3, q3, rfl, rfl, rfl, h3, r3⟩ := trodAll_cons r2
  obtain ⟨v4, vs4, d4, ds4, p4, q4, rfl, rfl, rfl, h4, r4⟩ := trodAll_cons r3
  obtain ⟨v5, vs5, d5, ds5, p5, q5, rfl, rfl, rfl, h5, r5⟩ := trodAll_cons r4
  obtain ⟨rfl, rfl, rfl⟩ := trodAll_nil r5
  obtain rfl : args = #[v0, v1, v2, v3, v4, v5] := by cases args; simp_all
  have hsm := sml_append (by rfl) hwt
  obtain ⟨x0, hx0, hl0⟩ := bytes_arg (hval 0 26 v0 rfl rfl) h0 (sml_each hsm (j := 0) (t := 26) (d := d0) rfl rfl)
  obtain ⟨x1, rfl⟩ := bool_arg (hval 1 4 v1 rfl rfl)
  obtain ⟨id, op, code, qr, aa, tc, rd, ra, ad, cd, rfl, hid, _, _⟩ := head_form (hval 2 24 v2 rfl rfl) h2
  obtain ⟨x3, hx3⟩ := asks_arg (hval 3 55 v3 rfl rfl) h3 (sml_each hsm (j := 3) (t := 55) (d := d3) rfl rfl)
  obtain ⟨x4, hx4⟩ := recs_arg (hval 4 37 v4 rfl rfl) h4 (sml_each hsm (j := 4) (t := 37) (d := d4) rfl rfl)
  obtain ⟨x5, hx5⟩ := recs_arg (hval 5 37 v5 rfl rfl) h5 (sml_each hsm (j := 5) (t := 37) (d := d5) rfl rfl)
  refine (laws_FnBehindSRV W v0 x0 hx0 hl0 x1 ⟨id, qr, op, aa, tc, rd, ra, ad, cd, code⟩ hid v3 x3 hx3 v4 x4 hx4 v5 x5 hx5 hE hKn).mono ?_
  rintro e W' ⟨rfl, hb⟩
  have hb : Below W.heap.size W W' := hb
  refine ⟨_, rfl, lift_post laid_out Tryd.underlying4 (by kernel_rfl) (of_decide_eq_true (by kernel_rfl)) (of_decide_eq_true (by kernel_rfl)) ?_ hW' hb⟩
  match gs, hg with
  | [h0, h1, h2, h3, h4, h5, h6, h7, h8, h9, h10], _ => rfl
theorem lifted (os : Os) (started : os.Started) (H : Type) (enc : TypeId × Value → H) (F : Stop.Interp) :
    ReturnsInHanded {} Tryd.checked os 11 .any ((OpenSpec.ofChange Rows.fnBehindSRVSpec).preRow enc Tryd.prog Tryd.f11 Rows.fnBehindSRVRow.domain false Rows.fnBehindSRVRow.laid) (((OpenSpec.ofChange Rows.fnBehindSRVSpec).at F).post enc Tryd.prog Tryd.f11 false true false false) := by
  refine returnsInHanded_of_row (C := Tryd.checked) (s := OpenSpec.ofChange Rows.fnBehindSRVSpec) own_knob started (by kernel_rfl) Tryd.func11
    (witness_of (enc := enc) (os := os) argv rfl rfl (by kernel_rfl) (ds := [.nil, .lit (.bool false), .agg [.lit (.int .u16 0), .lit (.bool false), .lit (.int .u16 0), .lit (.bool false), .lit (.bool false), .lit (.bool false), .lit (.bool false), .lit (.bool false), .lit (.bool false), .lit (.int .u16 0)], .nil, .nil, .nil]) (by kernel_rfl)
      (fun hs hl => by
        match hs, hl with
        | [h0, h1, h2, h3, h4, h5, h6, h7, h8, h9, h10], _ => exact ⟨by kernel_rfl, fun k hk => (by cases hk), by kernel_rfl⟩)) ?_
  intro W base args ds gs before hval hW _ _ hwt hL hSh _
  exact contract H enc W base args ds gs before hval hW hwt hL hSh
theorem named : Tryd.pinned.checked.prog.funcNamed "loop.example/pub-messagesbuilt/laws.FnBehindSRV" = some 11 := by kernel_rfl
theorem closed : joinedFacts Tryd.pinned.checked.prog 11 Tryd.f11 (OpenSpec.ofChange Rows.fnBehindSRVSpec).bare Rows.fnBehindSRVRow = true := by
  have e1 : namedTie Tryd.pinned.checked.prog Rows.fnBehindSRVRow.named (OpenSpec.ofChange Rows.fnBehindSRVSpec).bare.vars = true := prog_tie
  have e2 : ((OpenSpec.ofChange Rows.fnBehindSRVSpec).bare.vars.all (Program.varReadable Tryd.pinned.checked.prog ·)) = true := prog_read
  unfold joinedFacts
  rw [prog_enter, prog_lifts, prog_make, prog_laid, prog_maps, e1, e2, prog_keys, prog_heard]
  show (_ : Bool) = true
  kernel_rfl
theorem said : Rows.FnBehindSRVSaid :=
  OpenClaim.holds_of_cond 11 Tryd.f11 rfl rfl rfl rfl rfl rfl rfl ⟨rfl, rfl, rfl, rfl, rfl⟩ rfl rfl rfl rfl rfl named Tryd.func11 closed
    (of_decide_eq_true (by kernel_rfl)) (by unfold Func.isWrapper; first | (rw [if_pos (by decide +kernel)]; kernel_rfl) | (rw [if_neg (by decide +kernel)]; exact ⟨rfl, rfl⟩))
    (fun os started H enc _ F => by rw [OpenClaim.pre_eq_preRow]; exact lifted os started H enc F)
theorem plain (f : FuncId) (fn : Func) (hf : Tryd.pinned.checked.prog.funcNamed "loop.example/pub-messagesbuilt/laws.FnBehindSRV" = some f) (hfn : Tryd.pinned.checked.prog.funcs[f]? = some fn) :
    true = Tryd.pinned.checked.prog.looks [] ∧ ∀ (j : Nat) t, fn.params[j]? = some t → Tryd.pinned.checked.prog.wantsStandIn t = false := by
  obtain rfl : f = 11 := Option.some.inj (named.symm.trans hf) |>.symm
  obtain rfl : fn = Tryd.f11 := (Option.some.inj (Tryd.func11.symm.trans hfn)).symm
  refine ⟨by kernel_rfl, fun j t ht => ?_⟩
  rw [Tryd.params11] at ht
  have hall : ([26, 4, 24, 55, 37, 37] : List TypeId).all (fun t => !Tryd.pinned.checked.prog.wantsStandIn t) = true := by kernel_rfl
  have h1 := List.all_eq_true.1 hall t (by simpa using Array.mem_of_getElem? ht)
  simpa using h1
theorem card : Rows.FnBehindSRVCardSaid :=
  Claim7.holds_tied_plain_at .later [] _ _ _ _ said (fun _ h => by cases h) (by kernel_rfl) (fun _ h => by cases h) fnBehindSRV_row_tie rfl ⟨rfl, rfl⟩ (by kernel_rfl) rfl plain (by kernel_rfl)
end fnBehindSRV

end Go.Proofs.YthdjgcegpkjhmaaDoor
