/- From the walk of a law to its row: a call that returns true and changes no old memory answers as the row says. For whatever program. -/
import Derived.Test.YtgkhfpkfjajdjaaDoorG2
import Derived.Deep.DeepHandedRow
import Derived.WalkSmall
import Derived.Test.YtgkhfpkfjajdjaaDoorCards
import Derived.Test.YtgkhfpkfjajdjaaDoorTie
import Derived.LaidMore
import Derived.LaidHandle
import Derived.Deep.DeepWitnessRowRef
import Derived.ProofKit
import Derived.OpenShut
import Derived.DataShut
import Derived.Test.YtgkhfpkfjajdjaaDoorG3
import Derived.Test.YtgkhfpkfjajdjaaDoorG7
import Derived.LaidLaws
set_option linter.unusedVariables false
set_option linter.unusedSimpArgs false
namespace Go.Proofs.YtgkhfpkfjajdjaaDoor
open Go.RowKit Go.ChangeShapes Go.WideShapes Go.ChangeAt

section
variable {H : Type} {enc : TypeId × Value → H} {P : Program} {W W' : World}
theorem trodAll_below (hl : laidOutB P = true) (hb : Below W.heap.size W W') : ∀ (ts : List TypeId) (vs : List Value) (ds : List (DataW H)) (ps : List MemPlace), (∀ t ∈ ts, P.readableRec t = true ∧ t < P.types.size) →
    (∀ x ∈ ps, x.block < W.heap.size) → DataW.TrodAll enc P W 0 (fun _ => true) true ts vs ds ps → DataW.TrodAll enc P W' 0 (fun b => decide (b < W.heap.size)) true ts vs ds ps
  | [], vs, ds, ps, _, _, h => by
    obtain ⟨rfl, rfl, rfl⟩ := trodAll_nil h
    exact trodAll_mk0
  | t :: ts, vs, ds, ps, hr, hlt, h => by
    obtain ⟨v, vs', d, ds', p, q, rfl, rfl, rfl, h0, h1⟩ := trodAll_cons h
    exact ⟨p, q, Below.trod hl (hr t (by simp)).1 (hr t (by simp)).2 h0 hb (fun x hx => hlt x (by simp [hx])), trodAll_below hl hb ts vs' ds' q (fun t ht => hr t (by simp [ht])) (fun x hx => hlt x (by simp [hx])) h1, rfl⟩
/-- a type that a named variable may have -/
def varOk (P : Program) (n : String) : Bool :=
  match P.globalNamed n with
  | some g => match (P.globals[g]?).map (·.type) with
    | some t => P.readableRec t && decide (t < P.types.size)
    | none => true
  | none => true
theorem trodVars_below (hl : laidOutB P = true) (hb : Below W.heap.size W W') : ∀ (ns : List String) (ds : List (DataW H)) (ps : List MemPlace), (∀ n ∈ ns, varOk P n = true) →
    (∀ x ∈ ps, x.block < W.heap.size) → DataW.TrodVars enc P W (fun _ => true) ns ds ps → DataW.TrodVars enc P W' (fun b => decide (b < W.heap.size)) ns ds ps
  | [], ds, ps, _, _, h => by
    cases ds with
    | nil => exact h
    | cons d ds => exact absurd h (by simp [DataW.TrodVars])
  | n :: ns, ds, ps, hr, hlt, h => by
    cases ds with
    | nil => exact absurd h (by simp [DataW.TrodVars])
    | cons d ds =>
      obtain ⟨g, t, cs, fuel, p, q, hg, ht, hv, hd, hq, rfl⟩ := h
      have hok := hr n (by simp)
      unfold varOk at hok
      rw [hg] at hok
      simp only [ht, Bool.and_eq_true, decide_eq_true_eq] at hok
      have hgl : g < W.heap.size := by
        unfold World.var? at hv
        simp only [hg, Option.bind_some] at hv
        cases e : W.heap[g]? with
        | none => rw [e] at hv; cases hv
        | some o => exact (Array.getElem?_eq_some_iff.1 e).1
      refine ⟨g, t, cs, fuel, p, q, hg, ht, var?_below hb hg hgl hv, ?_, trodVars_below hl hb ns ds q (fun m hm => hr m (by simp [hm])) (fun x hx => hlt x (by simp [hx])) hq, rfl⟩
      exact DataW.trod_stays (kids_book hl hok.1) (book_sized hok.1) (fun h => by cases h) ⟨hok.2, book_self t⟩ hd (fun x hx => hb.same (hlt x (by simp [hx]))) (fun x hx => by simpa using hlt x (by simp [hx]))
theorem lift_post {f : Func} {s : ChangeSpec} {args : Array Value} {ds gs : List (DataW H)} {before : List MemPlace} {tb : TypeId} (hl : laidOutB P = true) (htb : P.underlying tb = some .bool) (hres : f.resultTypes = #[tb])
    (hps : ∀ t ∈ f.params.toList, P.readableRec t = true ∧ t < P.types.size) (hvs : ∀ n ∈ s.vars, varOk P n = true)
    (hfn : s.fn H (ds ++ gs) = { results := [.lit (.bool true)], args := ds, vars := gs })
    (hW : DataW.Whole enc P f.params.toList s.vars false W args.toList ds gs before) (hb : Below W.heap.size W W') :
    s.post enc P f false true false false W args (.bool true) W' := by
  have hlt := hW.lt
  have hW' := hW
  obtain ⟨p, q, hA, hV, rfl, hfz, hnd⟩ := hW
  refine ⟨ds, gs, p ++ q, [], p, q, hW', ?_, ?_, ?_, hb.frame _, fun h => by cases h⟩
  · rw [hfn, hres]
    exact trodAll_mk1 (shut_bool htb true)
  · rw [hfn]
    exact trodAll_below hl hb _ _ _ _ hps (fun x hx => hlt x (by simp [hx])) hA
  · rw [hfn]
    exact trodVars_below hl hb _ _ _ hvs (fun x hx => hlt x (by simp [hx])) hV
end
end Go.Proofs.YtgkhfpkfjajdjaaDoor

/- What every row of this seat needs at its door: the head's cells, the witness world, the numbers of arguments and variables. -/
namespace Go.Proofs.YtgkhfpkfjajdjaaDoor
open Go.RowKit Go.ChangeShapes Go.WideShapes Go.ChangeAt
set_option maxRecDepth 100000
set_option maxHeartbeats 1000000

theorem own_knob : ownKnob Tryd.prog.godebug = none := by kernel_rfl
theorem laid_out : laidOutB Tryd.prog = true := by kernel_rfl

section
variable {H : Type} {enc : TypeId × Value → H} {w : World} {base : Nat} {spare : Nat → Bool} {held : Bool}
theorem u16_form {fuel : Nat} {v : Value} {x : DataW H × List MemPlace} (h : DataW.trod enc Tryd.prog w base spare held fuel 22 [v] = some x) : ∃ n : Nat, v = .int .u16 (n : Int) ∧ n < 65536 := by
  obtain ⟨n, hv, _, hw⟩ := DataW.trod_int Tryd.underlying22 h
  obtain ⟨h0, h1⟩ := (Lit.wf_int_iff .u16 n).1 hw
  have a0 : (0 : Int) ≤ n := h0
  have a1 : n ≤ 65535 := h1
  obtain ⟨m, rfl⟩ := Int.eq_ofNat_of_zero_le a0
  exact ⟨m, by simpa using hv, by omega⟩
theorem bool_form {fuel : Nat} {v : Value} {x : DataW H × List MemPlace} (h : DataW.trod enc Tryd.prog w base spare held fuel 4 [v] = some x) : ∃ b : Bool, v = .bool b := by
  obtain ⟨b, hv, _⟩ := DataW.trod_bool Tryd.underlying4 h
  exact ⟨b, by simpa using hv⟩
theorem head_cells : Tryd.prog.cellsOf 24 = 10 := by kernel_rfl
theorem u16_cells : Tryd.prog.cellsOf 22 = 1 := by kernel_rfl
theorem bool_cells : Tryd.prog.cellsOf 4 = 1 := by kernel_rfl
theorem head_form {r : Reach} {b0 : Nat} {v : Value} {d : DataW H} {p : List MemPlace} (hv : Value.okWide Tryd.prog w r b0 24 v) (h : DataW.Trod enc Tryd.prog w base spare held 24 v d p) :
    ∃ (id op code : Nat) (qr aa tc rd ra ad cd : Bool), v = .agg #[.int .u16 (id : Int), .bool qr, .int .u16 (op : Int), .bool aa, .bool tc, .bool rd, .bool ra, .bool ad, .bool cd, .int .u16 (code : Int)] ∧ id < 65536 ∧ op < 65536 ∧ code < 65536 := by
  obtain ⟨cs, rfl, hsz⟩ := okWide_struct Tryd.underlying24 hv
  obtain ⟨l⟩ := cs
  match l, hsz.trans head_cells with
  | [c0, c1, c2, c3, c4, c5, c6, c7, c8, c9], _ =>
    obtain ⟨fuel, hf⟩ := h
    obtain ⟨xs, n, _, hx, _, hlen, hg⟩ := DataW.trod_struct Tryd.underlying24 hf
    match xs, hlen with
    | [y0, y1, y2, y3, y4, y5, y6, y7, y8, y9], _ =>
      have g0 : DataW.trod enc Tryd.prog w base spare held n 22 [c0] = some y0 := by simpa [Value.cells, u16_cells] using hg 0 _ rfl
      have g1 : DataW.trod enc Tryd.prog w base spare held n 4 [c1] = some y1 := by simpa [Value.cells, bool_cells] using hg 1 _ rfl
      have g2 : DataW.trod enc Tryd.prog w base spare held n 22 [c2] = some y2 := by simpa [Value.cells, u16_cells] using hg 2 _ rfl
      have g3 : DataW.trod enc Tryd.prog w base spare held n 4 [c3] = some y3 := by simpa [Value.cells, bool_cells] using hg 3 _ rfl
      have g4 : DataW.trod enc Tryd.prog w base spare held n 4 [c4] = some y4 := by simpa [Value.cells, bool_cells] using hg 4 _ rfl
      have g5 : DataW.trod enc Tryd.prog w base spare held n 4 [c5] = some y5 := by simpa [Value.cells, bool_cells] using hg 5 _ rfl
      have g6 : DataW.trod enc Tryd.prog w base spare held n 4 [c6] = some y6 := by simpa [Value.cells, bool_cells] using hg 6 _ rfl
      have g7 : DataW.trod enc Tryd.prog w base spare held n 4 [c7] = some y7 := by simpa [Value.cells, bool_cells] using hg 7 _ rfl
      have g8 : DataW.trod enc Tryd.prog w base spare held n 4 [c8] = some y8 := by simpa [Value.cells, bool_cells] using hg 8 _ rfl
      have g9 : DataW.trod enc Tryd.prog w base spare held n 22 [c9] = some y9 := by simpa [Value.cells, u16_cells] using hg 9 _ rfl
      obtain ⟨id, rfl, hid⟩ := u16_form g0
      obtain ⟨qr, rfl⟩ := bool_form g1
      obtain ⟨op, rfl, hop⟩ := u16_form g2
      obtain ⟨aa, rfl⟩ := bool_form g3
      obtain ⟨tc, rfl⟩ := bool_form g4
      obtain ⟨rd, rfl⟩ := bool_form g5
      obtain ⟨ra, rfl⟩ := bool_form g6
      obtain ⟨ad, rfl⟩ := bool_form g7
      obtain ⟨cd, rfl⟩ := bool_form g8
      obtain ⟨code, rfl, hcode⟩ := u16_form g9
      exact ⟨id, op, code, qr, aa, tc, rd, ra, ad, cd, rfl, hid, hop, hcode⟩
theorem trodVars_length {P : Program} : ∀ (ns : List String) (ds : List (DataW H)) (ps : List MemPlace), DataW.TrodVars enc P w spare ns ds ps → ds.length = ns.length
  | [], [], _, _ => rfl
  | [], _ :: _, _, h => absurd h (by simp [DataW.TrodVars])
  | _ :: _, [], _, h => absurd h (by simp [DataW.TrodVars])
  | n :: ns, d :: ds, ps, h => by
    obtain ⟨g, t, cs, fuel, p, q, _, _, _, _, hq, _⟩ := h
    simp [trodVars_length ns ds q hq]
end
end Go.Proofs.YtgkhfpkfjajdjaaDoor

/- The witness world of this seat's rows: the variables as the program's text lays them. Each closed fact once; every law of the seat takes them from here. -/
namespace Go.Proofs.YtgkhfpkfjajdjaaDoor
open Go.RowKit Go.ChangeShapes Go.WideShapes Go.ChangeAt
set_option maxRecDepth 100000
set_option maxHeartbeats 1000000

noncomputable def W0 (os : Os) : World := World.doorLaid Tryd.prog 256 os
noncomputable def W1 (os : Os) : World := { W0 os with tape := fun _ _ => 0, drawn := 0 }
theorem w0_call (os : Os) (args : Array Value) : (W0 os).forCall (fun _ _ => 0) ⟨#[], args, []⟩ = W1 os := by
  simp [World.forCall, Input.heap, W1]
theorem w1_laid (os : Os) : laidMetH Tryd.prog Rows.fnEarlyHTTPSRow.laid (W1 os).memory :=
  laidMetH_of_parts3 (fuel := 8) (laidMet_of_run' 8 (by kernel_rfl) (by kernel_rfl)) (by kernel_rfl) (by kernel_rfl)
theorem w1_vars (os : Os) : (W1 os).variablesRefB Tryd.checked.prog = true := by kernel_rfl
theorem w1_rest (os : Os) : ((W1 os).heap.toList.drop Tryd.checked.prog.globals.size).take ((begin Tryd.checked.prog (fun _ _ => 0) default).world.heap.size - Tryd.checked.prog.globals.size) =
      (begin Tryd.checked.prog (fun _ _ => 0) default).world.heap.toList.drop Tryd.checked.prog.globals.size := by kernel_rfl
def isHeld {H : Type} : DataW H → Bool
  | .held _ => true
  | _ => false
theorem held_list {H : Type} : ∀ gs : List (DataW H), gs.all isHeld = true → ∃ hs : List H, gs = hs.map .held
  | [], _ => ⟨[], rfl⟩
  | d :: gs, h => by
    simp only [List.all_cons, Bool.and_eq_true] at h
    obtain ⟨hs, rfl⟩ := held_list gs h.2
    cases d <;> simp [isHeld] at h
    rename_i x
    exact ⟨x :: hs, rfl⟩
theorem w1_reads {H : Type} (enc : TypeId × Value → H) (os : Os) : ∃ (hs : List H) (ps : List MemPlace), hs.length = Rows.fnEarlyHTTPSSpec.vars.length ∧ DataW.trodVars enc Tryd.prog (W1 os).memory (fun _ => true) 8 Rows.fnEarlyHTTPSSpec.vars = some (hs.map .held, ps) ∧ ps.all (fun p => !MemPlace.frozenIn (W1 os).memory p) = true := by
  have h1 : (DataW.trodVars enc Tryd.prog (W1 os).memory (fun _ => true) 8 Rows.fnEarlyHTTPSSpec.vars).map (fun x => (x.1.all isHeld && x.1.length == Rows.fnEarlyHTTPSSpec.vars.length, x.2.all fun p => !MemPlace.frozenIn (W1 os).memory p)) = some (true, true) := by kernel_rfl
  cases h : DataW.trodVars enc Tryd.prog (W1 os).memory (fun _ => true) 8 Rows.fnEarlyHTTPSSpec.vars with
  | none => rw [h] at h1; cases h1
  | some x =>
    rw [h] at h1
    simp only [Option.map_some, Option.some.injEq, Prod.mk.injEq, Bool.and_eq_true, beq_iff_eq] at h1
    obtain ⟨hs, hg⟩ := held_list x.1 h1.1.1
    exact ⟨hs, x.2, by rw [← h1.1.2, hg]; simp, by rw [← hg], h1.2⟩
/-- the witness, for a law whose arguments hold no place -/
theorem witness_of {H : Type} {enc : TypeId × Value → H} {os : Os} {f : FuncId} {fn : Func} {s : OpenSpec} {conds : List PathCond} {laid : List (String × DataW Unit)} (args : Array Value) {ds : List (DataW H)} (hvars : s.vars = Rows.fnEarlyHTTPSSpec.vars) (hlaid : laid = Rows.fnEarlyHTTPSRow.laid)
    (hok : Input.okWideB Tryd.prog (W1 os) f ⟨#[], args, []⟩ = true) (hds : DataW.trodAll enc Tryd.prog (W1 os).memory 0 (fun _ => true) true 8 fn.params.toList args.toList = some (ds, []))
    (hall : ∀ hs : List H, hs.length = Rows.fnEarlyHTTPSSpec.vars.length → conds.all (PathCond.test Tryd.prog ⟨fn.params.toList, ds, s.bare.plain.varTypes Tryd.prog, hs.map .held⟩) = true ∧ (∀ k, s.cond = some k → k H (ds ++ hs.map .held) = true) ∧ 
      (DataW.weightsEach Tryd.prog (fn.params.toList ++ s.bare.plain.varTypes Tryd.prog) (ds ++ hs.map .held)).all (· ≤ reachBytes) = true) :
    ∃ (w : World) (tape : Tape) (i : Input), w.os = os ∧ (w.forCall tape i).Shaped Tryd.checked.prog ∧ i.vars = [] ∧ Input.okWide Tryd.checked.prog (w.forCall tape i) .any w.heap.size f i ∧
      s.preRow enc Tryd.checked.prog fn conds false laid (w.forCall tape i).memory i.args ∧ ({ modest := false } : Assume).holds Tryd.checked.prog (lone (Frame.enter Tryd.checked.prog f i.args .normal) [] (w.forCall tape i)) := by
  obtain ⟨hs, ps, hlen, hg, hfz⟩ := w1_reads enc os
  obtain ⟨hconds, hkk, hwt⟩ := hall hs hlen
  have hpl : (Tryd.checked.prog.platform == "linux/amd64/v1") = true := by kernel_rfl
  have hx : DataW.whole enc Tryd.prog (W1 os).memory fn.params.toList s.vars false args.toList 8 = some (ds, hs.map .held, ps) := by
    unfold DataW.whole
    rw [hvars, hds, hg]
    simp [hfz]
  have hxb : DataW.whole enc Tryd.prog (W1 os).memory fn.params.toList s.bare.vars false args.toList 8 = some (ds, hs.map .held, ps) := hx
  refine witness_row_atRef (enc := enc) (C := Tryd.checked) false (W0 os) args rfl ?_ ?_ ?_ ?_
  · rw [w0_call]; exact w1_vars os
  · rw [w0_call]; exact w1_rest os
  · rw [w0_call]; exact hok
  · rw [w0_call]
    refine OpenSpec.preRow_of_cond 8 hx hconds hkk ?_ (by rw [hlaid]; exact w1_laid os)
    unfold ChangeSpec.sizedB
    rw [hpl, show DataW.whole enc Tryd.checked.prog (W1 os).memory fn.params.toList s.bare.vars false args.toList 8 = some (ds, hs.map .held, ps) from hxb]
    exact hwt
end Go.Proofs.YtgkhfpkfjajdjaaDoor

/- How arguments that are read lie in memory: bytes, texts, questions, records. -/
namespace Go.Proofs.YtgkhfpkfjajdjaaDoor
open Go.RowKit Go.ChangeShapes Go.WideShapes Go.ChangeAt
set_option maxRecDepth 100000
set_option maxHeartbeats 1000000

theorem bulk_one {H : Type} (d : DataW H) : 1 ≤ Rows.uptoBulk d := by
  cases d with
  | lit l => cases l <;> simp [Rows.uptoBulk]
  | nil => simp [Rows.uptoBulk]
  | ptr d => simp [Rows.uptoBulk]
  | slice elems spare => simp [Rows.uptoBulk]
  | agg parts => simp [Rows.uptoBulk]
  | iface t d => simp [Rows.uptoBulk]
  | map entries => simp [Rows.uptoBulk]
  | held h => simp [Rows.uptoBulk]
theorem bulk_part {H : Type} {d : DataW H} : ∀ {l : List (DataW H)}, d ∈ l → Rows.uptoBulk d ≤ Rows.uptoBulkAll l
  | [], h => by cases h
  | x :: r, h => by
    simp only [Rows.uptoBulkAll]
    rcases List.mem_cons.1 h with rfl | h
    · omega
    · have := bulk_part h; omega
theorem bulk_append {H : Type} : ∀ (l r : List (DataW H)), Rows.uptoBulkAll (l ++ r) = Rows.uptoBulkAll l + Rows.uptoBulkAll r
  | [], r => by simp [Rows.uptoBulkAll]
  | x :: l, r => by simp only [List.cons_append, Rows.uptoBulkAll, bulk_append l r]; omega
theorem bulk_length {H : Type} : ∀ (l : List (DataW H)), l.length ≤ Rows.uptoBulkAll l
  | [] => by simp [Rows.uptoBulkAll]
  | x :: r => by have := bulk_one x; have := bulk_length r; simp only [Rows.uptoBulkAll, List.length_cons]; omega
/-- what a datum holds is of small bulk -/
def Sml {H : Type} (_t : TypeId) (d : DataW H) : Prop := Rows.uptoBulk d ≤ 1048576
theorem sml_upto {H : Type} {ds gs : List (DataW H)} (h : Rows.uptoSmall H (ds ++ gs) = true) : Rows.uptoBulkAll ds ≤ 1048576 := by
  have h2 : Rows.uptoBulkAll (ds ++ gs) ≤ 1048576 := of_decide_eq_true h
  rw [bulk_append] at h2
  omega
theorem sml_each {H : Type} {ds : List (DataW H)} (h : Rows.uptoBulkAll ds ≤ 1048576) {j : Nat} {t : TypeId} {d : DataW H} (_ht : [t][0]? = some t) (hd : ds[j]? = some d) : Sml t d :=
  Nat.le_trans (bulk_part (List.mem_of_getElem? hd)) h

section
variable {H : Type} {enc : TypeId × Value → H} {w : World} {base : Nat} {spare : Nat → Bool} {held : Bool}
/-- a field of a struct -/
theorem fld {t : TypeId} {fs : Array Field} (ht : Tryd.prog.underlying t = some (.struct fs)) {fuel : Nat} {cs : List Value} {x : DataW H × List MemPlace} (h : DataW.trod enc Tryd.prog w base spare held fuel t cs = some x) (hs : Sml t x.1) (j : Nat) {f : Field} (hf : fs[j]? = some f) :
    ∃ n y, DataW.trod enc Tryd.prog w base spare held n f.type ((cs.drop f.offset).take (Tryd.prog.cellsOf f.type)) = some y ∧ Sml f.type y.1 := by
  obtain ⟨xs, n, _, hx, _, hlen, hg⟩ := DataW.trod_struct ht h
  have hj : j < xs.length := by rw [hlen]; exact (Array.getElem?_eq_some_iff.1 hf).1
  have e := hg j f hf
  rw [List.getElem?_eq_getElem hj] at e
  refine ⟨n, xs[j], e, ?_⟩
  subst hx
  unfold Sml at hs ⊢
  simp only [Rows.uptoBulk] at hs
  have := bulk_part (l := xs.map (·.1)) (List.mem_map.2 ⟨xs[j], List.getElem_mem hj, rfl⟩)
  omega
theorem u8_form {fuel : Nat} {v : Value} {x : DataW H × List MemPlace} (h : DataW.trod enc Tryd.prog w base spare held fuel 5 [v] = some x) : ∃ n : Nat, v = .int .u8 (n : Int) ∧ n < 256 := by
  obtain ⟨n, hv, _, hw⟩ := DataW.trod_int Tryd.underlying5 h
  obtain ⟨h0, h1⟩ := (Lit.wf_int_iff .u8 n).1 hw
  have a0 : (0 : Int) ≤ n := h0
  have a1 : n ≤ 255 := h1
  obtain ⟨m, rfl⟩ := Int.eq_ofNat_of_zero_le a0
  exact ⟨m, by simpa using hv, by omega⟩
theorem u32_form {fuel : Nat} {v : Value} {x : DataW H × List MemPlace} (h : DataW.trod enc Tryd.prog w base spare held fuel 25 [v] = some x) : ∃ n : Nat, v = .int .u32 (n : Int) ∧ n < 4294967296 := by
  obtain ⟨n, hv, _, hw⟩ := DataW.trod_int Tryd.underlying25 h
  obtain ⟨h0, h1⟩ := (Lit.wf_int_iff .u32 n).1 hw
  have a0 : (0 : Int) ≤ n := h0
  have a1 : n ≤ 4294967295 := h1
  obtain ⟨m, rfl⟩ := Int.eq_ofNat_of_zero_le a0
  exact ⟨m, by simpa using hv, by omega⟩
theorem int_form {fuel : Nat} {v : Value} {x : DataW H × List MemPlace} (h : DataW.trod enc Tryd.prog w base spare held fuel 3 [v] = some x) : ∃ n : Int, v = .int .i64 n := by
  obtain ⟨n, hv, _, hw⟩ := DataW.trod_int Tryd.underlying3 h
  exact ⟨n, by simpa using hv⟩
theorem str_form {fuel : Nat} {v : Value} {x : DataW H × List MemPlace} (h : DataW.trod enc Tryd.prog w base spare held fuel 9 [v] = some x) (hs : Sml 9 x.1) : ∃ s : Bytes, v = strOf s ∧ s.length ≤ lim := by
  obtain ⟨s, hv, rfl, _⟩ := DataW.trod_string Tryd.underlying9 h
  refine ⟨s.data.toList, by simpa [strOf] using hv, ?_⟩
  unfold Sml at hs
  simp only [Rows.uptoBulk] at hs
  simp only [lim, Array.length_toList] at hs ⊢
  omega
theorem cells_len {b0 : Nat} {a : Addr} {n : Nat} {cs : List Value} (h : w.cells? b0 a n = some cs) : cs.length = n ∧ ∀ j x, cs[j]? = some x → w.cell? (a.add j) = some x := by
  unfold World.cells? at h
  split at h
  · have hl := mapM_some_length h
    refine ⟨by simpa using hl, fun j x hj => ?_⟩
    have hlt : j < n := by
      have := (List.getElem?_eq_some_iff.1 hj).1
      rw [hl] at this
      simpa using this
    have := mapM_some_get h j j (by simp [hlt])
    rw [hj] at this
    exact this
  · cases h
theorem addr_add (a : Addr) (p q : Nat) : (a.add p).add q = a.add (p + q) := by
  unfold Addr.add
  by_cases hp : p = 0
  · subst hp; simp
  · by_cases hq : q = 0
    · subst hq; simp [hp]
    · simp [hp, hq, Nat.add_assoc]
/-- what is asked of the elements' bulk -/
def BOk {H : Type} (enc : TypeId × Value → H) (w : World) (base : Nat) (spare : Nat → Bool) (held : Bool) (e : TypeId) : Prop := ∀ n cs y, DataW.trod enc Tryd.prog w base spare held n e cs = some y → Tryd.prog.bytesOf e ≤ 16 * Rows.uptoBulk y.1
theorem bok_small {H : Type} {enc : TypeId × Value → H} {w : World} {base : Nat} {spare : Nat → Bool} {held : Bool} {e : TypeId} (h : Tryd.prog.bytesOf e ≤ 16) : BOk (H := H) enc w base spare held e := fun n cs y _ => by
  have := bulk_one y.1
  omega
theorem bok_struct {H : Type} {enc : TypeId × Value → H} {w : World} {base : Nat} {spare : Nat → Bool} {held : Bool} {e : TypeId} {fs : Array Field} (ht : Tryd.prog.underlying e = some (.struct fs)) (h : Tryd.prog.bytesOf e ≤ 16 * (fs.size + 1)) : BOk (H := H) enc w base spare held e := fun n cs y hy => by
  obtain ⟨xs, n, _, hx, _, hlen, _⟩ := DataW.trod_struct ht hy
  subst hx
  have := bulk_length (xs.map (·.1))
  rw [List.length_map, hlen] at this
  simp only [Rows.uptoBulk]
  omega
theorem bulk_elems {H : Type} {enc : TypeId × Value → H} {w : World} {base : Nat} {spare : Nat → Bool} {held : Bool} {e : TypeId} (hbk : BOk (H := H) enc w base spare held e) : ∀ l : List (DataW H), (∀ d ∈ l, ∃ n cs p, DataW.trod enc Tryd.prog w base spare held n e cs = some (d, p)) → l.length * Tryd.prog.bytesOf e ≤ 16 * Rows.uptoBulkAll l
  | [], _ => by simp
  | d :: l, h => by
    obtain ⟨n, cs, p, hd⟩ := h d (by simp)
    have h1 := hbk n cs _ hd
    have ih := bulk_elems hbk l (fun x hx => h x (by simp [hx]))
    simp only at h1
    rw [List.length_cons, Nat.succ_mul]
    simp only [Rows.uptoBulkAll]
    omega
/-- a slice whose elements are read as parts -/
theorem slice_form {α : Type} {g : α → List Value} {Q : α → Prop} {t e : TypeId} {k : Nat} (ht : Tryd.prog.underlying t = some (.slice e)) (hk : Tryd.prog.cellsOf e = k)
    (dec : ∀ n cs y, cs.length = k → DataW.trod enc Tryd.prog w base spare held n e cs = some y → Sml e y.1 → ∃ x, cs = g x ∧ Q x)
    (hbk : BOk (H := H) enc w base spare held e) {fuel : Nat} {v : Value} {x : DataW H × List MemPlace} (h : DataW.trod enc Tryd.prog w base spare held fuel t [v] = some x) (hs : Sml t x.1) :
    ∃ l : List α, ListAt w g k v l ∧ (∀ x ∈ l, Q x) ∧ l.length * Tryd.prog.bytesOf e ≤ lim := by
  rcases DataW.trod_slice ht h with ⟨hv, rfl⟩ | ⟨a, len, cap, elems, rest, n, _, hv, hx, _, _, _, hlen, hel, _, _⟩
  · simp only [List.cons.injEq, and_true] at hv
    subst hv
    exact ⟨[], ⟨by simp, ReadsAt.nil w k⟩, by simp, by simp⟩
  · simp only [List.cons.injEq, and_true] at hv
    subst hv hx
    unfold Sml at hs
    simp only [Rows.uptoBulk] at hs
    have hs1 : ∀ d ∈ elems.map (·.1), Sml e d := fun d hd => by
      have := bulk_part hd
      unfold Sml
      omega
    have hs0 := bulk_elems hbk (elems.map (·.1)) (fun d hd => by
      obtain ⟨z, hz, rfl⟩ := List.mem_map.1 hd
      obtain ⟨j, hj⟩ := List.mem_iff_getElem?.1 hz
      have hjl := (List.getElem?_eq_some_iff.1 hj).1
      have he := hel j (by omega)
      rw [hj, Option.bind_eq_some_iff] at he
      obtain ⟨cs, _, hd⟩ := he
      exact ⟨n, cs, z.2, hd⟩)
    rw [List.length_map] at hs0
    have key : ∀ m, m ≤ len → ∃ l : List α, l.length = m ∧ (∀ x ∈ l, (g x).length = k) ∧ (∀ x ∈ l, Q x) ∧ ∀ i y, l[i]? = some y → ∀ j c, (g y)[j]? = some c → w.cell? ((a.add (i * k)).add j) = some c := by
      intro m
      induction m with
      | zero => exact fun _ => ⟨[], rfl, by simp, by simp, by simp⟩
      | succ m ih =>
        intro hm
        obtain ⟨l, h1, h2, h3, h4⟩ := ih (by omega)
        have he := hel m (by omega)
        rw [List.getElem?_eq_getElem (by omega), hk, Option.bind_eq_some_iff] at he
        obtain ⟨cs, hc, hd⟩ := he
        obtain ⟨hcl, hcc⟩ := cells_len hc
        obtain ⟨y, rfl, hq⟩ := dec n cs _ hcl hd (hs1 _ (by simp [List.mem_map]; exact ⟨_, List.getElem_mem (by omega)⟩))
        refine ⟨l ++ [y], by simp [h1], ?_, ?_, ?_⟩
        · intro z hz
          rcases List.mem_append.1 hz with hz | hz
          · exact h2 z hz
          · rw [List.mem_singleton.1 hz]; exact hcl
        · intro z hz
          rcases List.mem_append.1 hz with hz | hz
          · exact h3 z hz
          · rw [List.mem_singleton.1 hz]; exact hq
        · intro i z hz
          by_cases hi : i < l.length
          · rw [List.getElem?_append_left hi] at hz
            exact h4 i z hz
          · rw [List.getElem?_append_right (by omega)] at hz
            have hi0 : i - l.length = 0 := by
              have := (List.getElem?_eq_some_iff.1 hz).1
              simp only [List.length_singleton] at this
              omega
            rw [hi0] at hz
            simp only [List.getElem?_cons_zero, Option.some.injEq] at hz
            subst hz
            have : i = m := by omega
            subst this
            exact hcc
    obtain ⟨l, h1, h2, h3, h4⟩ := key len (Nat.le_refl _)
    refine ⟨l, ⟨h2, ?_⟩, h3, ?_⟩
    · refine ⟨flat_len g k l h2, some a, cap, by rw [h1], by simp, fun j x hj => ⟨a, rfl, ?_⟩⟩
      have hjl := (List.getElem?_eq_some_iff.1 hj).1
      rw [flat_len g k l h2] at hjl
      have hk0 : 0 < k := by
        rcases Nat.eq_zero_or_pos k with h0 | h0
        · rw [h0] at hjl; simp at hjl
        · exact h0
      have hq : j / k < l.length := Nat.div_lt_of_lt_mul (by rw [Nat.mul_comm]; exact hjl)
      have hr : j % k < k := Nat.mod_lt _ hk0
      have hjk : j / k * k + j % k = j := by rw [Nat.mul_comm]; exact Nat.div_add_mod j k
      have e1 := flat_get g k l h2 (j / k) (j % k) hq hr
      rw [hjk, hj] at e1
      have e2 := h4 (j / k) l[j / k] (by simp) (j % k) x e1.symm
      have e3 : (a.add (j / k * k)).add (j % k) = a.add j := by rw [addr_add, hjk]
      rw [← e3]
      exact e2
    · rw [h1]
      rw [hlen] at hs0
      simp only [lim]
      omega
end
end Go.Proofs.YtgkhfpkfjajdjaaDoor

/- Arguments: bytes, texts, pairs, questions, records, as they are read. -/
namespace Go.Proofs.YtgkhfpkfjajdjaaDoor
open Go.RowKit Go.ChangeShapes Go.WideShapes Go.ChangeAt
set_option maxRecDepth 100000
set_option maxHeartbeats 1000000

theorem flat_one_map {α β : Type} (f : α → β) : ∀ l : List α, (l.flatMap fun s => [f s]) = l.map f
  | [] => rfl
  | s :: l => by rw [List.flatMap_cons, flat_one_map f l]; rfl
theorem u8_cells : Tryd.prog.cellsOf 5 = 1 := by kernel_rfl
theorem u32_cells : Tryd.prog.cellsOf 25 = 1 := by kernel_rfl
theorem int_cells : Tryd.prog.cellsOf 3 = 1 := by kernel_rfl
theorem str_cells : Tryd.prog.cellsOf 9 = 1 := by kernel_rfl
theorem bys_cells : Tryd.prog.cellsOf 26 = 1 := by kernel_rfl
section
variable {H : Type} {enc : TypeId × Value → H} {w : World} {base : Nat} {spare : Nat → Bool} {held : Bool}
def byteCells (b : UInt8) : List Value := [.int .u8 (b.toNat : Int)]
theorem flat_bytes (bs : Bytes) : bs.flatMap byteCells = bv bs := by
  induction bs with
  | nil => rfl
  | cons b bs ih => rw [List.flatMap_cons, ih]; rfl
theorem bytes_form {fuel : Nat} {v : Value} {x : DataW H × List MemPlace} (h : DataW.trod enc Tryd.prog w base spare held fuel 26 [v] = some x) (hs : Sml 26 x.1) : ∃ bs : Bytes, BytesAt w v bs ∧ bs.length ≤ lim := by
  obtain ⟨bs, h1, _, h3⟩ := slice_form (g := byteCells) (Q := fun _ => True) Tryd.underlying26 u8_cells (fun n cs y hl ht _ => by
    match cs, hl with
    | [c], _ =>
      obtain ⟨m, rfl, hm⟩ := u8_form ht
      exact ⟨UInt8.ofNat m, by simp [byteCells, Nat.mod_eq_of_lt hm], trivial⟩) (bok_small (Nat.le_of_ble_eq_true (by kernel_rfl))) h hs
  refine ⟨bs, ?_, ?_⟩
  · have := h1.2
    rw [flat_bytes] at this
    exact this
  · rw [show Tryd.prog.bytesOf 5 = 1 by kernel_rfl, Nat.mul_one] at h3
    exact h3
theorem ask_form {fuel : Nat} {cs : List Value} {x : DataW H × List MemPlace} (hl : cs.length = 3) (h : DataW.trod enc Tryd.prog w base spare held fuel 65 cs = some x) (hs : Sml 65 x.1) : ∃ a : AskM, cs = askCells a ∧ AskOk a := by
  match cs, hl with
  | [c0, c1, c2], _ =>
    obtain ⟨n0, y0, h0, s0⟩ := fld Tryd.underlying65 h hs 0 rfl
    obtain ⟨n1, y1, h1, s1⟩ := fld Tryd.underlying65 h hs 1 rfl
    obtain ⟨n2, y2, h2, s2⟩ := fld Tryd.underlying65 h hs 2 rfl
    obtain ⟨nm, rfl, hn⟩ := str_form (v := c0) (by simpa [str_cells] using h0) s0
    obtain ⟨ty, rfl, hty⟩ := u16_form (v := c1) (by simpa [u16_cells] using h1)
    obtain ⟨cl, rfl, hcl⟩ := u16_form (v := c2) (by simpa [u16_cells] using h2)
    exact ⟨⟨nm, ty, cl⟩, rfl, hn, hty, hcl⟩
theorem asks_form {fuel : Nat} {v : Value} {x : DataW H × List MemPlace} (h : DataW.trod enc Tryd.prog w base spare held fuel 34 [v] = some x) (hs : Sml 34 x.1) : ∃ qs : List AskM, AsksAt w v qs := by
  obtain ⟨qs, h1, h2, h3⟩ := slice_form (g := askCells) (Q := AskOk) Tryd.underlying34 (by kernel_rfl) (fun n cs y hl ht hsm => ask_form hl ht hsm) (bok_struct Tryd.underlying65 (Nat.le_of_ble_eq_true (by kernel_rfl))) h hs
  exact ⟨qs, h1, h2, by rw [show Tryd.prog.bytesOf 65 = 24 by kernel_rfl] at h3; exact h3⟩
theorem pair_form {fuel : Nat} {cs : List Value} {x : DataW H × List MemPlace} (hl : cs.length = 2) (h : DataW.trod enc Tryd.prog w base spare held fuel 103 cs = some x) (hs : Sml 103 x.1) : ∃ a : PairM × Value, cs = pairCells a ∧ (BytesAt w a.2 a.1.data ∧ a.1.key < 65536 ∧ a.1.data.length ≤ lim) := by
  match cs, hl with
  | [c0, c1], _ =>
    obtain ⟨n0, y0, h0, s0⟩ := fld Tryd.underlying103 h hs 0 rfl
    obtain ⟨n1, y1, h1, s1⟩ := fld Tryd.underlying103 h hs 1 rfl
    obtain ⟨k, rfl, hk⟩ := u16_form (v := c0) (by simpa [u16_cells] using h0)
    obtain ⟨bs, hb, hlb⟩ := bytes_form (v := c1) (by simpa [bys_cells] using h1) s1
    exact ⟨(⟨k, bs⟩, c1), rfl, hb, hk, hlb⟩
theorem text_form {fuel : Nat} {cs : List Value} {x : DataW H × List MemPlace} (hl : cs.length = 1) (h : DataW.trod enc Tryd.prog w base spare held fuel 9 cs = some x) (hs : Sml 9 x.1) : ∃ s : Bytes, cs = [strOf s] ∧ s.length ≤ lim := by
  match cs, hl with
  | [c0], _ =>
    obtain ⟨s, rfl, hb⟩ := str_form h hs
    exact ⟨s, rfl, hb⟩
theorem rec_form {fuel : Nat} {cs : List Value} {x : DataW H × List MemPlace} (hl : cs.length = 16) (h : DataW.trod enc Tryd.prog w base spare held fuel 30 cs = some x) (hs : Sml 30 x.1) : ∃ a : RecM × RecV, cs = recCells a ∧ RecAt w a := by
  match cs, hl with
  | [c0, c1, c2, c3, c4, c5, c6, c7, c8, c9, c10, c11, c12, c13, c14, c15], _ =>
    obtain ⟨n0, y0, h0, s0⟩ := fld Tryd.underlying30 h hs 0 rfl
    obtain ⟨n1, y1, h1, s1⟩ := fld Tryd.underlying30 h hs 1 rfl
    obtain ⟨n2, y2, h2, s2⟩ := fld Tryd.underlying30 h hs 2 rfl
    obtain ⟨n3, y3, h3, s3⟩ := fld Tryd.underlying30 h hs 3 rfl
    obtain ⟨n4, y4, h4, s4⟩ := fld Tryd.underlying30 h hs 4 rfl
    obtain ⟨n5, y5, h5, s5⟩ := fld Tryd.underlying30 h hs 5 rfl
    obtain ⟨n6, y6, h6, s6⟩ := fld Tryd.underlying30 h hs 6 rfl
    obtain ⟨n7, y7, h7, s7⟩ := fld Tryd.underlying30 h hs 7 rfl
    obtain ⟨n8, y8, h8, s8⟩ := fld Tryd.underlying30 h hs 8 rfl
    obtain ⟨n9, y9, h9, s9⟩ := fld Tryd.underlying30 h hs 9 rfl
    obtain ⟨n10, y10, h10, s10⟩ := fld Tryd.underlying30 h hs 10 rfl
    obtain ⟨n11, y11, h11, s11⟩ := fld Tryd.underlying30 h hs 11 rfl
    obtain ⟨n12, y12, h12, s12⟩ := fld Tryd.underlying30 h hs 12 rfl
    obtain ⟨n13, y13, h13, s13⟩ := fld Tryd.underlying30 h hs 13 rfl
    obtain ⟨n14, y14, h14, s14⟩ := fld Tryd.underlying30 h hs 14 rfl
    obtain ⟨n15, y15, h15, s15⟩ := fld Tryd.underlying30 h hs 15 rfl
    obtain ⟨name, rfl, hname⟩ := str_form (v := c0) (by simpa [str_cells] using h0) s0
    obtain ⟨type, rfl, htype⟩ := u16_form (v := c1) (by simpa [u16_cells] using h1)
    obtain ⟨cls, rfl, hcls⟩ := u16_form (v := c2) (by simpa [u16_cells] using h2)
    obtain ⟨ttl, rfl, httl⟩ := u32_form (v := c3) (by simpa [u32_cells] using h3)
    obtain ⟨len, rfl, hlen⟩ := u16_form (v := c4) (by simpa [u16_cells] using h4)
    obtain ⟨kind, rfl⟩ := int_form (v := c5) (by simpa [int_cells] using h5)
    obtain ⟨data, hdata, hdl⟩ := bytes_form (v := c6) (by simpa [bys_cells] using h6) s6
    obtain ⟨host, rfl, hhost⟩ := str_form (v := c7) (by simpa [str_cells] using h7) s7
    obtain ⟨box, rfl, hbox⟩ := str_form (v := c8) (by simpa [str_cells] using h8) s8
    obtain ⟨m1, rfl, hm1⟩ := u32_form (v := c9) (by simpa [u32_cells] using h9)
    obtain ⟨m2, rfl, hm2⟩ := u32_form (v := c10) (by simpa [u32_cells] using h10)
    obtain ⟨m3, rfl, hm3⟩ := u32_form (v := c11) (by simpa [u32_cells] using h11)
    obtain ⟨m4, rfl, hm4⟩ := u32_form (v := c12) (by simpa [u32_cells] using h12)
    obtain ⟨m5, rfl, hm5⟩ := u32_form (v := c13) (by simpa [u32_cells] using h13)
    have hcs14 : Tryd.prog.cellsOf 27 = 1 := by kernel_rfl
    have hcs15 : Tryd.prog.cellsOf 28 = 1 := by kernel_rfl
    have h14' : DataW.trod enc Tryd.prog w base spare held n14 27 [c14] = some y14 := by simpa [hcs14] using h14
    have h15' : DataW.trod enc Tryd.prog w base spare held n15 28 [c15] = some y15 := by simpa [hcs15] using h15
    obtain ⟨ts, ht1, ht2, ht3⟩ := slice_form (g := fun s => [strOf s]) (Q := fun s => s.length ≤ lim) Tryd.underlying27 str_cells (fun n cs y hl ht hsm => text_form hl ht hsm) (bok_small (Nat.le_of_ble_eq_true (by kernel_rfl))) h14' s14
    obtain ⟨ps, hp1, hp2, hp3⟩ := slice_form (g := pairCells) (Q := fun a : PairM × Value => BytesAt w a.2 a.1.data ∧ a.1.key < 65536 ∧ a.1.data.length ≤ lim) Tryd.underlying28 (by kernel_rfl) (fun n cs y hl ht hsm => pair_form hl ht hsm) (bok_struct Tryd.underlying103 (Nat.le_of_ble_eq_true (by kernel_rfl))) h15' s15
    rw [show Tryd.prog.bytesOf 9 = 16 by kernel_rfl] at ht3
    rw [show Tryd.prog.bytesOf 103 = 32 by kernel_rfl] at hp3
    refine ⟨(⟨name, type, cls, ttl, len, kind, data, host, box, m1, m2, m3, m4, m5, ts, ps.map (·.1)⟩, ⟨c6, c14, c15⟩), rfl, ⟨hname, hhost, hbox, hdl, htype, hcls, httl, hlen, hm1, hm2, hm3, hm4, hm5, ⟨ht3, ht2⟩, ⟨by simpa using hp3, ?_⟩⟩, hdata, ?_, ⟨ps, rfl, hp1, fun y hy => (hp2 y hy).1⟩⟩
    · intro p hp
      obtain ⟨y, hy, rfl⟩ := List.mem_map.1 hp
      exact (hp2 y hy).2
    · have := ht1.2
      have e : (ts.flatMap fun s => [strOf s]) = ts.map strOf := flat_one_map strOf ts
      rw [e] at this
      exact this
theorem recs_form {fuel : Nat} {v : Value} {x : DataW H × List MemPlace} (h : DataW.trod enc Tryd.prog w base spare held fuel 35 [v] = some x) (hs : Sml 35 x.1) : ∃ l : List (RecM × RecV), RecsAt w v l := by
  obtain ⟨l, h1, h2, h3⟩ := slice_form (g := recCells) (Q := RecAt w) Tryd.underlying35 (by kernel_rfl) (fun n cs y hl ht hsm => rec_form hl ht hsm) (bok_struct Tryd.underlying30 (Nat.le_of_ble_eq_true (by kernel_rfl))) h hs
  exact ⟨l, h1, h2, by rw [show Tryd.prog.bytesOf 30 = 168 by kernel_rfl] at h3; exact Nat.le_trans h3 (Nat.le_add_right _ _)⟩
/-! the same, of arguments -/
variable {r : Reach} {b0 : Nat} {v : Value} {d : DataW H} {p : List MemPlace}
theorem bytes_arg (hv : Value.okWide Tryd.prog w r b0 26 v) (h : DataW.Trod enc Tryd.prog w base spare held 26 v d p) (hs : Sml 26 d) : ∃ bs : Bytes, BytesAt w v bs ∧ bs.length ≤ lim := by
  obtain ⟨a, len, cap, rfl⟩ := okWide_slice Tryd.underlying26 hv
  obtain ⟨fuel, hf⟩ := h
  exact bytes_form hf hs
theorem asks_arg (hv : Value.okWide Tryd.prog w r b0 34 v) (h : DataW.Trod enc Tryd.prog w base spare held 34 v d p) (hs : Sml 34 d) : ∃ qs, AsksAt w v qs := by
  obtain ⟨a, len, cap, rfl⟩ := okWide_slice Tryd.underlying34 hv
  obtain ⟨fuel, hf⟩ := h
  exact asks_form hf hs
theorem recs_arg (hv : Value.okWide Tryd.prog w r b0 35 v) (h : DataW.Trod enc Tryd.prog w base spare held 35 v d p) (hs : Sml 35 d) : ∃ l, RecsAt w v l := by
  obtain ⟨a, len, cap, rfl⟩ := okWide_slice Tryd.underlying35 hv
  obtain ⟨fuel, hf⟩ := h
  exact recs_form hf hs
theorem ask_arg (hv : Value.okWide Tryd.prog w r b0 65 v) (h : DataW.Trod enc Tryd.prog w base spare held 65 v d p) (hs : Sml 65 d) : ∃ a, v = .agg (askCells a).toArray ∧ AskOk a := by
  obtain ⟨cs, rfl, hsz⟩ := okWide_struct Tryd.underlying65 hv
  obtain ⟨fuel, hf⟩ := h
  obtain ⟨a, e, ho⟩ := ask_form (by rw [Value.cells, Array.length_toList, hsz]; kernel_rfl) hf hs
  refine ⟨a, ?_, ho⟩
  rw [← e]
  simp [Value.cells]
theorem rec_arg (hv : Value.okWide Tryd.prog w r b0 30 v) (h : DataW.Trod enc Tryd.prog w base spare held 30 v d p) (hs : Sml 30 d) : ∃ a, v = .agg (recCells a).toArray ∧ RecAt w a := by
  obtain ⟨cs, rfl, hsz⟩ := okWide_struct Tryd.underlying30 hv
  obtain ⟨fuel, hf⟩ := h
  obtain ⟨a, e, ho⟩ := rec_form (by rw [Value.cells, Array.length_toList, hsz]; kernel_rfl) hf hs
  refine ⟨a, ?_, ho⟩
  rw [← e]
  simp [Value.cells]
theorem str_arg (hv : Value.okWide Tryd.prog w r b0 9 v) (h : DataW.Trod enc Tryd.prog w base spare held 9 v d p) (hs : Sml 9 d) : ∃ s, v = strOf s ∧ s.length ≤ lim := by
  obtain ⟨s, rfl⟩ := okWide_string Tryd.underlying9 hv
  obtain ⟨fuel, hf⟩ := h
  exact str_form hf hs
theorem u8_arg (hv : Value.okWide Tryd.prog w r b0 5 v) (h : DataW.Trod enc Tryd.prog w base spare held 5 v d p) : ∃ n : Nat, v = .int .u8 (n : Int) ∧ n < 256 := by
  obtain ⟨s, rfl⟩ := okWide_int Tryd.underlying5 hv
  obtain ⟨fuel, hf⟩ := h
  exact u8_form hf
theorem u16_arg (hv : Value.okWide Tryd.prog w r b0 22 v) (h : DataW.Trod enc Tryd.prog w base spare held 22 v d p) : ∃ n : Nat, v = .int .u16 (n : Int) ∧ n < 65536 := by
  obtain ⟨s, rfl⟩ := okWide_int Tryd.underlying22 hv
  obtain ⟨fuel, hf⟩ := h
  exact u16_form hf
theorem bool_arg (hv : Value.okWide Tryd.prog w r b0 4 v) : ∃ b : Bool, v = .bool b := okWide_bool Tryd.underlying4 hv
/-- a slice of bytes is no longer than its reach -/
def CapOk (v : Value) : Prop := ∃ ao len cap, v = .slice ao len cap ∧ len ≤ cap
theorem rec_cap {a : RecM × RecV} (h : DataW.Trod enc Tryd.prog w base spare held 30 (.agg (recCells a).toArray) d p) (hs : Sml 30 d) : CapOk a.2.dv := by
  obtain ⟨fuel, hf⟩ := h
  obtain ⟨n6, y6, h6, s6⟩ := fld Tryd.underlying30 hf hs 6 rfl
  have h6' : DataW.trod enc Tryd.prog w base spare held n6 26 [a.2.dv] = some y6 := by simpa [bys_cells, Value.cells, recCells] using h6
  rcases DataW.trod_slice Tryd.underlying26 h6' with ⟨hv, _⟩ | ⟨b, len, cap, _, _, _, _, hv, _, _, hlc, _⟩
  · exact ⟨none, 0, 0, by simpa using hv, Nat.le_refl _⟩
  · exact ⟨some b, len, cap, by simpa using hv, hlc⟩
end
end Go.Proofs.YtgkhfpkfjajdjaaDoor

/- What the laid variables hold: errors, each in a place of its own. -/
namespace Go.Proofs.YtgkhfpkfjajdjaaDoor
open Go.RowKit Go.ChangeShapes Go.WideShapes Go.ChangeAt
set_option maxRecDepth 100000
set_option maxHeartbeats 1000000

def errD (text : List UInt8) : DataW Unit := .iface "*errors.errorString" (.ptr (.agg [.lit (.string text)]))
def isErrD : DataW Unit → Bool
  | .iface s (.ptr (.agg [.lit (.string _)])) => s == "*errors.errorString"
  | _ => false
theorem isErrD_form {d : DataW Unit} (h : isErrD d = true) : ∃ text, d = errD text := by
  unfold isErrD at h
  split at h
  · rename_i s text
    have : s = "*errors.errorString" := by simpa using h
    subst this
    exact ⟨text, rfl⟩
  · cases h
theorem err_row (u : TypeId) (hu : Tryd.prog.typeName? 3 u = some "*errors.errorString") : u = 168 :=
  typeName_ptr_named (P := Tryd.prog) (nm := "errors.errorString") (by kernel_rfl) (by kernel_rfl) (by decide) u hu
def placeOf (a : Addr) : MemPlace := .cell a.block a.off
/-- each laid variable of a list of errors, with the place of its error -/
theorem laid_list {w : World} : ∀ (l : List (String × DataW Unit)) (ps qs : List MemPlace), DataW.LaidVars Tryd.prog w l ps → (∀ p ∈ ps, p ∈ qs) → (∀ x ∈ l, isErrD x.2 = true) → (∀ x ∈ l, ∀ g, Tryd.prog.globalNamed x.1 = some g → (Tryd.prog.globals[g]?).map (·.type) = some 78) →
    (∀ b off, MemPlace.cell b off ∈ qs → (∃ c t, w.heap[b]? = some (.cells c t (0, 0))) ∧ ∀ u v, w.cell? ⟨b, off, none⟩ = some (.iface u v) → Value.okWide Tryd.prog w .any 0 u v) →
    ∃ ads : List Addr, (ads.map placeOf).Sublist ps ∧ ads.length = l.length ∧ ∀ (i : Nat) (x : String × DataW Unit), l[i]? = some x → ∃ a g, ads[i]? = some a ∧ Tryd.prog.globalNamed x.1 = some g ∧ w.var? Tryd.prog x.1 = some #[.iface 168 (.pointer (some a))] ∧ Solid w a.block
  | [], ps, qs, _, _, _, _, _ => ⟨[], by simp, rfl, by simp⟩
  | (n, d) :: l, ps, qs, h, hq, hE, hT, hok => by
    obtain ⟨g, t, cs, fuel, p, q, hg, ht, hv, hd, hr, rfl⟩ := h
    obtain ⟨ads, h1, h2, h3⟩ := laid_list l q qs hr (fun x hx => hq x (by simp [hx])) (fun x hx => hE x (by simp [hx])) (fun x hx => hT x (by simp [hx])) hok
    obtain ⟨text, rfl⟩ := isErrD_form (hE (n, d) (by simp))
    have e := hT (n, errD text) (by simp) g hg
    rw [ht] at e
    cases e
    have hvar : ∃ tt fr, w.heap[g]? = some (.cells cs tt fr) := by
      unfold World.var? at hv
      simp only [hg, Option.bind_some] at hv
      split at hv
      · rename_i cs' tt fr e
        cases hv
        exact ⟨tt, fr, e⟩
      · cases hv
    obtain ⟨tt, fr, hblk⟩ := hvar
    obtain ⟨f, hfs⟩ : ∃ f, Tryd.prog.underlying 187 = some (.struct #[f]) ∧ f.type = 9 ∧ f.offset = 0 := ⟨_, Tryd.underlying187, rfl, rfl⟩
    obtain ⟨a, s, hcs, hcell, _, _, hp⟩ := errorString_of_trod Tryd.underlying78 err_row Tryd.underlying168 hfs.1 hfs.2.1 hfs.2.2 Tryd.underlying9 (by kernel_rfl) (by kernel_rfl) hd
      (fun u v huv => by
        have hsz : cs.size = 1 := by rw [← Array.length_toList, huv]; rfl
        refine (hok g 0 (hq _ ?_)).2 u v ?_
        · rw [hsz]; simp [MemPlace.row, List.range_succ]
        · rw [cell_of_row w g 0 cs tt fr hblk]
          have : cs.toList[0]? = some (.iface u v) := by rw [huv]; rfl
          simpa using this)
    have hcs' : cs = #[.iface 168 (.pointer (some a))] := by
      apply Array.toList_inj.1
      simpa using hcs
    subst hp
    have hplace : placeOf a ∈ MemPlace.row a 1 := by simp [MemPlace.row, placeOf, List.range_succ]
    refine ⟨a :: ads, ?_, by simp [h2], ?_⟩
    · rw [List.map_cons]
      refine List.Sublist.append (l₁ := [placeOf a]) (List.singleton_sublist.2 ?_) h1
      exact List.mem_append.2 (.inr hplace)
    · intro i x hx
      cases i with
      | zero =>
        simp only [List.getElem?_cons_zero, Option.some.injEq] at hx
        subst hx
        exact ⟨a, g, rfl, hg, by rw [hv, hcs'], (hok a.block a.off (hq _ (by simp [hplace, placeOf] at hplace ⊢; exact .inr (.inl hplace)))).1⟩
      | succ i => simpa using h3 i x (by simpa using hx)
def laidL : List (String × DataW Unit) := Rows.fnEarlyHTTPSRow.laid
/-- the variables that the walks name -/
theorem errGs_laid : (errGs.all fun G => laidL.any fun x => Tryd.prog.globalNamed x.1 == some G) = true := by kernel_rfl
theorem laid_isErr : (laidL.all fun x => isErrD x.2) = true := by kernel_rfl
theorem laid_types : (laidL.all fun x => match Tryd.prog.globalNamed x.1 with | some g => (Tryd.prog.globals[g]?).map (·.type) == some 78 && (((begin Tryd.prog (fun _ _ => 0) default).world.heap[g]?).bind Obj.row?).map (·.2) == some 78 && decide (g < Tryd.prog.globals.size) | none => false) = true := by kernel_rfl
theorem laid_two : (laidL[0]?).bind (fun x => Tryd.prog.globalNamed x.1) = some 0 ∧ (laidL[1]?).bind (fun x => Tryd.prog.globalNamed x.1) = some 1 := ⟨by kernel_rfl, by kernel_rfl⟩
theorem laid_plain : (laidL.filter fun x => x.2.handleName?.isSome).isEmpty = true := by kernel_rfl
theorem known_of_laid {w : World} (hL : laidMetH Tryd.prog laidL w) (hS : w.ShapedOpen Tryd.prog) : Errs w ∧ Known w := by
  have hL' : laidMet Tryd.prog laidL w := by
    unfold laidMetH at hL
    rw [List.isEmpty_iff.1 laid_plain] at hL
    exact hL
  obtain ⟨ps, hv, hnd, hok⟩ := hL'
  have hty := List.all_eq_true.1 laid_types
  have hT : ∀ x ∈ laidL, ∀ g, Tryd.prog.globalNamed x.1 = some g → (Tryd.prog.globals[g]?).map (·.type) = some 78 := by
    intro x hx g hg
    have := hty x hx
    rw [hg] at this
    simp only [Bool.and_eq_true, beq_iff_eq] at this
    exact this.1.1
  obtain ⟨ads, h1, h2, h3⟩ := laid_list laidL ps ps hv (fun _ h => h) (List.all_eq_true.1 laid_isErr) hT hok
  have hblk : ∀ (i : Nat) (x : String × DataW Unit), laidL[i]? = some x → ∃ a g, ads[i]? = some a ∧ Tryd.prog.globalNamed x.1 = some g ∧ w.heap[g]? = some (.cells #[.iface 168 (.pointer (some a))] 78 (0, 0)) ∧ Solid w a.block := by
    intro i x hx
    obtain ⟨a, g, ha, hg, hvar, hs⟩ := h3 i x hx
    refine ⟨a, g, ha, hg, ?_, hs⟩
    have := hty x (List.mem_of_getElem? hx)
    rw [hg] at this
    simp only [Bool.and_eq_true, beq_iff_eq, decide_eq_true_eq] at this
    obtain ⟨⟨_, hr⟩, hlt⟩ := this
    obtain ⟨y, hy, hy2⟩ := Option.map_eq_some_iff.1 hr
    obtain ⟨cs, hcs, _⟩ := hS.1 g y.1 y.2 hlt hy
    rw [hy2] at hcs
    unfold World.var? at hvar
    simp only [hg, Option.bind_some, hcs, Option.some.injEq] at hvar
    rw [hcs, hvar]
  refine ⟨fun G hG => ?_, ?_⟩
  · have := List.all_eq_true.1 errGs_laid G hG
    obtain ⟨x, hx, hxg⟩ := List.any_eq_true.1 this
    obtain ⟨i, hi⟩ := List.mem_iff_getElem?.1 hx
    obtain ⟨a, g, _, hg, hb, hs⟩ := hblk i x hi
    have : g = G := by
      have := (beq_iff_eq.1 hxg)
      rw [hg] at this
      simpa using this
    subst this
    exact ⟨_, _, _, hb, ⟨a, .inl ⟨rfl, hs⟩⟩⟩
  · obtain ⟨x0, hx0, g0⟩ := Option.bind_eq_some_iff.1 laid_two.1
    obtain ⟨x1, hx1, g1⟩ := Option.bind_eq_some_iff.1 laid_two.2
    obtain ⟨a0, k0, ha0, hg0, hb0, hs0⟩ := hblk 0 x0 hx0
    obtain ⟨a1, k1, ha1, hg1, hb1, hs1⟩ := hblk 1 x1 hx1
    rw [g0] at hg0
    rw [g1] at hg1
    cases hg0
    cases hg1
    refine ⟨a0, a1, _, _, fun e => ?_, hb0, hb1, hs0, hs1⟩
    subst e
    have hn := h1.nodup hnd
    have q0 : (ads.map placeOf)[0]? = some (placeOf a0) := by rw [List.getElem?_map, ha0]; rfl
    have q1 : (ads.map placeOf)[1]? = some (placeOf a0) := by rw [List.getElem?_map, ha1]; rfl
    obtain ⟨l0, e0⟩ := List.getElem?_eq_some_iff.1 q0
    obtain ⟨l1, e1⟩ := List.getElem?_eq_some_iff.1 q1
    exact (List.pairwise_iff_getElem.1 hn) 0 1 l0 l1 (by omega) (e0.trans e1.symm)
end Go.Proofs.YtgkhfpkfjajdjaaDoor
