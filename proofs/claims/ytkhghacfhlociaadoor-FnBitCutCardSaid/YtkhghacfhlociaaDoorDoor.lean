/- What every row of this seat needs at its door: the head's cells, the witness world, the numbers of arguments and variables. -/
import Derived.Test.YtkhghacfhlociaaDoorLift
import Derived.Test.YtkhghacfhlociaaDoorCards
import Derived.Test.YtkhghacfhlociaaDoorTie
import Derived.LaidMore
import Derived.LaidHandle
import Derived.Deep.DeepWitnessRowRef
import Derived.Deep.DeepHandedRow
import Derived.ProofKit
import Derived.OpenShut
import Derived.DataShut
namespace Go.Proofs.YtkhghacfhlociaaDoor
open Go.RowKit Go.ChangeShapes Go.WideShapes Go.ChangeAt
set_option maxRecDepth 100000
set_option maxHeartbeats 1000000

theorem own_knob : ownKnob Tryd.prog.godebug = none := by kernel_rfl
theorem laid_out : laidOutB Tryd.prog = true := by kernel_rfl

section
variable {H : Type} {enc : TypeId × Value → H} {w : World} {base : Nat} {spare : Nat → Bool} {held : Bool}
theorem u16_form {fuel : Nat} {v : Value} {x : DataW H × List MemPlace} (h : DataW.trod enc Tryd.prog w base spare held fuel 22 [v] = some x) : ∃ n : Nat, v = .int .u16 (n : Int) ∧ n < 65536 := by
  obtain ⟨n, hv, _, hw⟩ := DataW.trod_int Tryd.underlying22 h
  obtain ⟨h0, h1⟩ := (Lit.wf_int_iff .u16 n).1 hw
  have a0 : (0 : Int) ≤ n := h0
  have a1 : n ≤ 65535 := h1
  obtain ⟨m, rfl⟩ := Int.eq_ofNat_of_zero_le a0
  exact ⟨m, by simpa using hv, by omega⟩
theorem bool_form {fuel : Nat} {v : Value} {x : DataW H × List MemPlace} (h : DataW.trod enc Tryd.prog w base spare held fuel 4 [v] = some x) : ∃ b : Bool, v = .bool b := by
  obtain ⟨b, hv, _⟩ := DataW.trod_bool Tryd.underlying4 h
  exact ⟨b, by simpa using hv⟩
theorem head_cells : Tryd.prog.cellsOf 24 = 10 := by kernel_rfl
theorem u16_cells : Tryd.prog.cellsOf 22 = 1 := by kernel_rfl
theorem bool_cells : Tryd.prog.cellsOf 4 = 1 := by kernel_rfl
theorem head_form {r : Reach} {b0 : Nat} {v : Value} {d : DataW H} {p : List MemPlace} (hv : Value.okWide Tryd.prog w r b0 24 v) (h : DataW.Trod enc Tryd.prog w base spare held 24 v d p) :
    ∃ (id op code : Nat) (qr aa tc rd ra ad cd : Bool), v = .agg #[.int .u16 (id : Int), .bool qr, .int .u16 (op : Int), .bool aa, .bool tc, .bool rd, .bool ra, .bool ad, .bool cd, .int .u16 (code : Int)] ∧ id < 65536 ∧ op < 65536 ∧ code < 65536 := by
  obtain ⟨cs, rfl, hsz⟩ := okWide_struct Tryd.underlying24 hv
  obtain ⟨l⟩ := cs
  match l, hsz.trans head_cells with
  | [c0, c1, c2, c3, c4, c5, c6, c7, c8, c9], _ =>
    obtain ⟨fuel, hf⟩ := h
    obtain ⟨xs, n, _, hx, _, hlen, hg⟩ := DataW.trod_struct Tryd.underlying24 hf
    match xs, hlen with
    | [y0, y1, y2, y3, y4, y5, y6, y7, y8, y9], _ =>
      have g0 : DataW.trod enc Tryd.prog w base spare held n 22 [c0] = some y0 := by simpa [Value.cells, u16_cells] using hg 0 _ rfl
      have g1 : DataW.trod enc Tryd.prog w base spare held n 4 [c1] = some y1 := by simpa [Value.cells, bool_cells] using hg 1 _ rfl
      have g2 : DataW.trod enc Tryd.prog w base spare held n 22 [c2] = some y2 := by simpa [Value.cells, u16_cells] using hg 2 _ rfl
      have g3 : DataW.trod enc Tryd.prog w base spare held n 4 [c3] = some y3 := by simpa [Value.cells, bool_cells] using hg 3 _ rfl
      have g4 : DataW.trod enc Tryd.prog w base spare held n 4 [c4] = some y4 := by simpa [Value.cells, bool_cells] using hg 4 _ rfl
      have g5 : DataW.trod enc Tryd.prog w base spare held n 4 [c5] = some y5 := by simpa [Value.cells, bool_cells] using hg 5 _ rfl
      have g6 : DataW.trod enc Tryd.prog w base spare held n 4 [c6] = some y6 := by simpa [Value.cells, bool_cells] using hg 6 _ rfl
      have g7 : DataW.trod enc Tryd.prog w base spare held n 4 [c7] = some y7 := by simpa [Value.cells, bool_cells] using hg 7 _ rfl
      have g8 : DataW.trod enc Tryd.prog w base spare held n 4 [c8] = some y8 := by simpa [Value.cells, bool_cells] using hg 8 _ rfl
      have g9 : DataW.trod enc Tryd.prog w base spare held n 22 [c9] = some y9 := by simpa [Value.cells, u16_cells] using hg 9 _ rfl
      obtain ⟨id, rfl, hid⟩ := u16_form g0
      obtain ⟨qr, rfl⟩ := bool_form g1
      obtain ⟨op, rfl, hop⟩ := u16_form g2
      obtain ⟨aa, rfl⟩ := bool_form g3
      obtain ⟨tc, rfl⟩ := bool_form g4
      obtain ⟨rd, rfl⟩ := bool_form g5
      obtain ⟨ra, rfl⟩ := bool_form g6
      obtain ⟨ad, rfl⟩ := bool_form g7
      obtain ⟨cd, rfl⟩ := bool_form g8
      obtain ⟨code, rfl, hcode⟩ := u16_form g9
      exact ⟨id, op, code, qr, aa, tc, rd, ra, ad, cd, rfl, hid, hop, hcode⟩
theorem trodVars_length {P : Program} : ∀ (ns : List String) (ds : List (DataW H)) (ps : List MemPlace), DataW.TrodVars enc P w spare ns ds ps → ds.length = ns.length
  | [], [], _, _ => rfl
  | [], _ :: _, _, h => absurd h (by simp [DataW.TrodVars])
  | _ :: _, [], _, h => absurd h (by simp [DataW.TrodVars])
  | n :: ns, d :: ds, ps, h => by
    obtain ⟨g, t, cs, fuel, p, q, _, _, _, _, hq, _⟩ := h
    simp [trodVars_length ns ds q hq]
end
end Go.Proofs.YtkhghacfhlociaaDoor
