/- Heads as the calculus wants them; the rest of a division of a byte; messages without records. -/
import Derived.Test.YtfoinoegabcigaaDoorG9
import Derived.Test.YtfoinoegabcigaaDoorBuildAsks
import Derived.Test.YtfoinoegabcigaaDoorAskD
set_option linter.unusedVariables false
set_option linter.unusedSimpArgs false
namespace Go.Proofs.YtfoinoegabcigaaDoor
open Go.RowKit
set_option maxHeartbeats 1000000
set_option maxRecDepth 100000

theorem laws_head (w : World) (h : HeadM) : Calls Tryd.prog 19 #[.agg (hcells h)] w (RetV w (.agg (hcells h))) :=
  laws_specHead (h.id : Int) (h.op : Int) (h.code : Int) h.qr h.aa h.tc h.rd h.ra h.ad h.cd w
theorem spec_headOk (w : World) (h : HeadM) : Calls Tryd.prog 18 #[.agg (hcells h)] w (RetV w (.bool (headOk h))) := by
  have e : (decide ((h.op : Int) < 16) && decide ((h.code : Int) < 16)) = headOk h := by
    unfold headOk
    rw [show decide ((h.op : Int) < 16) = decide (h.op < 16) from decide_eq_decide.2 (by omega), show decide ((h.code : Int) < 16) = decide (h.code < 16) from decide_eq_decide.2 (by omega)]
  have := spec_HeadOk (h.id : Int) (h.op : Int) (h.code : Int) h.qr h.aa h.tc h.rd h.ra h.ad h.cd w
  rw [e] at this
  exact this
theorem headOk_iff {h : HeadM} (e : headOk h = true) : h.op < 16 ∧ h.code < 16 := by
  unfold headOk at e
  simpa using e
section
variable {n : Nat} {P : Program} {f : Env} {w : World} {d : Option Nat} {ty : TypeId} {pos : String} {af : Array Edge} {gd : Option (Nat × Bool)}
theorem Y_remK {k : IntKind} {t u : TypeId} {x y : Operand} {a b : Nat} (hx : ev f x = .int k (a : Int)) (hy : ev f y = .int k (b : Int)) (hb : 0 < b) : (execOp (ev f) ⟨d, .binOp .rem t x y u, ty, pos, af, gd⟩).run P w = .ok (.value (.int k ((a % b : Nat) : Int))) w := by
  have e : (a : Int).tmod (b : Int) = ((a % b : Nat) : Int) := rfl
  rw [← e]
  have hb0 : ¬ b = 0 := by omega
  simp [execOp, hx, hy, eqGuard, binOp, Op.intDiv, hb0]
end
theorem zero4 {w : World} {b : Nat} {e : TypeId} {fr : Nat × Nat} (h : w.heap[b]? = some (.cells (([Value.int .i64 0, Value.int .i64 0, Value.int .i64 0, Value.int .i64 0] : List Value).flatMap (·.cells.toList)).toArray e fr)) : ReadsAt w 1 (.slice (some ⟨b, 0, none⟩) 4 4) ([0, 0, 0, 0] : List Nat).length (([0, 0, 0, 0] : List Nat).map fun (c : Nat) => Value.int .i64 (c : Int)) :=
  reads_lit (k := 1) (n := 4) (vs := [Value.int .i64 0, Value.int .i64 0, Value.int .i64 0, Value.int .i64 0]) h rfl (by simp [Value.cells])
theorem spec_head0 (w : World) (h : HeadM) (hid : h.id < 65536) (hop : h.op < 16) (hcode : h.code < 16) {b : Nat} {e : TypeId} {fr : Nat × Nat} (hb : w.heap[b]? = some (.cells (([Value.int .i64 0, Value.int .i64 0, Value.int .i64 0, Value.int .i64 0] : List Value).flatMap (·.cells.toList)).toArray e fr)) :
    Calls Tryd.prog 21 #[.agg (hcells h), .slice (some ⟨b, 0, none⟩) 4 4] w (RetB w (hdr h.id h.bits 0 0 0 0)) :=
  spec_HeadWire w h hid hop hcode _ [0, 0, 0, 0] (zero4 hb) (by decide)
theorem AsksAt.lit1 {w : World} {b : Nat} {e : TypeId} {fr : Nat × Nat} {a : AskM} (h : w.heap[b]? = some (.cells (([Value.agg (askCells a).toArray] : List Value).flatMap (·.cells.toList)).toArray e fr)) (ha : AskOk a) : AsksAt w (.slice (some ⟨b, 0, none⟩) 1 1) [a] := by
  have := reads_lit (k := 3) (n := 1) h rfl (by simp [Value.cells, askCells])
  refine ⟨⟨fun x _ => rfl, ?_⟩, fun x hx => by rw [List.mem_singleton.1 hx]; exact ha, by simp [lim]⟩
  simpa [Value.cells] using this
theorem recs_none {l : List (RecM × RecV)} {g : RecM → RecM} (e : recsOf l = (recsOf []).map g) : l = [] := by
  cases l with
  | nil => rfl
  | cons a l => simp [recsOf] at e
end Go.Proofs.YtfoinoegabcigaaDoor
