/- What the pack method of a body does that reads bytes beside those that grow. -/
import Derived.Test.YtgkhfpkfjajdjaaDoorG7
set_option linter.unusedVariables false
set_option linter.unusedSimpArgs false
namespace Go.Proofs.YtgkhfpkfjajdjaaDoor
open Go.RowKit
set_option maxHeartbeats 2000000
set_option maxRecDepth 100000

/-- the like of BodyP; what is asked of the world may speak of the row that grows -/
def BodyP2 (F : FuncId) (T : TypeId) (bc : List Value) (body : Nat → Option CMap → PR) (LB : Nat) (I : World → Value → Prop) : Prop := ∀ (w : World) (g : Nat) (mv cv : Value) (msg : Bytes) (st : Nat) (c : Option CMap), w.heap[g]? = some (.cells bc.toArray T (0, 0)) → st ≤ msg.length → Own w mv msg → CompAt w cv c → CompOk c → msg.length + 1000 + LB ≤ 200000000000000 → Errs w → I w mv →
  Calls Tryd.prog F #[.pointer (some ⟨g, 0, none⟩), mv, cv, .int .i64 (st : Int)] w (PackPost w mv cv msg (body (msg.length - st) c))
/-- a row that is the old one, or new -/
def AtOld (w : World) (mv mv' : Value) : Prop := mv'.ownBlock = mv.ownBlock ∨ ∃ k, w.heap.size ≤ k ∧ mv'.ownBlock = some k
end Go.Proofs.YtgkhfpkfjajdjaaDoor
