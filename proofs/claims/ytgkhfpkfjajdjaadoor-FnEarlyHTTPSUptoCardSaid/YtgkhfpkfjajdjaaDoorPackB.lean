/- Bodies that are bytes as they stand. -/
import Derived.Test.YtgkhfpkfjajdjaaDoorG7
import Derived.Test.YtgkhfpkfjajdjaaDoorCopy
set_option linter.unusedVariables false
set_option linter.unusedSimpArgs false
namespace Go.Proofs.YtgkhfpkfjajdjaaDoor
open Go.RowKit
set_option maxHeartbeats 1000000
set_option maxRecDepth 100000

theorem fixed_len (d : Bytes) (n : Nat) : (fixedB d n).length = n := by
  unfold fixedB
  rw [List.length_append, List.length_take, List.length_replicate]
  omega
theorem copied_cells (d : Bytes) (n : Nat) : ((List.replicate n (Value.int .u8 0)).take 0 ++ bv (d.take n) ++ (List.replicate n (Value.int .u8 0)).drop (0 + (d.take n).length)) = bv (fixedB d n) := by
  unfold fixedB
  rw [List.take_zero, List.nil_append, Nat.zero_add, List.drop_replicate, bv_append, List.length_take]
  congr 1
  rw [show n - min n d.length = n - d.length by omega]
  simp [bv, List.map_replicate]
section
variable {n : Nat} {P : Program} {f : Env} {w : World} {d : Option Nat} {ty : TypeId} {pos : String} {af : Array Edge} {gd : Option (Nat × Bool)}
theorem Y_arrAll {t e : TypeId} {x : Operand} {b o len : Nat} [ht : TyArr P t len e 1] (hx : ev f x = .pointer (some ⟨b, o, none⟩)) (h3 : 0 < len) :
    (execOp (ev f) ⟨d, .slice t x none none none, ty, pos, af, gd⟩).run P w = .ok (.value (.slice (some ⟨b, o, none⟩) len len)) w := by
  have e1 : ¬ len = 0 := by omega
  simp [execOp, hx, Instr.sliceAt, run_underlying ht.u, Instr.sureAddr, Instr.sliceBounds, runSize w ht.s, e1, add_addr]
theorem Y_sliceAll {t e : TypeId} {x : Operand} {ao : Option Addr} {len cap : Nat} [ht : TySl P t e 1] (hx : ev f x = .slice ao len cap) :
    (execOp (ev f) ⟨d, .slice t x none none none, ty, pos, af, gd⟩).run P w = .ok (.value (.slice ao len cap)) w := by
  have e1 : (if cap = 0 then ao else ao.map (fun a => a.add 0)) = ao := by
    split
    · rfl
    · cases ao with
      | none => rfl
      | some a => simp [Addr.add]
  simp [execOp, hx, Instr.sliceAt, Instr.slice, run_underlying ht.u, Instr.sliceBounds, runSize w ht.s, e1]
end
theorem Acc.bkept {B : Nat} {w w' : World} {e size : Nat} {v : Value} {n : Nat} {xs : List Value} (h : Acc B w e size v n xs) (hk : ∀ j o, w.heap[j]? = some o → v.ownBlock = some j → w'.heap[j]? = some o) : Acc B w' e size v n xs := by
  refine ⟨⟨h.own.1, ?_⟩, h.base⟩
  rcases h.own.2 with h0 | ⟨g, cap, cur, rfl, hb, hg, hr⟩
  · exact .inl h0
  · exact .inr ⟨g, cap, cur, rfl, hb, hk g _ hg rfl, hr⟩
theorem AccB.away {B : Nat} {w w' : World} {dv : Value} {bs : Bytes} (h : AccB B w dv bs) {S : Nat → Prop} (hc : Chg S w w') (hS : ∀ k, S k → k < B) : BytesAt w' dv bs :=
  AccB.reads (Acc.bkept h fun j o hj hb => hc.kept hj fun hs => by have := Acc.base h j hb; have := hS j hs; omega)
theorem foot2_lt {w : World} {mv cv : Value} {msg : Bytes} {c : Option CMap} (ho : Own w mv msg) (hc : CompAt w cv c) : ∀ k, Foot2 mv cv k → k < w.heap.size := by
  rintro k (e | e)
  · rcases ho.2 with ⟨rfl, _⟩ | ⟨g, cap, cur, rfl, _, hg, _⟩
    · cases e
    · cases e; exact (Array.getElem?_eq_some_iff.1 hg).1
  · exact hc.lt e
end Go.Proofs.YtgkhfpkfjajdjaaDoor
