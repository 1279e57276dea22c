/- What was read is written again as it was given. -/
import Derived.Test.YtfoinoegabcigaaDoorRead8
import Derived.Test.YtfoinoegabcigaaDoorSmall
set_option linter.unusedVariables false
set_option linter.unusedSimpArgs false
namespace Go.Proofs.YtfoinoegabcigaaDoor
open Go.RowKit
set_option maxHeartbeats 2000000
set_option maxRecDepth 100000

theorem readRec_body (k : Nat) (hk : k = 3 ∨ k = 6 ∨ k = 13) (r : RecM) (n : Nat) : body k (readRec k r n) = body k r := by
  rcases hk with rfl | rfl | rfl
  · rfl
  · show two (low (r.n1 % 65536)) ++ wire r.host = two (low r.n1) ++ wire r.host
    unfold low
    rw [Nat.mod_mod]
  · rfl
theorem readRec_wire (k : Nat) (hk : k = 3 ∨ k = 6 ∨ k = 13) (r : RecM) (n : Nat) : recWire k (readRec k r n) = recWire k r := by
  have ht : typeOf k (readRec k r n) = typeOf k r := by rcases hk with rfl | rfl | rfl <;> rfl
  unfold recWire
  rw [readRec_body k hk, ht]
  rfl
section
variable {B : Nat} {w : World} {k : Nat} {v : Value} {l : List (RecM × RecV)} {rs : List RecM}
theorem ReadRecs.wire (h : ReadRecs B w k v l rs) (hk : k = 3 ∨ k = 6 ∨ k = 13) : (recsOf l).map (recWire k) = rs.map (recWire k) ∧ (recsOf l).map (body k) = rs.map (body k) := by
  have hlen := h.len
  have key : ∀ i : Nat, ((recsOf l).map (recWire k))[i]? = (rs.map (recWire k))[i]? ∧ ((recsOf l).map (body k))[i]? = (rs.map (body k))[i]? := by
    intro i
    simp only [recsOf, List.getElem?_map]
    by_cases hi : i < l.length
    · have h1 : l[i]? = some l[i] := by simp [hi]
      have h2 : rs[i]? = some (rs[i]'(by omega)) := by simp [← hlen, hi]
      obtain ⟨n, _, e⟩ := h.recs i _ _ h1 h2
      rw [h1, h2]
      simp only [Option.map_some, e, readRec_wire k hk, readRec_body k hk, and_self]
    · have h1 : l[i]? = none := by simp; omega
      have h2 : rs[i]? = none := by simp; omega
      rw [h1, h2]
      exact ⟨rfl, rfl⟩
  exact ⟨List.ext_getElem? fun i => (key i).1, List.ext_getElem? fun i => (key i).2⟩
theorem flatMap_map_flatten {α : Type} (f : α → Bytes) (l : List α) : l.flatMap f = (l.map f).flatten := by rw [List.flatMap_def]
theorem ReadRecs.flat (h : ReadRecs B w k v l rs) (hk : k = 3 ∨ k = 6 ∨ k = 13) : (recsOf l).flatMap (recWire k) = rs.flatMap (recWire k) := by
  rw [flatMap_map_flatten, flatMap_map_flatten, (h.wire hk).1]
theorem ReadRecs.bodies (h : ReadRecs B w k v l rs) (hk : k = 3 ∨ k = 6 ∨ k = 13) (hr : rs.all (recOk k) = true) : ∀ x ∈ l, (body k x.1).length < 65536 := by
  intro x hx
  have h1 : body k x.1 ∈ (recsOf l).map (body k) := List.mem_map.2 ⟨x.1, List.mem_map.2 ⟨x, hx, rfl⟩, rfl⟩
  rw [(h.wire hk).2] at h1
  obtain ⟨r, hr2, e⟩ := List.mem_map.1 h1
  rw [← e]
  exact (recOk_parts (List.all_eq_true.1 hr r hr2)).2.2.1
end
theorem recsOf_length (l : List (RecM × RecV)) : (recsOf l).length = l.length := by simp [recsOf]
/-- the message that was read, written -/
theorem read_wire {B : Nat} {w : World} {k : Nat} {M : MsgM} {vs : List Value} (h : ReadMsg B w k M vs) (hk : k = 3 ∨ k = 6 ∨ k = 13) (hB : BodyC k) (hid : M.head.id < 65536) (hM : MsgOk k M) (hask : ∀ a ∈ M.asks, AskOk a) (h1 : ∀ r ∈ M.one, RecIn k r) (h2 : ∀ r ∈ M.two, RecIn k r) (h3 : ∀ r ∈ M.three, RecIn k r) :
    Calls Tryd.prog 14 #[.agg vs.toArray] w (RetB w (msgWire k M)) := by
  obtain ⟨va, v1, v2, v3, l1, l2, l3, rfl, hA, hL1, hL2, hL3⟩ := h.at_
  have hlt : k < 14 := by omega
  have hhd := head_of hM
  have n1 := hM.n1; have n2 := hM.n2; have n3 := hM.n3; have na := hM.na
  have e : msgWire k ⟨M.head, M.asks, recsOf l1, recsOf l2, recsOf l3⟩ = msgWire k M := by
    unfold msgWire
    simp only [recsOf_length, hL1.len, hL2.len, hL3.len, List.flatMap_append, hL1.flat hk, hL2.flat hk, hL3.flat hk]
  have hwl := msgWire_le hM
  have := spec_MessageWire hB hlt w M.head va v1 v2 v3 M.asks l1 l2 l3 hid hhd.1 hhd.2 ⟨hA.reads, hask, by simp only [lim]; omega⟩ (hL1.srecs h1 hlt (by omega)) (hL2.srecs h2 hlt (by omega)) (hL3.srecs h3 hlt (by omega)) (by
    intro l hl
    simp only [List.mem_cons, List.not_mem_nil, or_false] at hl
    rcases hl with rfl | rfl | rfl
    · exact hL1.bodies hk hM.one
    · exact hL2.bodies hk hM.two
    · exact hL3.bodies hk hM.three) (by rw [e]; omega)
  rw [e] at this
  exact this
theorem src_of {B : Nat} {w : World} {v : Value} {bs : Bytes} (h : AccB B w v bs) (hl : bs.length ≤ 140737488355328) : SrcAt w v bs := by
  refine ⟨h.reads, ?_, hl⟩
  rcases h.own.2 with ⟨rfl, h0⟩ | ⟨g, cap, cur, rfl, _, _, hn, _⟩
  · exact ⟨none, 0, by rw [h0], by omega⟩
  · exact ⟨_, cap, rfl, hn⟩
end Go.Proofs.YtfoinoegabcigaaDoor
