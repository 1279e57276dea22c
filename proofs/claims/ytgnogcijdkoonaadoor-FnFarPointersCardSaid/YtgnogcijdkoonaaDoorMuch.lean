/- The rest of a division, a slice up to a place, a slice's reach: for the laws of great records. -/
import Derived.Test.YtgnogcijdkoonaaDoorPackB
import Derived.Test.YtgnogcijdkoonaaDoorRead1
set_option linter.unusedVariables false
set_option linter.unusedSimpArgs false
namespace Go.Proofs.YtgnogcijdkoonaaDoor
open Go.RowKit
set_option maxRecDepth 100000

section
variable {n : Nat} {P : Program} {f : Env} {w : World} {d : Option Nat} {ty : TypeId} {pos : String} {af : Array Edge} {gd : Option (Nat × Bool)}
theorem Y_rem {t u : TypeId} {x y : Operand} {a b : Nat} (hx : ev f x = .int .i64 (a : Int)) (hy : ev f y = .int .i64 (b : Int)) (hb : 0 < b) : (execOp (ev f) ⟨d, .binOp .rem t x y u, ty, pos, af, gd⟩).run P w = .ok (.value (.int .i64 ((a % b : Nat) : Int))) w := by
  have hb' : ¬ (b : Int) = 0 := by omega
  have e : (a : Int).tmod (b : Int) = ((a % b : Nat) : Int) := rfl
  rw [← e]
  have hb0 : ¬ b = 0 := by omega
  simp [execOp, hx, hy, eqGuard, binOp, Op.intDiv, hb0]
theorem Y_sliceTo {t e : TypeId} {x hi : Operand} {ao : Option Addr} {len cap h : Nat} {kh : IntKind} [ht : TySl P t e 1] (hx : ev f x = .slice ao len cap) (hh : ev f hi = .int kh (h : Int)) (h2 : h ≤ cap) :
    (execOp (ev f) ⟨d, .slice t x none (some hi) none, ty, pos, af, gd⟩).run P w = .ok (.value (.slice (if cap = 0 then ao else ao.map (·.add (0 * 1))) (0 + h - 0) (cap - 0))) w := by
  simp [execOp, hx, hh, Instr.sliceAt, Instr.slice, run_underlying ht.u, Instr.sliceBounds, Instr.sliceBound, asIntOf, h2, runSize w ht.s]
end
section
variable {n : Nat} {P : Program} {l : List Oper} {K : Env → World → Prop} {S : World → Prop} {fuel : Nat} {D : List Bool} {f : Env} {w : World}
theorem WD_any {rs : List Nat} (hr : Region.ready .any l.toArray D.toArray = rs) (hne : rs ≠ []) (h : ∀ i ∈ rs, ∃ o, l[i]? = some o ∧ WL n P l.toArray (fun f' w' => S w' ∧ WD n P l K S fuel (D.set i true) f' w') [o] f w) : WD n P l K S (fuel + 1) D f w := .mk fun a ha => by
  refine wpAnyH_all hr hne fun i hi => ?_
  obtain ⟨o, ho, h⟩ := h i hi
  have hWL := h.out a ha
  have hoa : l.toArray[i]? = some o := by simpa using ho
  have hput : ∀ a'' w'', wpList P l.toArray (WLQ n fun f' w' => S w' ∧ WD n P l K S fuel (D.set i true) f' w') [] a'' w'' → S w'' ∧ wpAnyH P .any l.toArray (WLQ n K) S fuel (D.toArray.setIfInBounds i true) a'' w'' := by
    intro a'' w'' h
    obtain ⟨f', hf', hs, hd⟩ := h
    exact ⟨hs, by rw [← set_arr]; exact hd.out _ hf'⟩
  unfold wpOp
  rw [hoa]
  unfold wpList at hWL
  simp only
  split
  · rename_i hw
    rw [if_pos hw] at hWL
    rcases hWL with h | ⟨_, a1, w1, h⟩
    · exact .inl (upon_mono hput (fun e _ _ he h => by cases e <;> first | exact absurd rfl he | exact h.elim) _ h)
    · exact h.elim
  · rename_i hw
    rw [if_neg hw] at hWL
    exact hput _ _ hWL
theorem WD_three {c c' c'' : Nat} {o o' o'' : Oper} (hr : Region.ready .any l.toArray D.toArray = [c, c', c'']) (ho : l[c]? = some o) (ho' : l[c']? = some o') (ho'' : l[c'']? = some o'') (h : WL n P l.toArray (fun f' w' => S w' ∧ WD n P l K S fuel (D.set c true) f' w') [o] f w) (h' : WL n P l.toArray (fun f' w' => S w' ∧ WD n P l K S fuel (D.set c' true) f' w') [o'] f w) (h'' : WL n P l.toArray (fun f' w' => S w' ∧ WD n P l K S fuel (D.set c'' true) f' w') [o''] f w) : WD n P l K S (fuel + 1) D f w :=
  WD_any hr (by simp) fun i hi => by
    simp only [List.mem_cons, List.not_mem_nil, or_false] at hi
    rcases hi with rfl | rfl | rfl
    · exact ⟨_, ho, h⟩
    · exact ⟨_, ho', h'⟩
    · exact ⟨_, ho'', h''⟩
end
/-- so many bytes that are 0, of the call's own -/
theorem zeros_cells (k : Nat) : (List.replicate k (Value.int .u8 0)).toArray.toList = bv (List.replicate k 0) := by simp [bv, List.map_replicate]
/-- a record ahead of records: what append leaves -/
theorem recs_cons {B : Nat} {w5 w6 : World} {v v10 : Value} {r : RecM × RecV} {l : List (RecM × RecV)} (hL : LAcc B w5 43 recCells 16 v [r]) (hgr : Grew w5 43 16 v [r].length ([r].flatMap recCells) w6 v10 ([r].length + l.length) ([r].flatMap recCells ++ l.flatMap recCells)) (hB : B ≤ w5.heap.size) (hr : RecAt w6 r) (hl : ∀ x ∈ l, RecAt w6 x) (hn : l.length * 168 ≤ lim) : RecsAt w6 v10 (r :: l) := by
  have h := (hL.acc.grew hgr hB).reads
  refine ⟨⟨fun x _ => rfl, ?_⟩, ?_, ?_⟩
  · have e1 : [r].length + l.length = (r :: l).length := by simp; omega
    have e2 : [r].flatMap recCells ++ l.flatMap recCells = (r :: l).flatMap recCells := by simp
    rw [e1, e2] at h
    exact h
  · intro x hx
    rcases List.mem_cons.1 hx with rfl | hx
    · exact hr
    · exact hl x hx
  · simp only [List.length_cons]
    omega
end Go.Proofs.YtgnogcijdkoonaaDoor
