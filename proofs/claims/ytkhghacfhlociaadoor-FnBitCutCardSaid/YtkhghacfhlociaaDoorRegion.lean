/- A region that draws its order, by an invariant over the set of the operations that are done. For whatever program. -/
import Derived.Test.YtkhghacfhlociaaDoorBase
import Derived.Orders
namespace Go.Proofs.YtkhghacfhlociaaDoor
open Go.RowKit

/-- the binding edges of a region lead to earlier operations -/
def edgesBack (ops : Array Oper) : Bool :=
  (List.range ops.size).all fun i => ((ops[i]?).map fun o => o.after.all fun e => !Region.binds .any e || decide (e.on < i)).getD true

theorem ready_nil {ops : Array Oper} (hb : edgesBack ops = true) {D : Array Bool} (hs : D.size = ops.size) (h : Region.ready .any ops D = []) : ∀ i, i < ops.size → D.getD i true = true := by
  intro i
  induction i using Nat.strongRecOn with
  | ind i ih =>
    intro hi
    by_cases hd : D.getD i true = true
    · exact hd
    · exfalso
      have hmem : i ∈ Region.ready .any ops D := by
        unfold Region.ready
        rw [List.mem_filter]
        refine ⟨by simpa using hi, ?_⟩
        have hb1 := List.all_eq_true.1 hb i (by simpa using hi)
        have ho : ops[i]? = some ops[i] := by simp [hi]
        rw [ho] at hb1 ⊢
        simp only [Option.map_some, Option.getD_some] at hb1 ⊢
        have hd' : D.getD i true = false := by simpa using hd
        rw [hd']
        simp only [Bool.not_false, Bool.true_and]
        rw [Array.all_eq_true_iff_forall_mem] at hb1 ⊢
        intro e he
        have h1 := hb1 e he
        cases hq : Region.binds .any e with
        | false => simp
        | true =>
          rw [hq] at h1
          simp only [Bool.not_true, Bool.false_or, decide_eq_true_eq] at h1 ⊢
          have := ih e.on h1 (by omega)
          have hlt : e.on < D.size := by omega
          simpa [Array.getD, hlt] using this
      rw [h] at hmem
      cases hmem

/-- what is known when an operation of the region is taken: it is not done, and what it waits for is -/
structure Taken (ops : Array Oper) (D : Array Bool) (i : Nat) : Prop where
  lt : i < ops.size
  size : D.size = ops.size
  open_ : D.getD i true = false
  deps : ((ops[i]?).map (·.after.all fun e => !Region.binds .any e || D.getD e.on false)).getD false = true

theorem wpAny_inv {P : Program} {ops : Array Oper} {Q : Exit → Act → World → Prop} (hb : edgesBack ops = true) (I : Array Bool → Act → World → Prop)
    (step : ∀ D i, Taken ops D i → ∀ a w, I D a w → wpOp P ops Q i (I (D.setIfInBounds i true)) a w)
    (fin : ∀ D a w, D.size = ops.size → (∀ i, i < ops.size → D.getD i true = true) → I D a w → Q .normal a w) :
    ∀ (fuel : Nat) (D : Array Bool) (a : Act) (w : World), D.size = ops.size → (D.toList.filter (! ·)).length ≤ fuel → I D a w → wpAny P .any ops Q fuel D a w := by
  intro fuel
  induction fuel with
  | zero =>
    intro D a w hs hc hI
    have hall : ∀ i, i < ops.size → D.getD i true = true := by
      intro i hi
      have hlt : i < D.size := by omega
      have hn : D.toList.filter (! ·) = [] := List.eq_nil_of_length_eq_zero (by omega)
      rw [List.filter_eq_nil_iff] at hn
      have := hn D[i] (by simp)
      simpa [Array.getD, hlt] using this
    refine ⟨?_, fin D a w hs hall hI⟩
    unfold Region.ready
    rw [List.filter_eq_nil_iff]
    intro i hi
    rw [hall i (by simpa using hi)]
    simp
  | succ fuel ih =>
    intro D a w hs hc hI
    refine ⟨fun hr => fin D a w hs (ready_nil hb hs hr) hI, fun i hi => ?_⟩
    unfold Region.ready at hi
    rw [List.mem_filter] at hi
    obtain ⟨hi1, hi2⟩ := hi
    simp only [Bool.and_eq_true, Bool.not_eq_true'] at hi2
    have hi3 : i < ops.size := by simpa using hi1
    refine wpOp_mono (fun a' w' h => ih _ a' w' (by simpa using hs) ?_ h) (step D i ⟨hi3, hs, hi2.1, hi2.2⟩ a w hI)
    have hlt : i < D.size := by omega
    have hDi : D[i] = false := by simpa [Array.getD, hlt] using hi2.1
    have hcount : ((D.setIfInBounds i true).toList.filter (! ·)).length + 1 = (D.toList.filter (! ·)).length := by
      have e1 : (D.setIfInBounds i true).toList = D.toList.set i true := by simp
      rw [e1]
      have hl : i < D.toList.length := by simpa using hlt
      have e2 : D.toList = D.toList.take i ++ D.toList[i] :: D.toList.drop (i + 1) := by
        rw [List.getElem_cons_drop hl, List.take_append_drop]
      have e3 : D.toList.set i true = D.toList.take i ++ true :: D.toList.drop (i + 1) := by rw [List.set_eq_take_append_cons_drop, if_pos hl]
      rw [e3]
      conv => rhs; rw [e2]
      simp only [List.filter_append, List.filter_cons, List.length_append]
      have : D.toList[i] = false := by simpa using hDi
      rw [this]
      simp
      omega
    omega
theorem wp_region_inv {P : Program} {ops : Array Oper} {Q : Exit → Act → World → Prop} {id : Nat} {a : Act} {w : World} (hm : P.follows .mixedOrders = true) (hb : edgesBack ops = true) (I : Array Bool → Act → World → Prop)
    (h0 : I (Array.replicate ops.size false) a w.drew)
    (step : ∀ D i, Taken ops D i → ∀ a w, I D a w → wpOp P ops Q i (I (D.setIfInBounds i true)) a w)
    (fin : ∀ D a w, D.size = ops.size → (∀ i, i < ops.size → D.getD i true = true) → I D a w → Q .normal a w) : (Code.region id ops true).wp P Q a w :=
  wp_region_any hm (wpAny_inv hb I step fin ops.size _ a _ (by simp) (by simp) h0)
/-- the same, the invariant told over the frame in which the region begins -/
theorem wp_region_inv_at {P : Program} {ops : Array Oper} {Q : Exit → Act → World → Prop} {id : Nat} {a : Act} {w : World} (hm : P.follows .mixedOrders = true) (hb : edgesBack ops = true) (I : Act → Array Bool → Act → World → Prop)
    (h0 : I a (Array.replicate ops.size false) a w.drew)
    (step : ∀ D i, Taken ops D i → ∀ a' w', I a D a' w' → wpOp P ops Q i (I a (D.setIfInBounds i true)) a' w')
    (fin : ∀ D a' w', D.size = ops.size → (∀ i, i < ops.size → D.getD i true = true) → I a D a' w' → Q .normal a' w') : (Code.region id ops true).wp P Q a w :=
  wp_region_inv hm hb (I a) h0 step fin
theorem wpOp_plain {P : Program} {ops : Array Oper} {Q : Exit → Act → World → Prop} {i : Nat} {o : Oper} {K : Act → World → Prop} {a : Act} {w : World} (ho : ops[i]? = some o) (hg : o.guard = none) (h : o.wp P a w K Q) : wpOp P ops Q i K a w := by
  unfold wpOp
  rw [ho]
  simp only [Region.wanted, hg, if_true]
  exact .inl h
/-- a store of a struct that fills a block, as an operation of a region -/
theorem wpOp_store_row {P : Program} {ops : Array Oper} {Q : Exit → Act → World → Prop} {i : Nat} {K : Act → World → Prop} {a : Act} {w : World} {ty tt : TypeId} {x y : Operand} {p : String} {af : Array Edge} (ho : ops[i]? = some ⟨none, .store ty x y, tt, p, af, none⟩)
    (g : Nat) (cells : Array Value) (hx : a.eval x = .pointer (some ⟨g, 0, none⟩)) (hy : a.eval y = .agg cells)
    (t : TypeId) (old : Array Value) (hg : w.heap[g]? = some (.cells old t (0, 0))) (hi : (P.info? ty).map (·.size) = some cells.size)
    (hold : old.size = cells.size) (h1 : cells.all (·.oneCell') = true) (h : K a (w.setRow g cells)) : wpOp P ops Q i K a w :=
  wpOp_plain ho rfl (wp_store_row (o := ⟨none, .store ty x y, tt, p, af, none⟩) ty x y rfl g cells hx hy t old hg hi hold h1 h)
end Go.Proofs.YtkhghacfhlociaaDoor
