/- From the walk of a law to its row: a call that returns true and changes no old memory answers as the row says. For whatever program. -/
import Derived.Test.YtkhghacfhlociaaDoorBase
import Derived.Deep.DeepHandedRow
import Derived.WalkSmall
namespace Go.Proofs.YtkhghacfhlociaaDoor
open Go.RowKit Go.ChangeShapes Go.WideShapes Go.ChangeAt

section
variable {H : Type} {enc : TypeId × Value → H} {P : Program} {W W' : World}
theorem trodAll_below (hl : laidOutB P = true) (hb : Below W.heap.size W W') : ∀ (ts : List TypeId) (vs : List Value) (ds : List (DataW H)) (ps : List MemPlace), (∀ t ∈ ts, P.readableRec t = true ∧ t < P.types.size) →
    (∀ x ∈ ps, x.block < W.heap.size) → DataW.TrodAll enc P W 0 (fun _ => true) true ts vs ds ps → DataW.TrodAll enc P W' 0 (fun b => decide (b < W.heap.size)) true ts vs ds ps
  | [], vs, ds, ps, _, _, h => by
    obtain ⟨rfl, rfl, rfl⟩ := trodAll_nil h
    exact trodAll_mk0
  | t :: ts, vs, ds, ps, hr, hlt, h => by
    obtain ⟨v, vs', d, ds', p, q, rfl, rfl, rfl, h0, h1⟩ := trodAll_cons h
    exact ⟨p, q, Below.trod hl (hr t (by simp)).1 (hr t (by simp)).2 h0 hb (fun x hx => hlt x (by simp [hx])), trodAll_below hl hb ts vs' ds' q (fun t ht => hr t (by simp [ht])) (fun x hx => hlt x (by simp [hx])) h1, rfl⟩
/-- a type that a named variable may have -/
def varOk (P : Program) (n : String) : Bool :=
  match P.globalNamed n with
  | some g => match (P.globals[g]?).map (·.type) with
    | some t => P.readableRec t && decide (t < P.types.size)
    | none => true
  | none => true
theorem trodVars_below (hl : laidOutB P = true) (hb : Below W.heap.size W W') : ∀ (ns : List String) (ds : List (DataW H)) (ps : List MemPlace), (∀ n ∈ ns, varOk P n = true) →
    (∀ x ∈ ps, x.block < W.heap.size) → DataW.TrodVars enc P W (fun _ => true) ns ds ps → DataW.TrodVars enc P W' (fun b => decide (b < W.heap.size)) ns ds ps
  | [], ds, ps, _, _, h => by
    cases ds with
    | nil => exact h
    | cons d ds => exact absurd h (by simp [DataW.TrodVars])
  | n :: ns, ds, ps, hr, hlt, h => by
    cases ds with
    | nil => exact absurd h (by simp [DataW.TrodVars])
    | cons d ds =>
      obtain ⟨g, t, cs, fuel, p, q, hg, ht, hv, hd, hq, rfl⟩ := h
      have hok := hr n (by simp)
      unfold varOk at hok
      rw [hg] at hok
      simp only [ht, Bool.and_eq_true, decide_eq_true_eq] at hok
      have hgl : g < W.heap.size := by
        unfold World.var? at hv
        simp only [hg, Option.bind_some] at hv
        cases e : W.heap[g]? with
        | none => rw [e] at hv; cases hv
        | some o => exact (Array.getElem?_eq_some_iff.1 e).1
      refine ⟨g, t, cs, fuel, p, q, hg, ht, var?_below hb hg hgl hv, ?_, trodVars_below hl hb ns ds q (fun m hm => hr m (by simp [hm])) (fun x hx => hlt x (by simp [hx])) hq, rfl⟩
      exact DataW.trod_stays (kids_book hl hok.1) (book_sized hok.1) (fun h => by cases h) ⟨hok.2, book_self t⟩ hd (fun x hx => hb.same (hlt x (by simp [hx]))) (fun x hx => by simpa using hlt x (by simp [hx]))
theorem lift_post {f : Func} {s : ChangeSpec} {args : Array Value} {ds gs : List (DataW H)} {before : List MemPlace} {tb : TypeId} (hl : laidOutB P = true) (htb : P.underlying tb = some .bool) (hres : f.resultTypes = #[tb])
    (hps : ∀ t ∈ f.params.toList, P.readableRec t = true ∧ t < P.types.size) (hvs : ∀ n ∈ s.vars, varOk P n = true)
    (hfn : s.fn H (ds ++ gs) = { results := [.lit (.bool true)], args := ds, vars := gs })
    (hW : DataW.Whole enc P f.params.toList s.vars false W args.toList ds gs before) (hb : Below W.heap.size W W') :
    s.post enc P f false true false false W args (.bool true) W' := by
  have hlt := hW.lt
  have hW' := hW
  obtain ⟨p, q, hA, hV, rfl, hfz, hnd⟩ := hW
  refine ⟨ds, gs, p ++ q, [], p, q, hW', ?_, ?_, ?_, hb.frame _, fun h => by cases h⟩
  · rw [hfn, hres]
    exact trodAll_mk1 (shut_bool htb true)
  · rw [hfn]
    exact trodAll_below hl hb _ _ _ _ hps (fun x hx => hlt x (by simp [hx])) hA
  · rw [hfn]
    exact trodVars_below hl hb _ _ _ hvs (fun x hx => hlt x (by simp [hx])) hV
end
end Go.Proofs.YtkhghacfhlociaaDoor
