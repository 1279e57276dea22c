/- Regions that draw their order, in the walk over frames that are functions: what only reads is taken first, the rest comes up one at a time. For whatever program. -/
import Derived.Test.YtgkhfpkfjajdjaaDoorG2
import Derived.OrdersHeld
import Derived.Test.YtgkhfpkfjajdjaaDoorGTy
set_option linter.unusedVariables false
set_option linter.unusedSimpArgs false
namespace Go.Proofs.YtgkhfpkfjajdjaaDoor
open Go.RowKit

structure WD (n : Nat) (P : Program) (l : List Oper) (K : Env → World → Prop) (S : World → Prop) (fuel : Nat) (D : List Bool) (f : Env) (w : World) : Prop where
  out : ∀ a, Fr n a f → wpAnyH P .any l.toArray (WLQ n K) S fuel D.toArray a w
def noF : Nat → List Bool
  | 0 => []
  | k + 1 => false :: noF k
theorem noF_eq : ∀ k, noF k = List.replicate k false
  | 0 => rfl
  | k + 1 => by rw [noF, noF_eq k, List.replicate_succ]
section
variable {n : Nat} {P : Program} {l : List Oper} {K : Env → World → Prop} {S : World → Prop} {fuel : Nat} {D : List Bool} {f : Env} {w : World}
theorem WC_draws {Q : Cont} {id : Nat} (S : World → Prop) (hm : P.follows .mixedOrders = true) (hS : ∀ w1, Grows w w1 → S w1) (h : ∀ w1, Grows w w1 → S w1 → WD n P l (fun f w => Q .normal f w) S l.length (noF l.length) f w1) : WC n P (.region id l.toArray true) Q f w := .mk fun a ha => by
  have hd : Grows w w.drew := (Grows.refl w).drew
  have h0 := (h w.drew hd (hS _ hd)).out a ha
  refine wp_mono (Q := WLQ n fun f w => Q .normal f w) (wp_region_held (S := S) hm ?_) fun e a' w' hq => by
    cases e with
    | normal => exact hq
    | _ => exact hq.elim
  rw [noF_eq] at h0
  simpa using h0
theorem set_arr (D : List Bool) (i : Nat) : (D.set i true).toArray = D.toArray.setIfInBounds i true := by simp
def mayTake (l : List Oper) (D : List Bool) (i : Nat) : Bool := Region.noSelect l.toArray && Region.free .any l.toArray D.toArray i && (Region.ready .any l.toArray D.toArray).contains i
theorem WD_take {i : Nat} {o : Oper} {d : Nat} {v : Value} (ho : l[i]? = some o) (hd : o.dst = some d) (hg : o.guard = none) (hn : Nat.blt d n = true) (hf : mayTake l D i = true) (hS : S w) (hy : ∀ w', S w' → (execOp (ev f) o).run P w' = .ok (.value v) w')
    (h : WD n P l K S fuel (D.set i true) (upd f d v) w) : WD n P l K S (fuel + 1) D f w := .mk fun a ha => by
  unfold mayTake at hf
  rw [Bool.and_eq_true, Bool.and_eq_true] at hf
  refine wpAnyH_take (i := i) (oi := o) (v := v) (by simpa using ho) hf.1.1 hf.1.2 hf.2 ?_ (.inl ⟨by simp [Region.wanted, hg], fun w' hs => ?_⟩) hS ?_
  · intro c a' w' hq; exact hq
  · rw [ha.eval]; exact hy w' hs
  · rw [← set_arr, hd]
    exact h.out _ (ha.put d v hn)
/-- an operation under a guard -/
theorem WD_takeG {i : Nat} {o : Oper} {d j dj : Nat} {b c : Bool} {v : Value} (ho : l[i]? = some o) (hd : o.dst = some d) (hg : o.guard = some (j, b)) (hj : (l[j]?).bind (·.dst) = some dj) (hc : f dj = .bool c) (hdj : Nat.blt dj n = true) (hn : Nat.blt d n = true) (hf : mayTake l D i = true) (hS : S w)
    (hy : c = b → ∀ w', S w' → (execOp (ev f) o).run P w' = .ok (.value v) w') (hz : c ≠ b → v = undef)
    (h : WD n P l K S fuel (D.set i true) (upd f d v) w) : WD n P l K S (fuel + 1) D f w := .mk fun a ha => by
  unfold mayTake at hf
  rw [Bool.and_eq_true, Bool.and_eq_true] at hf
  have hdn : dj < a.tmps.size := by rw [ha.size]; simpa [Nat.blt_eq] using hdj
  have hyl : yielded l.toArray a.tmps j = some c := by
    unfold yielded
    rw [show l.toArray[j]? = l[j]? by simp, hj]
    have hg := ha.get dj
    simp only [Array.getD, hdn, dite_true] at hg
    have : a.tmps[dj]? = some (.bool c) := by
      rw [Array.getElem?_eq_getElem hdn]
      exact congrArg some (hg.trans hc)
    simp [this]
  refine wpAnyH_take (i := i) (oi := o) (v := v) (by simpa using ho) hf.1.1 hf.1.2 hf.2 ?_ ?_ hS ?_
  · intro c a' w' hq; exact hq
  · by_cases e : c = b
    · exact .inl ⟨by simp [Region.wanted, hg, hyl, e], fun w' hs => by rw [ha.eval]; exact hy e w' hs⟩
    · exact .inr ⟨by simp [Region.wanted, hg, hyl, e], hz e⟩
  · rw [← set_arr, hd]
    exact h.out _ (ha.put d v hn)
theorem WD_one {c : Nat} {o : Oper} (hr : Region.ready .any l.toArray D.toArray = [c]) (ho : l[c]? = some o) (h : WL n P l.toArray (fun f' w' => S w' ∧ WD n P l K S fuel (D.set c true) f' w') [o] f w) : WD n P l K S (fuel + 1) D f w := .mk fun a ha => by
  refine wpAnyH_all hr (by simp) fun i hi => ?_
  obtain rfl : i = c := by simpa using hi
  have hWL := h.out a ha
  have hoa : l.toArray[i]? = some o := by simpa using ho
  have hput : ∀ a'' w'', wpList P l.toArray (WLQ n fun f' w' => S w' ∧ WD n P l K S fuel (D.set i true) f' w') [] a'' w'' → S w'' ∧ wpAnyH P .any l.toArray (WLQ n K) S fuel (D.toArray.setIfInBounds i true) a'' w'' := by
    intro a'' w'' h
    obtain ⟨f', hf', hs, hd⟩ := h
    exact ⟨hs, by rw [← set_arr]; exact hd.out _ hf'⟩
  unfold wpOp
  rw [hoa]
  unfold wpList at hWL
  simp only
  split
  · rename_i hw
    rw [if_pos hw] at hWL
    rcases hWL with h | ⟨_, a1, w1, h⟩
    · exact .inl (upon_mono hput (fun e _ _ he h => by cases e <;> first | exact absurd rfl he | exact h.elim) _ h)
    · exact h.elim
  · rename_i hw
    rw [if_neg hw] at hWL
    exact hput _ _ hWL
theorem WD_two {c c' : Nat} {o o' : Oper} (hr : Region.ready .any l.toArray D.toArray = [c, c']) (ho : l[c]? = some o) (ho' : l[c']? = some o') (h : WL n P l.toArray (fun f' w' => S w' ∧ WD n P l K S fuel (D.set c true) f' w') [o] f w) (h' : WL n P l.toArray (fun f' w' => S w' ∧ WD n P l K S fuel (D.set c' true) f' w') [o'] f w) : WD n P l K S (fuel + 1) D f w := .mk fun a ha => by
  have key : ∀ i o, l[i]? = some o → WL n P l.toArray (fun f' w' => S w' ∧ WD n P l K S fuel (D.set i true) f' w') [o] f w → wpOp P l.toArray (WLQ n K) i (fun a'' w'' => S w'' ∧ wpAnyH P .any l.toArray (WLQ n K) S fuel (D.toArray.setIfInBounds i true) a'' w'') a w := by
    intro i o ho h
    have hWL := h.out a ha
    have hoa : l.toArray[i]? = some o := by simpa using ho
    have hput : ∀ a'' w'', wpList P l.toArray (WLQ n fun f' w' => S w' ∧ WD n P l K S fuel (D.set i true) f' w') [] a'' w'' → S w'' ∧ wpAnyH P .any l.toArray (WLQ n K) S fuel (D.toArray.setIfInBounds i true) a'' w'' := by
      intro a'' w'' h
      obtain ⟨f', hf', hs, hd⟩ := h
      exact ⟨hs, by rw [← set_arr]; exact hd.out _ hf'⟩
    unfold wpOp
    rw [hoa]
    unfold wpList at hWL
    simp only
    split
    · rename_i hw
      rw [if_pos hw] at hWL
      rcases hWL with h | ⟨_, a1, w1, h⟩
      · exact .inl (upon_mono hput (fun e _ _ he h => by cases e <;> first | exact absurd rfl he | exact h.elim) _ h)
      · exact h.elim
    · rename_i hw
      rw [if_neg hw] at hWL
      exact hput _ _ hWL
  refine wpAnyH_all hr (by simp) fun i hi => ?_
  rcases List.mem_cons.1 hi with rfl | hi
  · exact key _ _ ho h
  · obtain rfl : i = c' := by simpa using hi
    exact key _ _ ho' h'
theorem WD_done (hr : Region.ready .any l.toArray D.toArray = []) (h : K f w) : WD n P l K S fuel D f w := .mk fun a ha =>
  wpAnyH_done hr ⟨f, ha, h⟩ fuel

/-! what yields -/
variable {d : Option Nat} {ty : TypeId} {pos : String} {af : Array Edge} {gd : Option (Nat × Bool)}
theorem Y_move {x : Operand} {v : Value} (hx : ev f x = v) : (execOp (ev f) ⟨d, .move x, ty, pos, af, gd⟩).run P w = .ok (.value v) w := by subst hx; rfl
theorem Y_assign {x : Operand} {v : Value} (hx : ev f x = v) : (execOp (ev f) ⟨d, .assign x, ty, pos, af, gd⟩).run P w = .ok (.value v) w := by subst hx; rfl
theorem Y_nilCheck {x : Operand} {a : Addr} (hx : ev f x = .pointer (some a)) : (execOp (ev f) ⟨d, .nilCheck x, ty, pos, af, gd⟩).run P w = .ok (.value (.pointer (some a))) w := by simp [execOp, hx]
theorem Y_pick {c a b : Operand} {t : Bool} {v u : Value} (hc : ev f c = .bool t) (ha : ev f a = v) (hb : ev f b = u) : (execOp (ev f) ⟨d, .pick c a b, ty, pos, af, gd⟩).run P w = .ok (.value (bif t then v else u)) w := by cases t <;> simp [execOp, hc, ha, hb, asBool]
theorem Y_extract {x : Operand} {i : Nat} {vs : Array Value} {v : Value} (hx : ev f x = .tuple vs) (hv : vs.toList[i]? = some v) : (execOp (ev f) ⟨d, .extract x i, ty, pos, af, gd⟩).run P w = .ok (.value v) w := by
  have hv' : vs[i]? = some v := (by simpa using hv)
  simp [execOp, hx, Instr.extract, hv']
theorem Y_lss {t u : TypeId} {x y : Operand} {k : IntKind} {a b : Int} (hx : ev f x = .int k a) (hy : ev f y = .int k b) : (execOp (ev f) ⟨d, .binOp .lss t x y u, ty, pos, af, gd⟩).run P w = .ok (.value (.bool (decide (a < b)))) w := by simp [execOp, hx, hy, eqGuard, binOp, Op.intCmp]
theorem Y_leq {t u : TypeId} {x y : Operand} {k : IntKind} {a b : Int} (hx : ev f x = .int k a) (hy : ev f y = .int k b) : (execOp (ev f) ⟨d, .binOp .leq t x y u, ty, pos, af, gd⟩).run P w = .ok (.value (.bool (decide (a ≤ b)))) w := by simp [execOp, hx, hy, eqGuard, binOp, Op.intCmp]
theorem Y_gtr {t u : TypeId} {x y : Operand} {k : IntKind} {a b : Int} (hx : ev f x = .int k a) (hy : ev f y = .int k b) : (execOp (ev f) ⟨d, .binOp .gtr t x y u, ty, pos, af, gd⟩).run P w = .ok (.value (.bool (decide (b < a)))) w := by simp [execOp, hx, hy, eqGuard, binOp, Op.intCmp]
theorem Y_geq {t u : TypeId} {x y : Operand} {k : IntKind} {a b : Int} (hx : ev f x = .int k a) (hy : ev f y = .int k b) : (execOp (ev f) ⟨d, .binOp .geq t x y u, ty, pos, af, gd⟩).run P w = .ok (.value (.bool (decide (b ≤ a)))) w := by simp [execOp, hx, hy, eqGuard, binOp, Op.intCmp]
theorem Y_eql {t u : TypeId} {x y : Operand} {k : IntKind} {a b : Int} (hx : ev f x = .int k a) (hy : ev f y = .int k b) : (execOp (ev f) ⟨d, .binOp .eql t x y u, ty, pos, af, gd⟩).run P w = .ok (.value (.bool (a == b))) w := by simp [execOp, hx, hy, eqGuard, binOp, Op.intCmp]
theorem Y_neq {t u : TypeId} {x y : Operand} {k : IntKind} {a b : Int} (hx : ev f x = .int k a) (hy : ev f y = .int k b) : (execOp (ev f) ⟨d, .binOp .neq t x y u, ty, pos, af, gd⟩).run P w = .ok (.value (.bool (a != b))) w := by simp [execOp, hx, hy, eqGuard, binOp, Op.intCmp]
theorem Y_add {t u : TypeId} {x y : Operand} {k : IntKind} {a b c : Int} (hx : ev f x = .int k a) (hy : ev f y = .int k b) (hc : k.wrap (a + b) = c) : (execOp (ev f) ⟨d, .binOp .add t x y u, ty, pos, af, gd⟩).run P w = .ok (.value (.int k c)) w := by simp [execOp, hx, hy, eqGuard, binOp, Op.intArith, hc]
theorem Y_sub {t u : TypeId} {x y : Operand} {k : IntKind} {a b c : Int} (hx : ev f x = .int k a) (hy : ev f y = .int k b) (hc : k.wrap (a - b) = c) : (execOp (ev f) ⟨d, .binOp .sub t x y u, ty, pos, af, gd⟩).run P w = .ok (.value (.int k c)) w := by simp [execOp, hx, hy, eqGuard, binOp, Op.intArith, hc]
theorem Y_bin {op : BinOp} {t u : TypeId} {x y : Operand} {v1 v2 v : Value} (hx : ev f x = v1) (hy : ev f y = v2) (hr : (do eqGuard op t x y v1 v2; binOp op t v1 v2).run P w = .ok v w) : (execOp (ev f) ⟨d, .binOp op t x y u, ty, pos, af, gd⟩).run P w = .ok (.value v) w := by subst hx; subst hy; exact run_v hr
theorem Y_conv {s t : TypeId} {x : Operand} {k j : IntKind} {a c : Int} [hs : TyInt P s k] [ht : TyInt P t j] (hx : ev f x = .int k a) (hc : j.wrap a = c) : (execOp (ev f) ⟨d, .convert s t x, ty, pos, af, gd⟩).run P w = .ok (.value (.int j c)) w := by simp [execOp, hx, convert, run_underlying hs.u, run_underlying ht.u, Conv.intToInt, hc]
theorem Y_not {t : TypeId} {x : Operand} {b : Bool} (hx : ev f x = .bool b) : (execOp (ev f) ⟨d, .unOp .not t x, ty, pos, af, gd⟩).run P w = .ok (.value (.bool (!b))) w := by simp [execOp, hx, Op.unary]
theorem Y_field {t : TypeId} {x : Operand} {i b o off : Nat} [ht : TyFld P t i off] (hx : ev f x = .pointer (some ⟨b, o, none⟩)) : (execOp (ev f) ⟨d, .fieldAddr t x i, ty, pos, af, gd⟩).run P w = .ok (.value (.pointer (some ⟨b, o + off, none⟩))) w := by
  obtain ⟨fields, fl, k, h1, h2, h3, h4⟩ := ht.u
  simp [execOp, hx, Instr.fieldAt, run_underlying h1, h2, Instr.sureAddr, fieldPlace, runSize w h4, h3, add_addr]
theorem Y_index {t e : TypeId} {x y : Operand} {b o len cap k i : Nat} {ik : IntKind} [ht : TySl P t e k] (hx : ev f x = .slice (some ⟨b, o, none⟩) len cap) (hy : ev f y = .int ik (i : Int)) (hi : i < len) : (execOp (ev f) ⟨d, .indexAddr t x y, ty, pos, af, gd⟩).run P w = .ok (.value (.pointer (some ⟨b, o + i * k, none⟩))) w := by
  simp [execOp, hx, hy, Instr.indexAt, asIntOf, run_underlying ht.u, hi, runSize w ht.s, add_addr]
theorem Y_indexArr {t e : TypeId} {x y : Operand} {b o len k i : Nat} {ik : IntKind} [ht : TyArr P t len e k] (hx : ev f x = .pointer (some ⟨b, o, none⟩)) (hy : ev f y = .int ik (i : Int)) (hi : i < len) : (execOp (ev f) ⟨d, .indexAddr t x y, ty, pos, af, gd⟩).run P w = .ok (.value (.pointer (some ⟨b, o + i * k, none⟩))) w := by
  simp [execOp, hx, hy, Instr.indexAt, Instr.sureAddr, asIntOf, run_underlying ht.u, hi, runSize w ht.s, add_addr]
theorem Y_len {x : Operand} {ao : Option Addr} {len cap k : Nat} {t e : TypeId} [ht : TySl P t e k] (hx : ev f x = .slice ao len cap) : (execOp (ev f) ⟨d, .call ⟨.builtin .len, #[x], #[t]⟩, ty, pos, af, gd⟩).run P w = .ok (.value (.int .i64 (len : Int))) w := by simp [execOp, resolve, hx, invoke, builtin, Builtin.len_, goInt, run_underlying ht.u]
theorem Y_lenStr {x : Operand} {bs : ByteArray} {t : TypeId} [ht : TyStr P t] (hx : ev f x = .string bs) : (execOp (ev f) ⟨d, .call ⟨.builtin .len, #[x], #[t]⟩, ty, pos, af, gd⟩).run P w = .ok (.value (.int .i64 (bs.size : Int))) w := by simp [execOp, resolve, hx, invoke, builtin, Builtin.len_, goInt, run_underlying ht.u]
theorem Y_load_cell {t : TypeId} {x : Operand} {a : Addr} {v : Value} [ht : TyOne P t] (hx : ev f x = .pointer (some a)) (hc : w.cell? a = some v) : (execOp (ev f) ⟨d, .load t x, ty, pos, af, gd⟩).run P w = .ok (.value v) w := by
  obtain ⟨dd, h1, h2⟩ := ht.u
  cases dd <;> first | (simp at h2; done) | simp [execOp, hx, Instr.loadAt, Instr.sureAddr, loadVar, isAgg, run_underlying h1, load, Sem.run, hc]
theorem Y_load {t tb : TypeId} {x : Operand} {b o : Nat} {cs : Array Value} {fr : Nat × Nat} {v : Value} [ht : TyOne P t] (hx : ev f x = .pointer (some ⟨b, o, none⟩)) (hb : w.heap[b]? = some (.cells cs tb fr)) (hv : cs.toList[o]? = some v) : (execOp (ev f) ⟨d, .load t x, ty, pos, af, gd⟩).run P w = .ok (.value v) w :=
  Y_load_cell hx ((cell_of_row w b o cs tb fr hb).trans (by simpa using hv))
theorem Y_loadAgg {t : TypeId} {x : Operand} {a : Addr} {l : List Value} {k : Nat} [ht : TyAgg P t k] (hx : ev f x = .pointer (some a)) (hk : l.length = k) (hc : ∀ j v, l[j]? = some v → w.cell? (a.add j) = some v) : (execOp (ev f) ⟨d, .load t x, ty, pos, af, gd⟩).run P w = .ok (.value (.agg l.toArray)) w := by
  simp [execOp, hx, Instr.loadAt, Instr.sureAddr, runLoadAgg w hk hc]
theorem Y_loadPart {t tb : TypeId} {x : Operand} {b o k : Nat} {cs : Array Value} {fr : Nat × Nat} {l : List Value} [ht : TyAgg P t k] (hx : ev f x = .pointer (some ⟨b, o, none⟩)) (hb : w.heap[b]? = some (.cells cs tb fr)) (hl : (cs.toList.drop o).take k = l) (hk : l.length = k) : (execOp (ev f) ⟨d, .load t x, ty, pos, af, gd⟩).run P w = .ok (.value (.agg l.toArray)) w :=
  Y_loadAgg hx hk (hl ▸ cells_part hb)
theorem Y_loadRow {t tb : TypeId} {x : Operand} {b k : Nat} {cs : Array Value} {fr : Nat × Nat} [ht : TyAgg P t k] (hx : ev f x = .pointer (some ⟨b, 0, none⟩)) (hb : w.heap[b]? = some (.cells cs tb fr)) (hk : cs.size = k) : (execOp (ev f) ⟨d, .load t x, ty, pos, af, gd⟩).run P w = .ok (.value (.agg cs)) w := by
  have e : ((cs.toList.drop 0).take k) = cs.toList := by rw [List.drop_zero, List.take_of_length_le (by simp; omega)]
  have := Y_loadPart (P := P) (t := t) (k := k) (f := f) (d := d) (ty := ty) (pos := pos) (af := af) (gd := gd) hx hb e (by simpa using hk)
  simpa using this
end
/-- what only reads is taken ahead, its parts found by themselves -/
theorem WT {n : Nat} {P : Program} {l : List Oper} {K : Env → World → Prop} {S : World → Prop} {fuel : Nat} {D : List Bool} {f : Env} {w : World} (i : Nat) {o : Oper} {d : Nat} {v : Value} (h : WD n P l K S fuel (D.set i true) (upd f d v) w) (ho : l[i]? = some o := by exact rfl) (hd : o.dst = some d := by exact rfl) (hg : o.guard = none := by exact rfl) (hn : Nat.blt d n = true := by exact rfl) (hf : mayTake l D i = true := by kernel_rfl) (hS : S w := by assumption)
    (hy : ∀ w', S w' → (execOp (ev f) o).run P w' = .ok (.value v) w' := by
      intro w' hS
      first | exact Y_move vv | exact Y_assign vv | exact Y_nilCheck vv | exact Y_field vv | exact Y_load vv (by first | assumption | exact hS | exact hS.1 | exact hS.2 | exact hS.2.1 | exact hS.2.2) (by rfl) | exact Y_extract vv (by rfl) | exact Y_len vv | exact Y_lss vv vv | exact Y_leq vv vv | exact Y_gtr vv vv | exact Y_geq vv vv | exact Y_eql vv vv | exact Y_neq vv vv | exact Y_pick vv vv vv | exact Y_not vv) : WD n P l K S (fuel + 1) D f w := WD_take ho hd hg hn hf hS hy h
end Go.Proofs.YtgkhfpkfjajdjaaDoor

/- Slices that a call has made itself, above a bound; what is read in a slice. -/
namespace Go.Proofs.YtgkhfpkfjajdjaaDoor
open Go.RowKit

/-- v is a slice of the call's own, in a block from B on -/
structure Acc (B : Nat) (w : World) (e size : Nat) (v : Value) (n : Nat) (xs : List Value) : Prop where
  own : w.ownsRow 0 e size v n xs
  base : ∀ k, v.ownBlock = some k → B ≤ k
section
variable {B : Nat} {w w' w0 : World} {e size : Nat} {v v' : Value} {n n' : Nat} {xs xs' : List Value}
theorem Acc.reads (h : Acc B w e size v n xs) : ReadsAt w size v n xs := ReadsAt.of_own h.own
theorem own_grow (h : w.ownsRow 0 e size v n xs) (hg : Grows w w') : w'.ownsRow 0 e size v n xs :=
  h.kept (row := none) (grownBy_of_below hg none) (by
    cases e : v.ownBlock with
    | none => exact .inl rfl
    | some k => exact .inr (by simp))
theorem Acc.grow (h : Acc B w e size v n xs) (hg : Grows w w') : Acc B w' e size v n xs := ⟨own_grow h.own hg, h.base⟩
theorem Acc.mono {B' : Nat} (h : Acc B w e size v n xs) (hB : B' ≤ B) : Acc B' w e size v n xs := ⟨h.own, fun k hk => Nat.le_trans hB (h.base k hk)⟩
theorem Acc.grew (h : Acc B w e size v n xs) (hg : Grew w e size v n xs w' v' n' xs') (hB : B ≤ w.heap.size) : Acc B w' e size v' n' xs' :=
  ⟨hg.own, fun k hk => by
    rcases hg.at_ with ha | ⟨j, hj, ha⟩
    · exact h.base k (by rw [← ha]; exact hk)
    · rw [ha] at hk; cases hk; omega⟩
theorem Acc.below (h : Acc B w e size v n xs) (hg : Grew w e size v n xs w' v' n' xs') (hB : B ≤ w.heap.size) (hb : Below B w0 w) : Below B w0 w' :=
  hb.grown hg.by_ hB fun k hk => h.base k hk
/-- a block that is not the row's -/
theorem Grew.kept (hg : Grew w e size v n xs w' v' n' xs') {k : Nat} {o : Obj} (hk : w.heap[k]? = some o) (hne : v.ownBlock ≠ some k) : w'.heap[k]? = some o :=
  (hg.by_.block k (Array.getElem?_eq_some_iff.1 hk).1 (fun e => hne e.symm)).trans hk
theorem own_ne (h : w.ownsRow 0 e size v n xs) {g : Nat} {cs : Array Value} {t : TypeId} {fr : Nat × Nat} (hg : w.heap[g]? = some (.cells cs t fr)) (ht : t ≠ e) : v.ownBlock ≠ some g := by
  rcases h.2 with ⟨rfl, _⟩ | ⟨g', cap, cur, rfl, _, hg', _⟩
  · simp [Value.ownBlock]
  · simp only [Value.ownBlock]
    intro e
    cases e
    rw [hg] at hg'
    cases hg'
    exact ht rfl
theorem Acc.ne_lt (h : Acc B w e size v n xs) {g : Nat} (hg : g < B) : v.ownBlock ≠ some g := fun he => by have := h.base g he; omega
theorem Acc.nil (B : Nat) (w : World) (e size : Nat) : Acc B w e size (.slice none 0 0) 0 [] := ⟨⟨by simp, .inl ⟨rfl, rfl⟩⟩, fun k hk => by simp [Value.ownBlock] at hk⟩
theorem Acc.block {g : Nat} {cs : Array Value} (hb : w.heap[g]? = some (.cells cs e (0, 0))) (hB : B ≤ g) (hn : n ≤ maxLen) (hs : cs.size = n * size) : Acc B w e size (.slice (some ⟨g, 0, none⟩) n n) n cs.toList :=
  ⟨⟨by simp [hs], .inr ⟨g, n, cs, rfl, Nat.zero_le _, hb, Nat.le_refl _, hn, hs, List.take_of_length_le (by simp [hs])⟩⟩, fun k hk => by simp [Value.ownBlock] at hk; omega⟩
theorem ReadsAt.form (h : ReadsAt w size v n xs) (hp : 0 < xs.length) : ∃ b o cap, v = .slice (some ⟨b, o, none⟩) n cap ∧ ∀ j x, xs[j]? = some x → w.cell? ⟨b, o + j, none⟩ = some x := by
  obtain ⟨hl, ao, cap, rfl, hn, hx⟩ := h
  obtain ⟨a, rfl, ha⟩ := hx 0 xs[0] (by simp [hp])
  have ha' : w.cell? a = some xs[0] := by simpa [Addr.add] using ha
  have hs : a.spot = none := by
    unfold World.cell? at ha'
    split at ha'
    · cases hsp : a.spot with
      | none => rfl
      | some s => rw [hsp] at ha'; simp at ha'
    · cases ha'
  obtain ⟨b, o, sp⟩ := a
  simp only at hs
  subst hs
  refine ⟨b, o, cap, rfl, fun j x hj => ?_⟩
  obtain ⟨a', ha', hc⟩ := hx j x hj
  cases ha'
  rw [add_addr] at hc
  exact hc
theorem ReadsAt.value (h : ReadsAt w size v n xs) : ∃ ao cap, v = .slice ao n cap := by
  obtain ⟨_, ao, cap, rfl, _⟩ := h
  exact ⟨ao, cap, rfl⟩
end
/-- bytes of the call's own -/
def AccB (B : Nat) (w : World) (v : Value) (bs : Bytes) : Prop := Acc B w 5 1 v bs.length (bv bs)
theorem AccB.reads {B : Nat} {w : World} {v : Value} {bs : Bytes} (h : AccB B w v bs) : BytesAt w v bs := Acc.reads h
theorem AccB.grow {B : Nat} {w w' : World} {v : Value} {bs : Bytes} (h : AccB B w v bs) (hg : Grows w w') : AccB B w' v bs := Acc.grow h hg
/-- a call that returns new bytes and changes nothing of old -/
def RetB (w : World) (bs : Bytes) (e : Ending) (w' : World) : Prop := ∃ v, e = .returned v ∧ AccB w.heap.size w' v bs ∧ Grows w w'
theorem WL_appendB {n : Nat} {f : Env} {w : World} {ops : Array Oper} {K : Env → World → Prop} {rest : List Oper} {d : Nat} {ty : TypeId} {pos : String} {af : Array Edge} {s x : Operand} {v y : Value} {bs cs : Bytes} (hs : ev f s = v) (hown : Own w v bs) (hx : ev f x = y) (hr : BytesAt w y cs) (hlen : bs.length + cs.length ≤ 200000000000000) (hcs : cs.length ≤ 140737488355328)
    (h : ∀ v' w', GrewB w v bs w' v' (bs ++ cs) → WL n Tryd.prog ops K rest (upd f d v') w') (hn : Nat.blt d n = true := by rfl) : WL n Tryd.prog ops K (⟨some d, .call ⟨.builtin .append, #[s, x], #[26, 26]⟩, ty, pos, af, none⟩ :: rest) f w :=
  WL_append (t := 26) hs hown hx hr (bv_one cs) ⟨by omega, by omega, by omega⟩ (fun v' w' hg => h v' w' (by unfold GrewB; rw [List.length_append, bv_append]; exact hg)) hn
theorem AccB.grew {B : Nat} {w w' : World} {v v' : Value} {bs bs' : Bytes} (h : AccB B w v bs) (hg : GrewB w v bs w' v' bs') (hB : B ≤ w.heap.size) : AccB B w' v' bs' := Acc.grew h hg hB
theorem AccB.grows {w0 w w' : World} {v v' : Value} {bs bs' : Bytes} (h : AccB w0.heap.size w v bs) (hg : GrewB w v bs w' v' bs') (hb : Grows w0 w) : Grows w0 w' := Acc.below h hg hb.size hb
theorem BytesAt.grow {w w' : World} {v : Value} {bs : Bytes} (h : BytesAt w v bs) (hg : Grows w w') : BytesAt w' v bs := ReadsAt.grow h hg
theorem bytes_cells {w : World} {g n : Nat} {cs : Array Value} {t : TypeId} {fr : Nat × Nat} {bs : Bytes} (hg : w.heap[g]? = some (.cells cs t fr)) (hc : cs.toList = bv bs) (hn : n = bs.length) : BytesAt w (.slice (some ⟨g, 0, none⟩) n n) bs := by
  refine bytes_of_block hg hn ?_
  rw [List.drop_zero, hc, hn, ← bv_length, List.take_length]
theorem accB_cells {B : Nat} {w : World} {g n : Nat} {cs : Array Value} {bs : Bytes} (hg : w.heap[g]? = some (.cells cs 5 (0, 0))) (hc : cs.toList = bv bs) (hn : n = bs.length) (hm : n ≤ maxLen) (hB : B ≤ g) : AccB B w (.slice (some ⟨g, 0, none⟩) n n) bs := by
  subst hn
  have := Acc.block (size := 1) (n := bs.length) hg hB hm (by rw [← Array.length_toList, hc, bv_length, Nat.mul_one])
  rw [hc] at this
  exact this
/-- a list of slices, each with its bytes -/
def PartsAt (w : World) (v : Value) (ps : List (Value × Bytes)) : Prop := ReadsAt w 1 v ps.length (ps.map (·.1)) ∧ ∀ p ∈ ps, BytesAt w p.1 p.2
theorem PartsAt.grow {w w' : World} {v : Value} {ps : List (Value × Bytes)} (h : PartsAt w v ps) (hg : Grows w w') : PartsAt w' v ps := ⟨h.1.grow hg, fun p hp => (h.2 p hp).grow hg⟩
end Go.Proofs.YtgkhfpkfjajdjaaDoor

/- How what is given lies in memory: questions, records, steps; and how a part of it is read. -/
namespace Go.Proofs.YtgkhfpkfjajdjaaDoor
open Go.RowKit

/-- the bound on each string and slice that is given -/
abbrev lim : Nat := 16777216
theorem flat_get {α β : Type} (g : α → List β) (k : Nat) : ∀ (l : List α), (∀ x ∈ l, (g x).length = k) → ∀ (i j : Nat) (hi : i < l.length), j < k → (l.flatMap g)[i * k + j]? = (g l[i])[j]?
  | [], _, i, _, hi, _ => by simp at hi
  | x :: l, h, 0, j, _, hj => by
    rw [List.flatMap_cons, Nat.zero_mul, Nat.zero_add, List.getElem?_append_left (by rw [h x (by simp)]; exact hj)]
    rfl
  | x :: l, h, i + 1, j, hi, hj => by
    have hx := h x (by simp)
    rw [List.flatMap_cons, List.getElem?_append_right (by rw [hx, Nat.add_mul]; omega), hx]
    rw [show (i + 1) * k + j - k = i * k + j by rw [Nat.add_mul]; omega]
    exact flat_get g k l (fun y hy => h y (by simp [hy])) i j (by simpa using hi) hj
theorem flat_len {α β : Type} (g : α → List β) (k : Nat) : ∀ (l : List α), (∀ x ∈ l, (g x).length = k) → (l.flatMap g).length = l.length * k
  | [], _ => by simp
  | x :: l, h => by
    rw [List.flatMap_cons, List.length_append, h x (by simp), flat_len g k l (fun y hy => h y (by simp [hy]))]
    simp [Nat.add_mul, Nat.add_comm]
theorem fm_take {α β : Type} (g : α → List β) (l : List α) (i : Nat) (h : i < l.length) : (l.take (i + 1)).flatMap g = (l.take i).flatMap g ++ g l[i] := by
  rw [List.take_succ_eq_append_getElem h, List.flatMap_append]
  simp only [List.flatMap_cons, List.flatMap_nil, List.append_nil]
theorem fm_le {α β : Type} (g : α → List β) (l : List α) (i : Nat) : ((l.take i).flatMap g).length ≤ (l.flatMap g).length := by
  conv => rhs; rw [← List.take_append_drop i l, List.flatMap_append, List.length_append]
  omega
/-- a slice of parts of k cells each -/
def ListAt {α : Type} (w : World) (g : α → List Value) (k : Nat) (v : Value) (l : List α) : Prop := (∀ x ∈ l, (g x).length = k) ∧ ReadsAt w k v l.length (l.flatMap g)
section
variable {α : Type} {w w' : World} {g : α → List Value} {k : Nat} {v : Value} {l : List α}
theorem ListAt.grow (h : ListAt w g k v l) (hg : Grows w w') : ListAt w' g k v l := ⟨h.1, h.2.grow hg⟩
theorem ListAt.value (h : ListAt w g k v l) : ∃ ao cap, v = .slice ao l.length cap := h.2.value
/-- the i-th part: where it lies, and its cells -/
theorem ListAt.part (h : ListAt w g k v l) (hk : 0 < k) {i : Nat} (hi : i < l.length) : ∃ b o cap, v = .slice (some ⟨b, o, none⟩) l.length cap ∧ ∀ j x, (g l[i])[j]? = some x → w.cell? ((⟨b, o + i * k, none⟩ : Addr).add j) = some x := by
  have hlen := flat_len g k l h.1
  obtain ⟨b, o, cap, hv, hc⟩ := h.2.form (by rw [hlen]; exact Nat.mul_pos (by omega) hk)
  refine ⟨b, o, cap, hv, fun j x hj => ?_⟩
  have hjk : j < k := by
    have := (List.getElem?_eq_some_iff.1 hj).1
    rw [h.1 l[i] (by simp)] at this
    exact this
  rw [add_addr, Nat.add_assoc]
  exact hc (i * k + j) x (by rw [flat_get g k l h.1 i j hi hjk]; exact hj)
end
/-! questions -/
def askCells (a : AskM) : List Value := [strOf a.name, .int .u16 (a.type : Int), .int .u16 (a.cls : Int)]
structure AskOk (a : AskM) : Prop where
  name : a.name.length ≤ lim
  type : a.type < 65536
  cls : a.cls < 65536
structure AsksAt (w : World) (v : Value) (qs : List AskM) : Prop where
  at_ : ListAt w askCells 3 v qs
  ok : ∀ a ∈ qs, AskOk a
  len : qs.length * 24 ≤ lim
theorem AsksAt.grow {w w' : World} {v : Value} {qs : List AskM} (h : AsksAt w v qs) (hg : Grows w w') : AsksAt w' v qs := ⟨h.at_.grow hg, h.ok, h.len⟩
/-! records -/
structure RecV where
  dv : Value
  tv : Value
  pv : Value
def recCells (x : RecM × RecV) : List Value :=
  [strOf x.1.name, .int .u16 (x.1.type : Int), .int .u16 (x.1.cls : Int), .int .u32 (x.1.ttl : Int), .int .u16 (x.1.len : Int), .int .i64 x.1.kind, x.2.dv, strOf x.1.host, strOf x.1.box,
    .int .u32 (x.1.n1 : Int), .int .u32 (x.1.n2 : Int), .int .u32 (x.1.n3 : Int), .int .u32 (x.1.n4 : Int), .int .u32 (x.1.n5 : Int), x.2.tv, x.2.pv]
theorem recCells_length (x : RecM × RecV) : (recCells x).length = 16 := rfl
def pairCells (x : PairM × Value) : List Value := [.int .u16 (x.1.key : Int), x.2]
def TextsAt (w : World) (v : Value) (ts : List Bytes) : Prop := ReadsAt w 1 v ts.length (ts.map strOf)
structure PairsAt (w : World) (v : Value) (ps : List PairM) : Prop where
  at_ : ∃ l : List (PairM × Value), l.map (·.1) = ps ∧ ListAt w pairCells 2 v l ∧ ∀ x ∈ l, BytesAt w x.2 x.1.data
theorem PairsAt.grow {w w' : World} {v : Value} {ps : List PairM} (h : PairsAt w v ps) (hg : Grows w w') : PairsAt w' v ps := by
  obtain ⟨l, h1, h2, h3⟩ := h.at_
  exact ⟨l, h1, h2.grow hg, fun x hx => (h3 x hx).grow hg⟩
structure RecOkV (r : RecM) : Prop where
  name : r.name.length ≤ lim
  host : r.host.length ≤ lim
  box : r.box.length ≤ lim
  data : r.data.length ≤ lim
  type : r.type < 65536
  cls : r.cls < 65536
  ttl : r.ttl < 4294967296
  len : r.len < 65536
  n1 : r.n1 < 4294967296
  n2 : r.n2 < 4294967296
  n3 : r.n3 < 4294967296
  n4 : r.n4 < 4294967296
  n5 : r.n5 < 4294967296
  texts : r.texts.length * 16 ≤ lim ∧ ∀ s ∈ r.texts, s.length ≤ lim
  pairs : r.pairs.length * 32 ≤ lim ∧ ∀ p ∈ r.pairs, p.key < 65536 ∧ p.data.length ≤ lim
structure RecAt (w : World) (x : RecM × RecV) : Prop where
  ok : RecOkV x.1
  data : BytesAt w x.2.dv x.1.data
  texts : TextsAt w x.2.tv x.1.texts
  pairs : PairsAt w x.2.pv x.1.pairs
theorem RecAt.grow {w w' : World} {x : RecM × RecV} (h : RecAt w x) (hg : Grows w w') : RecAt w' x := ⟨h.ok, h.data.grow hg, h.texts.grow hg, h.pairs.grow hg⟩
structure RecsAt (w : World) (v : Value) (l : List (RecM × RecV)) : Prop where
  at_ : ListAt w recCells 16 v l
  recs : ∀ x ∈ l, RecAt w x
  len : l.length * 168 ≤ lim + 4096
theorem RecsAt.grow {w w' : World} {v : Value} {l : List (RecM × RecV)} (h : RecsAt w v l) (hg : Grows w w') : RecsAt w' v l := ⟨h.at_.grow hg, fun x hx => (h.recs x hx).grow hg, h.len⟩
end Go.Proofs.YtgkhfpkfjajdjaaDoor

/- The reference's small functions: numbers as bytes, parts one behind the other. -/
namespace Go.Proofs.YtgkhfpkfjajdjaaDoor
open Go.RowKit
set_option maxHeartbeats 400000
set_option maxRecDepth 100000

theorem wrap8 (k : Int) : IntKind.u8.wrap k = k % 256 := IntKind.wrap_u8 k
theorem spec_Two (w : World) (k : Int) (h0 : 0 ≤ k) (h1 : k < 65536) : Calls Tryd.prog 64 #[.int .u16 k] w (RetB w (two k)) := by
  refine calls_of_WC Tryd.func64 rfl Tryd.ntmps64 rfl ?_
  refine GO ?_
  refine WL_bin (v := .int .u16 (k / 256)) vv vv (by simp [eqGuard, binOp, Op.shift, IntKind.bits, Int.fdiv_eq_ediv_of_nonneg]) ?_
  refine WL_conv (c := k / 256) vv (by rw [wrap8]; omega) ?_
  refine GO ?_
  refine WL_conv (c := k % 256) vv (wrap8 k) ?_
  refine WL_slice (vs := [.int .u8 (k / 256), .int .u8 (k % 256)]) rfl (by simp) rfl (by simp [Value.cells]) rfl ?_
  intro b w1 hb h1 g1
  refine GO ?_
  exact ret1 Tryd.results64 rfl ⟨_, rfl, accB_cells h1 (two_cells k h0 (by omega)) rfl (by decide) hb, g1⟩
theorem spec_flag (w : World) (b : Bool) (k : Int) : Calls Tryd.prog 67 #[.bool b, .int .u16 k] w fun e w' => e = .returned (.int .u16 (if b then k else 0)) ∧ w = w' := by
  refine calls_of_WC Tryd.func67 rfl Tryd.ntmps67 rfl ?_
  refine GO ?_
  first | refine WC_sif vv (fun hc => ?_) (fun hc => ?_) | refine WC_if vv (fun hc => ?_) (fun hc => ?_)
  · subst hc
    refine GO ?_
    exact ret1 Tryd.results67 rfl ⟨rfl, rfl⟩
  · subst hc
    refine GO ?_
    exact ret1 Tryd.results67 rfl ⟨rfl, rfl⟩
theorem flat_take {α : Type} (ps : List (α × Bytes)) (i : Nat) (h : i < ps.length) : ((ps.take (i + 1)).map (·.2)).flatten = ((ps.take i).map (·.2)).flatten ++ ps[i].2 := by
  rw [List.take_succ_eq_append_getElem h, List.map_append, List.flatten_append]
  simp
theorem flat_le {α : Type} (ps : List (α × Bytes)) (i : Nat) : ((ps.take i).map (·.2)).flatten.length ≤ (ps.map (·.2)).flatten.length := by
  conv => rhs; rw [← List.take_append_drop i ps, List.map_append, List.flatten_append, List.length_append]
  omega
theorem spec_Joined (w : World) (v : Value) (ps : List (Value × Bytes)) (hp : PartsAt w v ps) (hn : ps.length ≤ 1000000000000000) (hlen : (ps.map (·.2)).flatten.length ≤ 200000000000000) (hone : ∀ p ∈ ps, p.2.length ≤ 140737488355328) :
    Calls Tryd.prog 43 #[v] w (RetB w (ps.map (·.2)).flatten) := by
  obtain ⟨ao, cap, rfl⟩ := hp.1.value
  refine calls_of_WC Tryd.func43 rfl Tryd.ntmps43 rfl ?_
  refine GO ?_
  refine WL_slice0 ?_
  intro b w1 hb h1 g1
  refine GO ?_
  refine WC_loop (fun m f w' => ∃ i v', m = ps.length - i ∧ i ≤ ps.length ∧ EnvHas f [(3, v'), (7, .slice ao ps.length cap), (8, .int .i64 (ps.length : Int)), (9, .int .i64 (i : Int))] ∧ AccB w.heap.size w' v' ((ps.take i).map (·.2)).flatten ∧ Grows w w') ps.length ?_ ?_
  · exact ⟨0, _, rfl, Nat.zero_le _, ⟨rfl, rfl, rfl, rfl, trivial⟩, accB_cells h1 rfl rfl (by decide) hb, g1⟩
  · rintro m f w2 ⟨i, v', rfl, hi, he, ha, hg⟩
    obtain ⟨f, rfl⟩ := he.form
    refine GO ?_
    first | refine WC_sif vv (fun hc => ?_) (fun hc => ?_) | refine WC_if vv (fun hc => ?_) (fun hc => ?_)
    · have hlt : i < ps.length := by simpa using hc
      refine GO ?_
      obtain ⟨b2, o2, cap2, hv2, hcell⟩ := (hp.1.grow hg).form (by simp; omega)
      cases hv2
      refine GO ?_
      refine WL_index vv vv hlt ?_
      refine WL_load_cell (v := ps[i].1) vv (by rw [Nat.mul_one]; exact hcell i _ (by simp [hlt])) ?_
      refine GO ?_
      refine WL_appendB vv ha.own vv ((hp.2 ps[i] (by simp)).grow hg) (by have := flat_le ps (i + 1); rw [flat_take ps i hlt, List.length_append] at this; omega) (hone ps[i] (by simp)) ?_
      intro v3 w3 g3
      refine GO ?_
      refine WL_inc vv (by omega) ?_
      refine GO ?_
      refine ⟨ps.length - (i + 1), by omega, i + 1, v3, rfl, hlt, ⟨rfl, rfl, rfl, rfl, trivial⟩, ?_, ha.grows g3 hg⟩
      rw [flat_take ps i hlt]
      exact ha.grew g3 hg.size
    · have hge : i = ps.length := by have := of_decide_eq_false hc; omega
      subst hge
      refine GO ?_
      rw [List.take_length] at ha
      refine GO ?_
      exact ret1 Tryd.results43 rfl ⟨_, rfl, ha, hg⟩
/-! a list of slices of bytes, and its parts joined -/
theorem BytesAt.one {w : World} {v : Value} {bs : Bytes} (h : BytesAt w v bs) : v.cells = #[v] := by
  obtain ⟨ao, cap, rfl⟩ := ReadsAt.value h
  rfl
theorem flat_one : ∀ (vs : List Value), (∀ v ∈ vs, v.cells = #[v]) → vs.flatMap (·.cells.toList) = vs
  | [], _ => rfl
  | v :: vs, h => by
    rw [List.flatMap_cons, h v (by simp), flat_one vs fun u hu => h u (by simp [hu])]
    rfl
theorem WL_parts {n : Nat} {f : Env} {w : World} {ops : Array Oper} {K : Env → World → Prop} {rest : List Oper} {d : Nat} {ty : TypeId} {pos : String} {af : Array Edge} {len : Nat} {os : List (Nat × Operand)} (ps : List (Value × Bytes)) (hv : (os.map fun p => (p.1, ev f p.2)) = ((ps.map (·.1)).zipIdx 0).map fun x => (x.2, x.1)) (hne : ps ≠ []) (hl : ps.length = len) (hk : Nat.ble len 1000 = true) (hp : ∀ p ∈ ps, BytesAt w p.1 p.2)
    (h : ∀ b w', w.heap.size ≤ b → PartsAt w' (.slice (some ⟨b, 0, none⟩) len len) ps → Grows w w' → WL n Tryd.prog ops K rest (upd f d (.slice (some ⟨b, 0, none⟩) len len)) w') (hn : Nat.blt d n = true := by rfl) : WL n Tryd.prog ops K (⟨some d, .buildSlice 136 len os.toArray, ty, pos, af, none⟩ :: rest) f w := by
  have hone : ∀ v ∈ ps.map (·.1), v.cells = #[v] := fun v hv => by
    obtain ⟨p, hpm, rfl⟩ := List.mem_map.1 hv
    exact (hp p hpm).one
  refine WL_slice (vs := ps.map (·.1)) hv (by simpa using hne) (by simpa using hl) (fun v hv => by rw [hone v hv]; rfl) (by have := Nat.le_of_ble_eq_true hk; rw [Nat.mul_one]; exact Nat.ble_eq_true_of_le (by omega)) ?_ hn
  intro b w' hb h1 g
  refine h b w' hb ⟨?_, fun p hpm => (hp p hpm).grow g⟩ g
  rw [flat_one _ hone] at h1
  subst hl
  refine ⟨by simp, some ⟨b, 0, none⟩, _, rfl, by simp, fun j x hj => ⟨_, rfl, ?_⟩⟩
  rw [add_addr, cell_of_row w' b (0 + j) _ _ _ h1]
  simpa using hj
end Go.Proofs.YtgkhfpkfjajdjaaDoor

/- The reference's header. -/
namespace Go.Proofs.YtgkhfpkfjajdjaaDoor
open Go.RowKit
set_option maxHeartbeats 400000
set_option maxRecDepth 100000

section
variable {n : Nat} {P : Program} {f : Env} {w : World} {d : Option Nat} {ty : TypeId} {pos : String} {af : Array Edge} {gd : Option (Nat × Bool)}
theorem run_intBits_or (k : IntKind) (a b : Int) : (Op.intBits .or k a b).run P w = .ok (.int k (bits .or k a b)) w := rfl
theorem run_intBits_and (k : IntKind) (a b : Int) : (Op.intBits .and k a b).run P w = .ok (.int k (bits .and k a b)) w := rfl
theorem Y_or {t u : TypeId} {x y : Operand} {k : IntKind} {a b c : Int} (hx : ev f x = .int k a) (hy : ev f y = .int k b) (hc : bits .or k a b = c) : (execOp (ev f) ⟨d, .binOp .or t x y u, ty, pos, af, gd⟩).run P w = .ok (.value (.int k c)) w := by simp [execOp, hx, hy, eqGuard, binOp, run_intBits_or, hc]
theorem Y_and {t u : TypeId} {x y : Operand} {k : IntKind} {a b c : Int} (hx : ev f x = .int k a) (hy : ev f y = .int k b) (hc : bits .and k a b = c) : (execOp (ev f) ⟨d, .binOp .and t x y u, ty, pos, af, gd⟩).run P w = .ok (.value (.int k c)) w := by simp [execOp, hx, hy, eqGuard, binOp, run_intBits_and, hc]
theorem Y_shl {t u : TypeId} {x y : Operand} {k j : IntKind} {a b c : Int} (hx : ev f x = .int k a) (hy : ev f y = .int j b) (h0 : 0 ≤ b) (hc : k.wrap (a * 2 ^ min b.toNat k.bits) = c) : (execOp (ev f) ⟨d, .binOp .shl t x y u, ty, pos, af, gd⟩).run P w = .ok (.value (.int k c)) w := by
  have h0' : ¬ b < 0 := by omega
  simp [execOp, hx, hy, eqGuard, binOp, Op.shift, h0', hc]
theorem Y_shr {t u : TypeId} {x y : Operand} {k j : IntKind} {a b c : Int} (hx : ev f x = .int k a) (hy : ev f y = .int j b) (h0 : 0 ≤ b) (hc : a.fdiv (2 ^ min b.toNat k.bits) = c) : (execOp (ev f) ⟨d, .binOp .shr t x y u, ty, pos, af, gd⟩).run P w = .ok (.value (.int k c)) w := by
  have h0' : ¬ b < 0 := by omega
  simp [execOp, hx, hy, eqGuard, binOp, Op.shift, h0', hc]
end
theorem wrap16 (k : Int) : IntKind.u16.wrap k = k % 65536 := IntKind.wrap_u16 k
theorem low_or (x y : Int) (i : Nat) (hx : 0 ≤ x ∧ x < 65536 ∧ x % 2 ^ i = 0) (hy : 0 ≤ y ∧ y < 2 ^ i) (hi : i ≤ 16) : bits .or .u16 x y = x + y := or_low x y i hx.1 hx.2.1 hy.1 hy.2 hi hx.2.2
abbrev hcells (h : HeadM) : Array Value := #[.int .u16 (h.id : Int), .bool h.qr, .int .u16 (h.op : Int), .bool h.aa, .bool h.tc, .bool h.rd, .bool h.ra, .bool h.ad, .bool h.cd, .int .u16 (h.code : Int)]
theorem bi_cases (b : Bool) : bi b = 0 ∨ bi b = 1 := by cases b <;> simp [bi]
theorem flag_val (b : Bool) (k : Int) : (if b = true then k else 0) = bi b * k := by cases b <;> simp [bi]
theorem spec_HeadWire (w : World) (h : HeadM) (hid : h.id < 65536) (hop : h.op < 16) (hcode : h.code < 16) (cv : Value) (cs : List Nat) (hc0 : ReadsAt w 1 cv cs.length (cs.map fun (c : Nat) => .int .i64 (c : Int))) (hn : cs.length ≤ 1000000) :
    Calls Tryd.prog 40 #[.agg (hcells h), cv] w (RetB w (two h.id ++ two h.bits ++ cs.flatMap fun c => two (low c))) := by
  obtain ⟨ao, cap, rfl⟩ := hc0.value
  refine calls_of_WC Tryd.func40 rfl Tryd.ntmps40 rfl ?_
  refine GO ?_
  refine WL_box vv ?_
  intro b0 w0 hb0 h0 g0
  refine GO ?_
  refine WC_seq (WC_draws (fun w' => w'.heap[b0]? = some (.cells (hcells h) 38 (0, 0))) (by kernel_rfl) (fun w1 g => g.kept h0) ?_)
  intro w1 g1 hS1
  refine WT 0 ?_
  refine WT 1 ?_
  refine WT 3 ?_
  refine WT 4 ?_
  refine WD_take (i := 5) rfl rfl rfl rfl (by kernel_rfl) (by assumption) (fun w' hS => by exact Y_shl (c := (h.op : Int) * 2048) vv vv (by decide) (by rw [wrap16]; simp [IntKind.bits]; omega)) ?_
  refine WT 7 ?_
  refine WT 8 ?_
  refine WT 11 ?_
  refine WT 12 ?_
  refine WT 15 ?_
  refine WT 16 ?_
  refine WD_one (c := 2) (by kernel_rfl) rfl ?_
  refine WL_fun rfl ((spec_flag _ _ _).mono ?_)
  rintro e w2 ⟨rfl, rfl⟩
  refine ⟨_, rfl, WL_nil ⟨hS1, ?_⟩⟩
  rw [flag_val]
  refine WD_take (i := 6) rfl rfl rfl rfl (by kernel_rfl) (by assumption) (fun w' hS => by exact Y_or (c := bi h.qr * 32768 + h.op * 2048) vv vv (low_or _ _ 15 (by have := bi_cases h.qr; omega) (by omega) (by omega))) ?_
  refine WD_one (c := 9) (by kernel_rfl) rfl ?_
  refine WL_fun rfl ((spec_flag _ _ _).mono ?_)
  rintro e w2 ⟨rfl, rfl⟩
  refine ⟨_, rfl, WL_nil ⟨hS1, ?_⟩⟩
  rw [flag_val]
  refine WD_take (i := 10) rfl rfl rfl rfl (by kernel_rfl) (by assumption) (fun w' hS => by exact Y_or (c := bi h.qr * 32768 + h.op * 2048 + bi h.aa * 1024) vv vv (low_or _ _ 11 (by have := bi_cases h.qr; omega) (by have := bi_cases h.aa; omega) (by omega))) ?_
  refine WD_one (c := 13) (by kernel_rfl) rfl ?_
  refine WL_fun rfl ((spec_flag _ _ _).mono ?_)
  rintro e w2 ⟨rfl, rfl⟩
  refine ⟨_, rfl, WL_nil ⟨hS1, ?_⟩⟩
  rw [flag_val]
  refine WD_take (i := 14) rfl rfl rfl rfl (by kernel_rfl) (by assumption) (fun w' hS => by exact Y_or (c := bi h.qr * 32768 + h.op * 2048 + bi h.aa * 1024 + bi h.tc * 512) vv vv (low_or _ _ 10 (by have := bi_cases h.qr; have := bi_cases h.aa; omega) (by have := bi_cases h.tc; omega) (by omega))) ?_
  refine WD_one (c := 17) (by kernel_rfl) rfl ?_
  refine WL_fun rfl ((spec_flag _ _ _).mono ?_)
  rintro e w2 ⟨rfl, rfl⟩
  refine ⟨_, rfl, WL_nil ⟨hS1, ?_⟩⟩
  rw [flag_val]
  refine WD_take (i := 18) rfl rfl rfl rfl (by kernel_rfl) (by assumption) (fun w' hS => by exact Y_or (c := bi h.qr * 32768 + h.op * 2048 + bi h.aa * 1024 + bi h.tc * 512 + bi h.rd * 256) vv vv (low_or _ _ 9 (by have := bi_cases h.qr; have := bi_cases h.aa; have := bi_cases h.tc; omega) (by have := bi_cases h.rd; omega) (by omega))) ?_
  refine WT 19 ?_
  refine WD_done (by kernel_rfl) ?_
  refine GO ?_
  refine WC_seq (WC_draws (fun w' => w'.heap[b0]? = some (.cells (hcells h) 38 (0, 0))) (by kernel_rfl) (fun w1 g => g.kept hS1) ?_)
  intro w2 g2 hS2
  refine WT 0 ?_
  refine WT 1 ?_
  refine WT 2 ?_
  refine WT 4 ?_
  refine WT 5 ?_
  refine WT 8 ?_
  refine WT 9 ?_
  refine WT 12 ?_
  refine WT 13 ?_
  refine WD_one (c := 3) (by kernel_rfl) rfl ?_
  refine WL_fun rfl ((spec_flag _ _ _).mono ?_)
  rintro e w3 ⟨rfl, rfl⟩
  refine ⟨_, rfl, WL_nil ⟨hS2, ?_⟩⟩
  rw [flag_val]
  refine WD_one (c := 6) (by kernel_rfl) rfl ?_
  refine WL_fun rfl ((spec_flag _ _ _).mono ?_)
  rintro e w3 ⟨rfl, rfl⟩
  refine ⟨_, rfl, WL_nil ⟨hS2, ?_⟩⟩
  rw [flag_val]
  refine WD_take (i := 7) rfl rfl rfl rfl (by kernel_rfl) (by assumption) (fun w' hS => by exact Y_or (c := bi h.ra * 128 + bi h.ad * 32) vv vv (low_or _ _ 7 (by have := bi_cases h.ra; omega) (by have := bi_cases h.ad; omega) (by omega))) ?_
  refine WD_one (c := 10) (by kernel_rfl) rfl ?_
  refine WL_fun rfl ((spec_flag _ _ _).mono ?_)
  rintro e w3 ⟨rfl, rfl⟩
  refine ⟨_, rfl, WL_nil ⟨hS2, ?_⟩⟩
  rw [flag_val]
  refine WD_take (i := 11) rfl rfl rfl rfl (by kernel_rfl) (by assumption) (fun w' hS => by exact Y_or (c := bi h.ra * 128 + bi h.ad * 32 + bi h.cd * 16) vv vv (low_or _ _ 5 (by have := bi_cases h.ra; have := bi_cases h.ad; omega) (by have := bi_cases h.cd; omega) (by omega))) ?_
  refine WD_take (i := 14) rfl rfl rfl rfl (by kernel_rfl) (by assumption) (fun w' hS => by exact Y_or (c := bi h.ra * 128 + bi h.ad * 32 + bi h.cd * 16 + h.code) vv vv (low_or _ _ 4 (by have := bi_cases h.ra; have := bi_cases h.ad; have := bi_cases h.cd; omega) (by omega) (by omega))) ?_
  refine WD_take (i := 15) rfl rfl rfl rfl (by kernel_rfl) (by assumption) (fun w' hS => by exact Y_or (c := h.bits) vv vv ((low_or _ _ 8 (by have := bi_cases h.qr; have := bi_cases h.aa; have := bi_cases h.tc; have := bi_cases h.rd; omega) (by have := bi_cases h.ra; have := bi_cases h.ad; have := bi_cases h.cd; omega) (by omega)).trans (by unfold HeadM.bits; omega))) ?_
  refine WT 16 ?_
  refine WD_done (by kernel_rfl) ?_
  have hbits : 0 ≤ h.bits ∧ h.bits < 65536 := by
    have := bi_cases h.qr; have := bi_cases h.aa; have := bi_cases h.tc; have := bi_cases h.rd; have := bi_cases h.ra; have := bi_cases h.ad; have := bi_cases h.cd
    unfold HeadM.bits; omega
  generalize h.bits = hb at hbits ⊢
  refine GO ?_
  refine WL_fun rfl ((spec_Two _ _ (by omega) (by omega)).mono ?_)
  rintro e w3 ⟨v3, rfl, a3, g3⟩
  refine ⟨_, rfl, ?_⟩
  refine GO ?_
  refine WL_fun rfl ((spec_Two _ _ (by omega) (by omega)).mono ?_)
  rintro e w4 ⟨v4, rfl, a4, g4⟩
  refine ⟨_, rfl, ?_⟩
  refine WL_parts [(v3, two h.id), (v4, two hb)] rfl (by simp) rfl rfl (by intro p hp; simp only [List.mem_cons, List.not_mem_nil, or_false] at hp; rcases hp with rfl | rfl; exact a3.reads.grow g4; exact a4.reads) ?_
  intro b5 w5 hb5 p5 g5
  refine WL_fun rfl ((spec_Joined _ _ _ p5 (by simp) (by simp [two]) (by simp [two])).mono ?_)
  rintro e w6 ⟨v6, rfl, a6, g6⟩
  refine ⟨_, rfl, ?_⟩
  refine GO ?_
  have G : Grows w w6 := g0.trans (g1.trans (g2.trans (g3.trans (g4.trans (g5.trans g6)))))
  have a6' : AccB w.heap.size w6 v6 (two h.id ++ two hb) := by have := a6.mono (B' := w.heap.size) (by have := g0.size; have := g1.size; have := g2.size; have := g3.size; have := g4.size; have := g5.size; omega); simpa [AccB] using this
  clear a6 a3 a4 p5
  refine WC_loop (fun m f w' => ∃ i v', m = cs.length - i ∧ i ≤ cs.length ∧ EnvHas f [(6, v'), (51, .slice ao cs.length cap), (52, .int .i64 (cs.length : Int)), (53, .int .i64 (i : Int))] ∧ AccB w.heap.size w' v' (two h.id ++ two hb ++ (cs.take i).flatMap fun c => two (low c)) ∧ Grows w w') cs.length ?_ ?_
  · exact ⟨0, v6, rfl, Nat.zero_le _, ⟨rfl, rfl, rfl, rfl, trivial⟩, by simpa using a6', G⟩
  · rintro m f w2 ⟨i, v', rfl, hi, he, ha, hg⟩
    obtain ⟨f, rfl⟩ := he.form
    refine GO ?_
    first | refine WC_sif vv (fun hc => ?_) (fun hc => ?_) | refine WC_if vv (fun hc => ?_) (fun hc => ?_)
    · have hlt : i < cs.length := by simpa using hc
      refine GO ?_
      obtain ⟨b2, o2, cap2, hv2, hcell⟩ := (hc0.grow hg).form (by simp; omega)
      cases hv2
      refine GO ?_
      refine WL_index vv vv hlt ?_
      refine WL_load_cell (v := .int .i64 ((cs[i] : Nat) : Int)) vv (by rw [Nat.mul_one]; exact hcell i _ (by simp [hlt])) ?_
      refine GO ?_
      refine WL_conv (c := low cs[i]) vv (by rw [wrap16]; unfold low; omega) ?_
      refine WL_fun rfl ((spec_Two _ _ (by unfold low; omega) (by unfold low; omega)).mono ?_)
      rintro e w3 ⟨v3, rfl, a3, g3⟩
      refine ⟨_, rfl, ?_⟩
      refine GO ?_
      refine WL_appendB vv (ha.grow g3).own vv a3.reads ?_ (by simp [two]) ?_
      · have : ((cs.take i).flatMap fun c => two (low c)).length ≤ 2 * cs.length := by
          rw [flat_len _ 2 _ (fun _ _ => rfl)]; simp; omega
        simp [two] at this ⊢; omega
      intro v4 w4 g4
      refine GO ?_
      refine WL_inc vv (by omega) ?_
      refine GO ?_
      refine ⟨cs.length - (i + 1), by omega, i + 1, v4, rfl, hlt, ⟨rfl, rfl, rfl, rfl, trivial⟩, ?_, (ha.grow g3).grows g4 (hg.trans g3)⟩
      have := (ha.grow g3).grew g4 (hg.trans g3).size
      rw [fm_take _ _ _ hlt, ← List.append_assoc]
      exact this
    · have hge : i = cs.length := by have := of_decide_eq_false hc; omega
      subst hge
      refine GO ?_
      rw [List.take_length] at ha
      exact ret1 Tryd.results40 rfl ⟨_, rfl, ha, hg⟩
end Go.Proofs.YtgkhfpkfjajdjaaDoor

/- More rules: operations that yield, strings as lists of bytes, two slices of the call's own beside each other. -/
namespace Go.Proofs.YtgkhfpkfjajdjaaDoor
open Go.RowKit
set_option maxRecDepth 100000

section
variable {n : Nat} {P : Program} {f : Env} {w : World} {ops : Array Oper} {K : Env → World → Prop} {rest : List Oper} {d : Nat} {ty : TypeId} {pos : String} {af : Array Edge} {d' : Option Nat} {gd : Option (Nat × Bool)}
theorem WL_y {op : Op} {v : Value} (hy : (execOp (ev f) ⟨some d, op, ty, pos, af, none⟩).run P w = .ok (.value v) w) (h : WL n P ops K rest (upd f d v) w) (hn : Nat.blt d n = true := by rfl) : WL n P ops K (⟨some d, op, ty, pos, af, none⟩ :: rest) f w := WL_val rfl rfl hn hy h
theorem Y_eqlR {t u : TypeId} {x y : Operand} {k : IntKind} {a b : Int} {r : Bool} (hx : ev f x = .int k a) (hy : ev f y = .int k b) (hr : (a == b) = r) : (execOp (ev f) ⟨d', .binOp .eql t x y u, ty, pos, af, gd⟩).run P w = .ok (.value (.bool r)) w := hr ▸ Y_eql hx hy
theorem Y_neqR {t u : TypeId} {x y : Operand} {k : IntKind} {a b : Int} {r : Bool} (hx : ev f x = .int k a) (hy : ev f y = .int k b) (hr : (a != b) = r) : (execOp (ev f) ⟨d', .binOp .neq t x y u, ty, pos, af, gd⟩).run P w = .ok (.value (.bool r)) w := hr ▸ Y_neq hx hy
theorem Y_lssR {t u : TypeId} {x y : Operand} {k : IntKind} {a b : Int} {r : Bool} (hx : ev f x = .int k a) (hy : ev f y = .int k b) (hr : decide (a < b) = r) : (execOp (ev f) ⟨d', .binOp .lss t x y u, ty, pos, af, gd⟩).run P w = .ok (.value (.bool r)) w := hr ▸ Y_lss hx hy
theorem Y_leqR {t u : TypeId} {x y : Operand} {k : IntKind} {a b : Int} {r : Bool} (hx : ev f x = .int k a) (hy : ev f y = .int k b) (hr : decide (a ≤ b) = r) : (execOp (ev f) ⟨d', .binOp .leq t x y u, ty, pos, af, gd⟩).run P w = .ok (.value (.bool r)) w := hr ▸ Y_leq hx hy
theorem Y_gtrR {t u : TypeId} {x y : Operand} {k : IntKind} {a b : Int} {r : Bool} (hx : ev f x = .int k a) (hy : ev f y = .int k b) (hr : decide (b < a) = r) : (execOp (ev f) ⟨d', .binOp .gtr t x y u, ty, pos, af, gd⟩).run P w = .ok (.value (.bool r)) w := hr ▸ Y_gtr hx hy
theorem Y_geqR {t u : TypeId} {x y : Operand} {k : IntKind} {a b : Int} {r : Bool} (hx : ev f x = .int k a) (hy : ev f y = .int k b) (hr : decide (b ≤ a) = r) : (execOp (ev f) ⟨d', .binOp .geq t x y u, ty, pos, af, gd⟩).run P w = .ok (.value (.bool r)) w := hr ▸ Y_geq hx hy
/-! strings -/
theorem Y_atS {t : TypeId} {x y : Operand} {s : Bytes} {i : Nat} {ik : IntKind} [ht : TyStr P t] (hx : ev f x = strOf s) (hy : ev f y = .int ik (i : Int)) (hi : i < s.length) : (execOp (ev f) ⟨d', .index t x y, ty, pos, af, gd⟩).run P w = .ok (.value (.int .u8 ((s[i]).toNat : Int))) w := by
  have hsz : i < (⟨s.toArray⟩ : ByteArray).size := by simpa [ByteArray.size] using hi
  have hb0 : (⟨s.toArray⟩ : ByteArray)[i]? = some ((⟨s.toArray⟩ : ByteArray)[i]'hsz) := by simp [hsz]
  have hb : (⟨s.toArray⟩ : ByteArray)[i]? = some s[i] := hb0
  simp [execOp, hx, hy, strOf, Instr.index, asIntOf, run_underlying ht.u, hb]
theorem Y_lenS {x : Operand} {s : Bytes} {t : TypeId} [ht : TyStr P t] (hx : ev f x = strOf s) : (execOp (ev f) ⟨d', .call ⟨.builtin .len, #[x], #[t]⟩, ty, pos, af, gd⟩).run P w = .ok (.value (.int .i64 (s.length : Int))) w := by
  have := Y_lenStr (P := P) (w := w) (d := d') (ty := ty) (pos := pos) (af := af) (gd := gd) (t := t) (x := x) (bs := ⟨s.toArray⟩) hx
  simpa [ByteArray.size] using this
theorem Y_eqS {t u : TypeId} {x y : Operand} {a b : Bytes} (hx : ev f x = strOf a) (hy : ev f y = strOf b) : (execOp (ev f) ⟨d', .binOp .eql t x y u, ty, pos, af, gd⟩).run P w = .ok (.value (.bool (a == b))) w := by
  have h1 : ((⟨a.toArray⟩ : ByteArray).toList == (⟨b.toArray⟩ : ByteArray).toList) = (a == b) := by rw [ByteArray.toList_eq, ByteArray.toList_eq]
  simp [execOp, hx, hy, strOf, eqGuard, binOp, Op.stringOp, h1]
end
theorem b46 (b : UInt8) : ((b.toNat : Int) != 46) = decide (b ≠ 46) := by
  by_cases h : b = 46
  · subst h; rfl
  · have : b.toNat ≠ 46 := fun e => h (UInt8.toNat_inj.1 (by rw [e]; rfl))
    simp [h]; omega
/-! two slices of the call's own -/
def Apart (v u : Value) : Prop := v.ownBlock = none ∨ v.ownBlock ≠ u.ownBlock
section
variable {B : Nat} {w w' : World} {e size e' size' : Nat} {v u u' : Value} {n m m' : Nat} {xs ys ys' : List Value}
theorem Acc.keep (h : Acc B w e size v n xs) (hg : Grew w e' size' u m ys w' u' m' ys') (ha : Apart v u) : Acc B w' e size v n xs := ⟨h.own.kept hg.by_ ha, h.base⟩
theorem Acc.apart (h : Acc B w e size v n xs) (hg : Grew w e' size' u m ys w' u' m' ys') (ha : Apart v u) : Apart v u' := by
  rcases hg.at_ with e | ⟨k, hk, e⟩
  · unfold Apart; rw [e]; exact ha
  · cases hv : v.ownBlock with
    | none => exact .inl hv
    | some j =>
      right
      rw [hv, e]
      have := (h.own.lt j hv).2
      intro hh
      cases hh
      omega
theorem Acc.apart' (h : Acc B w e size v n xs) (hg : Grew w e' size' u m ys w' u' m' ys') (hu : Apart v u) : Apart u' v := by
  have h2 := h.apart hg hu
  cases hv : u'.ownBlock with
  | none => exact .inl hv
  | some j =>
    right
    rcases h2 with h2 | h2
    · rw [h2, hv]; simp
    · exact fun x => h2 x.symm
end
theorem AccB.keep {B : Nat} {w w' : World} {v u u' : Value} {bs cs cs' : Bytes} (h : AccB B w v bs) (hg : GrewB w u cs w' u' cs') (ha : Apart v u) : AccB B w' v bs := Acc.keep h hg ha
theorem AccB.apart {B : Nat} {w w' : World} {v u u' : Value} {bs cs cs' : Bytes} (h : AccB B w v bs) (hg : GrewB w u cs w' u' cs') (ha : Apart v u) : Apart v u' := Acc.apart h hg ha
theorem AccB.apart' {B : Nat} {w w' : World} {v u u' : Value} {bs cs cs' : Bytes} (h : AccB B w v bs) (hg : GrewB w u cs w' u' cs') (ha : Apart v u) : Apart u' v := Acc.apart' h hg ha
/-- a new block beside a slice of old -/
theorem AccB.new_apart {B : Nat} {w : World} {v : Value} {bs : Bytes} (h : AccB B w v bs) {b len cap : Nat} (hb : w.heap.size ≤ b) : Apart v (.slice (some ⟨b, 0, none⟩) len cap) := by
  cases hv : v.ownBlock with
  | none => exact .inl hv
  | some j =>
    right
    rw [hv]
    have := (h.own.lt j hv).2
    simp only [Value.ownBlock]
    intro hh
    cases hh
    omega
theorem AccB.mono' {B B' : Nat} {w : World} {v : Value} {bs : Bytes} (h : AccB B w v bs) (hB : B' ≤ B) : AccB B' w v bs := Acc.mono h hB
end Go.Proofs.YtgkhfpkfjajdjaaDoor

/- The reference's names: which can be written, and how. -/
namespace Go.Proofs.YtgkhfpkfjajdjaaDoor
open Go.RowKit
set_option maxHeartbeats 400000
set_option maxRecDepth 100000

theorem spec_Four (w : World) (k : Int) (h0 : 0 ≤ k) (h1 : k < 4294967296) : Calls Tryd.prog 65 #[.int .u32 k] w (RetB w (four k)) := by
  refine calls_of_WC Tryd.func65 rfl Tryd.ntmps65 rfl ?_
  refine GO ?_
  refine WL_y (Y_shr (c := k / 65536) vv vv (by decide) (by simp [IntKind.bits, Int.fdiv_eq_ediv_of_nonneg])) ?_
  refine WL_conv (c := k / 65536) vv (by rw [wrap16]; omega) ?_
  refine WL_fun rfl ((spec_Two _ _ (by omega) (by omega)).mono ?_)
  rintro e w1 ⟨v1, rfl, a1, g1⟩
  refine ⟨_, rfl, ?_⟩
  refine GO ?_
  refine WL_conv (c := k % 65536) vv (wrap16 k) ?_
  refine WL_fun rfl ((spec_Two _ _ (by omega) (by omega)).mono ?_)
  rintro e w2 ⟨v2, rfl, a2, g2⟩
  refine ⟨_, rfl, ?_⟩
  refine WL_parts [(v1, two (k / 65536)), (v2, two (k % 65536))] rfl (by simp) rfl rfl (by intro p hp; simp only [List.mem_cons, List.not_mem_nil, or_false] at hp; rcases hp with rfl | rfl; exact a1.reads.grow g2; exact a2.reads) ?_
  intro b3 w3 hb3 p3 g3
  refine WL_fun rfl ((spec_Joined _ _ _ p3 (by simp) (by simp [two]) (by simp [two])).mono ?_)
  rintro e w4 ⟨v4, rfl, a4, g4⟩
  refine ⟨_, rfl, ?_⟩
  refine GO ?_
  refine ret1 (v := v4) Tryd.results65 rfl ⟨_, rfl, ?_, g1.trans (g2.trans (g3.trans g4))⟩
  have := a4.mono' (B' := w.heap.size) (by have := g1.size; have := g2.size; have := g3.size; omega)
  simpa [four] using this
theorem drop_head {α : Type} {l : List α} {i : Nat} (h : i < l.length) : l.drop i = l[i] :: l.drop (i + 1) := List.drop_eq_getElem_cons h
theorem okLoop_cons (b : UInt8) (r : Bytes) (n : Nat) : okLoop (b :: r) n = if b ≠ 46 then okLoop r (n + 1) else if n = 0 ∨ 63 < n then none else okLoop r 0 := rfl
theorem okLoop_nil (n : Nat) : okLoop [] n = some n := rfl
theorem spec_NameOk (w : World) (s : Bytes) (hs : s.length ≤ lim) : Calls Tryd.prog 25 #[strOf s] w fun e w' => e = .returned (.bool (nameOk s)) ∧ w = w' := by
  refine calls_of_WC Tryd.func25 rfl Tryd.ntmps25 rfl ?_
  refine GO ?_
  refine WL_y (Y_eqS (b := [46]) vv rfl) ?_
  refine GO ?_
  first | refine WC_sif vv (fun hc => ?_) (fun hc => ?_) | refine WC_if vv (fun hc => ?_) (fun hc => ?_)
  · have hd : s = [46] := by simpa using hc
    refine GO ?_
    exact ret1 Tryd.results25 rfl ⟨by subst hd; rfl, rfl⟩
  · have hd : s ≠ [46] := by simpa using hc
    refine GO ?_
    refine WC_loop (fun m f w' => ∃ i n : Nat, m = s.length - i ∧ i ≤ s.length ∧ EnvHas f [(0, strOf s), (3, .int .i64 (n : Int)), (8, .int .i64 (s.length : Int)), (9, .int .i64 (i : Int))] ∧ okLoop (s.drop i) n = okLoop s 0 ∧ n ≤ i ∧ w = w') s.length ?_ ?_
    · exact ⟨0, 0, rfl, Nat.zero_le _, ⟨rfl, rfl, rfl, rfl, trivial⟩, by simp, Nat.le_refl _, rfl⟩
    · rintro m f w2 ⟨i, n, rfl, hi, he, hok, hni, rfl⟩
      obtain ⟨f, rfl⟩ := he.form
      refine GO ?_
      first | refine WC_sif vv (fun hc => ?_) (fun hc => ?_) | refine WC_if vv (fun hc => ?_) (fun hc => ?_)
      · have hlt : i < s.length := by simpa using hc
        refine GO ?_
        refine WL_y (Y_atS vv vv hlt) ?_
        refine WL_y (Y_neqR vv vv (b46 _)) ?_
        refine GO ?_
        rw [drop_head hlt, okLoop_cons] at hok
        first | refine WC_sif vv (fun hc => ?_) (fun hc => ?_) | refine WC_if vv (fun hc => ?_) (fun hc => ?_)
        · have hb : s[i] ≠ 46 := by simpa using hc
          rw [if_pos hb] at hok
          refine GO ?_
          refine WL_inc vv (by simp only [lim] at hs; omega) ?_
          refine GO ?_
          refine WL_inc vv (by simp only [lim] at hs; omega) ?_
          refine GO ?_
          exact ⟨s.length - (i + 1), by omega, i + 1, n + 1, rfl, hlt, ⟨rfl, rfl, rfl, rfl, trivial⟩, hok, by omega, rfl⟩
        · have hb : s[i] = 46 := by simpa using hc
          rw [if_neg (by simpa using hb)] at hok
          refine GO ?_
          by_cases hn0 : n = 0
          · subst hn0
            rw [if_pos (.inl rfl)] at hok
            have hno : nameOk s = false := by unfold nameOk; rw [← hok]; simp [hd]
            rw [show (((0 : Nat) : Int) == 0) = true from rfl]
            refine GO ?_
            first | refine WL_unwanted (c := true) rfl vv rfl ?_ | refine WL_unwanted (c := false) rfl vv rfl ?_
            first | refine WL_unwanted (c := true) rfl vv rfl ?_ | refine WL_unwanted (c := false) rfl vv rfl ?_
            refine WL_y (Y_pick vv vv vv) ?_
            refine GO ?_
            first | refine WC_sif vv (fun hc => ?_) (fun hc => ?_) | refine WC_if vv (fun hc => ?_) (fun hc => ?_)
            · refine GO ?_
              exact ret1 (v := .bool false) Tryd.results25 rfl ⟨by rw [hno], rfl⟩
            · cases hc
          · rw [show ((n : Int) == 0) = false by simpa using hn0]
            refine GO ?_
            refine WL_wanted rfl vv ?_
            refine GO ?_
            refine WL_wanted rfl vv ?_
            refine GO ?_
            refine WL_y (Y_pick vv vv vv) ?_
            refine GO ?_
            first | refine WC_sif vv (fun hc => ?_) (fun hc => ?_) | refine WC_if vv (fun hc => ?_) (fun hc => ?_)
            · have h63 : 63 < n := by have : (63 : Int) < (n : Int) := (by simpa using hc); omega
              rw [if_pos (.inr h63)] at hok
              have hno : nameOk s = false := by unfold nameOk; rw [← hok]; simp [hd]
              refine GO ?_
              exact ret1 (v := .bool false) Tryd.results25 rfl ⟨by rw [hno], rfl⟩
            · have h63 : ¬ 63 < n := by have : ¬ (63 : Int) < (n : Int) := (by simpa using hc); omega
              rw [if_neg (by omega)] at hok
              refine GO ?_
              refine WL_inc vv (by simp only [lim] at hs; omega) ?_
              refine GO ?_
              exact ⟨s.length - (i + 1), by omega, i + 1, 0, rfl, hlt, ⟨rfl, rfl, rfl, rfl, trivial⟩, hok, by omega, rfl⟩
      · have hge : i = s.length := by have := of_decide_eq_false hc; omega
        subst hge
        rw [List.drop_length, okLoop_nil] at hok
        have hval : nameOk s = (decide (n = 0) && decide (1 < s.length) && decide (s.length ≤ 254)) := by
          unfold nameOk
          rw [← hok]
          have : (s == [46]) = false := by simpa using hd
          rw [this, Bool.false_or]
          congr 2
        refine GO ?_
        by_cases hn0 : n = 0
        · subst hn0
          rw [show (((0 : Nat) : Int) == 0) = true from rfl]
          refine GO ?_
          refine WL_wanted rfl vv ?_
          refine GO ?_
          refine WL_wanted rfl vv ?_
          refine GO ?_
          refine WL_wanted rfl vv ?_
          refine GO ?_
          refine WL_y (Y_pick vv vv vv) ?_
          refine GO ?_
          by_cases h1 : 1 < s.length
          · have h1' : decide ((1 : Int) < (s.length : Int)) = true := by simp; omega
            rw [h1']
            refine WL_wanted rfl vv ?_
            refine GO ?_
            refine WL_wanted rfl vv ?_
            refine GO ?_
            refine WL_wanted rfl vv ?_
            refine GO ?_
            refine WL_y (Y_pick vv vv vv) ?_
            refine GO ?_
            refine ret1 (v := .bool (decide ((s.length : Int) ≤ 254))) Tryd.results25 rfl ⟨?_, rfl⟩
            rw [hval]
            have : decide ((s.length : Int) ≤ 254) = decide (s.length ≤ 254) := by apply decide_eq_decide.2; omega
            rw [this]
            simp [h1]
          · have h1' : decide ((1 : Int) < (s.length : Int)) = false := by simp; omega
            rw [h1']
            first | refine WL_unwanted (c := true) rfl vv rfl ?_ | refine WL_unwanted (c := false) rfl vv rfl ?_
            first | refine WL_unwanted (c := true) rfl vv rfl ?_ | refine WL_unwanted (c := false) rfl vv rfl ?_
            first | refine WL_unwanted (c := true) rfl vv rfl ?_ | refine WL_unwanted (c := false) rfl vv rfl ?_
            refine WL_y (Y_pick vv vv vv) ?_
            refine GO ?_
            refine ret1 (v := .bool false) Tryd.results25 rfl ⟨?_, rfl⟩
            rw [hval]
            simp [h1]
        · rw [show ((n : Int) == 0) = false by simpa using hn0]
          refine GO ?_
          first | refine WL_unwanted (c := true) rfl vv rfl ?_ | refine WL_unwanted (c := false) rfl vv rfl ?_
          first | refine WL_unwanted (c := true) rfl vv rfl ?_ | refine WL_unwanted (c := false) rfl vv rfl ?_
          first | refine WL_unwanted (c := true) rfl vv rfl ?_ | refine WL_unwanted (c := false) rfl vv rfl ?_
          refine WL_y (Y_pick vv vv vv) ?_
          refine GO ?_
          first | refine WL_unwanted (c := true) rfl vv rfl ?_ | refine WL_unwanted (c := false) rfl vv rfl ?_
          first | refine WL_unwanted (c := true) rfl vv rfl ?_ | refine WL_unwanted (c := false) rfl vv rfl ?_
          first | refine WL_unwanted (c := true) rfl vv rfl ?_ | refine WL_unwanted (c := false) rfl vv rfl ?_
          refine WL_y (Y_pick vv vv vv) ?_
          refine GO ?_
          refine ret1 (v := .bool false) Tryd.results25 rfl ⟨?_, rfl⟩
          rw [hval]
          simp [hn0]
end Go.Proofs.YtgkhfpkfjajdjaaDoor

/- The reference's names, written; long labels; capital letters. -/
namespace Go.Proofs.YtgkhfpkfjajdjaaDoor
open Go.RowKit
set_option maxHeartbeats 400000
set_option maxRecDepth 100000

theorem wireLoop_cons (b : UInt8) (r out label : Bytes) : wireLoop (b :: r) out label = if b ≠ 46 then wireLoop r out (label ++ [b]) else wireLoop r (if 0 < label.length then out ++ UInt8.ofNat label.length :: label else out) [] := rfl
theorem wireLoop_nil (out label : Bytes) : wireLoop [] out label = out ++ [0] := rfl
theorem wireLoop_le : ∀ (rest out label : Bytes), (wireLoop rest out label).length ≤ out.length + label.length + rest.length + 1
  | [], out, label => by rw [wireLoop_nil]; simp
  | b :: r, out, label => by
    rw [wireLoop_cons]
    split
    · have := wireLoop_le r out (label ++ [b])
      simp at this ⊢; omega
    · by_cases h0 : 0 < label.length
      · rw [if_pos h0]
        have := wireLoop_le r (out ++ UInt8.ofNat label.length :: label) []
        simp at this ⊢; omega
      · rw [if_neg h0]
        have := wireLoop_le r out []
        simp at this ⊢; omega
theorem wire_le (s : Bytes) : (wire s).length ≤ s.length + 1 := by
  have := wireLoop_le s [] []
  simpa [wire] using this
theorem bv1 (b : UInt8) : [Value.int .u8 (b.toNat : Int)] = bv [b] := rfl
theorem u8_wrap (k : Nat) : IntKind.u8.wrap (k : Int) = ((UInt8.ofNat k).toNat : Int) := by
  rw [wrap8, UInt8.toNat_ofNat']
  omega
theorem spec_Wire (w : World) (s : Bytes) (hs : s.length ≤ lim) : Calls Tryd.prog 63 #[strOf s] w (RetB w (wire s)) := by
  simp only [lim] at hs
  refine calls_of_WC Tryd.func63 rfl Tryd.ntmps63 rfl ?_
  refine GO ?_
  refine WL_slice0 ?_
  intro b1 w1 hb1 h1 g1
  refine GO ?_
  refine WL_slice0 ?_
  intro b2 w2 hb2 h2 g2
  refine GO ?_
  refine WC_loop (fun m f w' => ∃ i v u o lab, m = s.length - i ∧ i ≤ s.length ∧ EnvHas f [(0, strOf s), (3, v), (4, u), (9, .int .i64 (s.length : Int)), (10, .int .i64 (i : Int))] ∧ AccB w.heap.size w' v o ∧ AccB w.heap.size w' u lab ∧ Apart v u ∧ Apart u v ∧ Grows w w' ∧ wireLoop (s.drop i) o lab = wire s ∧ o.length + lab.length ≤ i) s.length ?_ ?_
  · refine ⟨0, .slice (some ⟨b1, 0, none⟩) 0 0, .slice (some ⟨b2, 0, none⟩) 0 0, [], [], rfl, Nat.zero_le _, ⟨rfl, rfl, rfl, rfl, rfl, trivial⟩, accB_cells (g2.kept h1) rfl rfl (by decide) hb1, accB_cells h2 rfl rfl (by decide) (by have := g1.size; omega), ?_, ?_, g1.trans g2, by rw [List.drop_zero]; rfl, by simp⟩
    · right; simp only [Value.ownBlock]; intro e; cases e; have := (Array.getElem?_eq_some_iff.1 h1).1; omega
    · right; simp only [Value.ownBlock]; intro e; cases e; have := (Array.getElem?_eq_some_iff.1 h1).1; omega
  · rintro m f w3 ⟨i, v, u, o, lab, rfl, hi, he, hv, hu, hvu, huv, hg, hw, hlen⟩
    obtain ⟨f, rfl⟩ := he.form
    have hul : ∃ ao cap, u = .slice ao lab.length cap := hu.reads.value
    obtain ⟨ao, cap, rfl⟩ := hul
    refine GO ?_
    first | refine WC_sif vv (fun hc => ?_) (fun hc => ?_) | refine WC_if vv (fun hc => ?_) (fun hc => ?_)
    · have hlt : i < s.length := by simpa using hc
      refine GO ?_
      refine WL_y (Y_atS vv vv hlt) ?_
      refine WL_y (Y_neqR vv vv (b46 _)) ?_
      refine GO ?_
      rw [drop_head hlt, wireLoop_cons] at hw
      first | refine WC_sif vv (fun hc => ?_) (fun hc => ?_) | refine WC_if vv (fun hc => ?_) (fun hc => ?_)
      · have hb : s[i] ≠ 46 := by simpa using hc
        rw [if_pos hb] at hw
        refine GO ?_
        refine WL_y (Y_atS vv vv hlt) ?_
        refine WL_slice (vs := [.int .u8 (s[i].toNat : Int)]) rfl (by simp) rfl (by simp [Value.cells]) rfl ?_
        intro b4 w4 hb4 h4 g4
        refine WL_appendB vv (hu.grow g4).own vv (bytes_cells (n := 1) (bs := [s[i]]) h4 rfl rfl) (by simp; omega) (by simp) ?_
        intro u5 w5 g5
        refine GO ?_
        refine WL_inc vv (by omega) ?_
        refine GO ?_
        exact ⟨s.length - (i + 1), by omega, i + 1, v, u5, o, lab ++ [s[i]], rfl, hlt, ⟨rfl, rfl, rfl, rfl, rfl, trivial⟩, (hv.grow g4).keep g5 hvu, (hu.grow g4).grew g5 (hg.trans g4).size, (hv.grow g4).apart g5 hvu, (hv.grow g4).apart' g5 hvu, (hu.grow g4).grows g5 (hg.trans g4), hw, by simp; omega⟩
      · have hb : s[i] = 46 := by simpa using hc
        rw [if_neg (by simpa using hb)] at hw
        refine GO ?_
        first | refine WC_sif vv (fun hc => ?_) (fun hc => ?_) | refine WC_if vv (fun hc => ?_) (fun hc => ?_)
        · have hpos : 0 < lab.length := by have : (0 : Int) < (lab.length : Int) := (by simpa using hc); omega
          rw [if_pos hpos] at hw
          refine GO ?_
          refine WL_conv (c := ((UInt8.ofNat lab.length).toNat : Int)) vv (u8_wrap _) ?_
          refine WL_slice (vs := [.int .u8 ((UInt8.ofNat lab.length).toNat : Int)]) rfl (by simp) rfl (by simp [Value.cells]) rfl ?_
          intro b4 w4 hb4 h4 g4
          refine WL_appendB vv (hv.grow g4).own vv (bytes_cells (n := 1) (bs := [UInt8.ofNat lab.length]) h4 rfl rfl) (by simp; omega) (by simp) ?_
          intro v5 w5 g5
          refine GO ?_
          refine WL_appendB vv g5.own vv ((hu.grow g4).keep g5 huv).reads (by simp; omega) (by omega) ?_
          intro v6 w6 g6
          refine GO ?_
          refine WL_slice0 ?_
          intro b7 w7 hb7 h7 g7
          refine GO ?_
          refine WL_inc vv (by omega) ?_
          refine GO ?_
          have hv5 := (hv.grow g4).grew g5 (hg.trans g4).size
          have G5 := (hv.grow g4).grows g5 (hg.trans g4)
          have hv6 := hv5.grew g6 G5.size
          have G6 := hv5.grows g6 G5
          refine ⟨s.length - (i + 1), by omega, i + 1, v6, _, o ++ UInt8.ofNat lab.length :: lab, [], rfl, hlt, ⟨rfl, rfl, rfl, rfl, rfl, trivial⟩, ?_, accB_cells h7 rfl rfl (by decide) (by have := G6.size; omega), hv6.new_apart hb7, ?_, G6.trans g7, hw, by simp; omega⟩
          · have := hv6.grow g7; simpa using this
          · right
            simp only [Value.ownBlock]
            intro e
            have := (hv6.own.lt b7 e.symm).2
            omega
        · have hz : lab.length = 0 := by have : ¬ (0 : Int) < (lab.length : Int) := (by simpa using hc); omega
          rw [if_neg (by omega)] at hw
          refine GO ?_
          refine WL_slice0 ?_
          intro b7 w7 hb7 h7 g7
          refine GO ?_
          refine WL_inc vv (by omega) ?_
          refine GO ?_
          refine ⟨s.length - (i + 1), by omega, i + 1, v, _, o, [], rfl, hlt, ⟨rfl, rfl, rfl, rfl, rfl, trivial⟩, hv.grow g7, accB_cells h7 rfl rfl (by decide) (by have := hg.size; omega), hv.new_apart hb7, ?_, hg.trans g7, hw, by simp; omega⟩
          right
          simp only [Value.ownBlock]
          intro e
          have := (hv.own.lt b7 e.symm).2
          omega
    · have hge : i = s.length := by have := of_decide_eq_false hc; omega
      subst hge
      rw [List.drop_length, wireLoop_nil] at hw
      refine GO ?_
      refine WL_slice (vs := [.int .u8 0]) rfl (by simp) rfl (by simp [Value.cells]) rfl ?_
      intro b4 w4 hb4 h4 g4
      refine WL_appendB vv (hv.grow g4).own vv (bytes_cells (n := 1) (bs := [0]) h4 rfl rfl) (by simp; omega) (by simp) ?_
      intro v5 w5 g5
      refine GO ?_
      refine ret1 (v := v5) Tryd.results63 rfl ⟨_, rfl, ?_, (hv.grow g4).grows g5 (hg.trans g4)⟩
      rw [← hw]
      exact (hv.grow g4).grew g5 (hg.trans g4).size
end Go.Proofs.YtgkhfpkfjajdjaaDoor

/- The reference's records, the parts that hang on no kind: types, questions, names of the body. -/
namespace Go.Proofs.YtgkhfpkfjajdjaaDoor
open Go.RowKit
set_option maxHeartbeats 400000
set_option maxRecDepth 100000

section
variable {n : Nat} {P : Program} {Q : Cont} {f : Env} {w : World}
theorem WC_sthen {c : Operand} {x y z : Code} {t : Bool} (hc : ev f c = .bool t) (ht : t = true) (h : WC n P x (thenQ (WC n P z Q) Q) f w) : WC n P (.seq (.cond c x y) z) Q f w := WC_seq (WC_then hc ht h)
theorem WC_selse {c : Operand} {x y z : Code} {t : Bool} (hc : ev f c = .bool t) (ht : t = false) (h : WC n P y (thenQ (WC n P z Q) Q) f w) : WC n P (.seq (.cond c x y) z) Q f w := WC_seq (WC_else hc ht h)
end
theorem WL_want2 {n : Nat} {P : Program} {ops : Array Oper} {K : Env → World → Prop} {rest : List Oper} {f : Env} {w : World} {d : Option Nat} {op : Op} {ty : TypeId} {pos : String} {af : Array Edge} {j dj : Nat} {b c : Bool} (hj : (ops[j]?).bind (·.dst) = some dj) (hf : f dj = .bool c) (hc : c = b)
    (h : WL n P ops K (⟨d, op, ty, pos, af, none⟩ :: rest) f w) (hn : Nat.blt dj n = true := by rfl) : WL n P ops K (⟨d, op, ty, pos, af, some (j, b)⟩ :: rest) f w := WL_wanted hj (hc ▸ hf) h hn
theorem WL_unw2 {n : Nat} {P : Program} {ops : Array Oper} {K : Env → World → Prop} {rest : List Oper} {f : Env} {w : World} {d : Nat} {op : Op} {ty : TypeId} {pos : String} {af : Array Edge} {j dj : Nat} {b c : Bool} (hj : (ops[j]?).bind (·.dst) = some dj) (hf : f dj = .bool c) (hc : c = !b)
    (h : WL n P ops K rest (upd f d undef) w) (hn : Nat.blt dj n = true := by rfl) (hd : Nat.blt d n = true := by rfl) : WL n P ops K (⟨some d, op, ty, pos, af, some (j, b)⟩ :: rest) f w := WL_unwanted hj hf hc h hn hd
/-- what the parts of a literal are -/
def EvL (f : Env) : List (Nat × Operand) → List (Nat × Value) → Prop
  | [], [] => True
  | (i, x) :: ps, (j, v) :: vs => i = j ∧ ev f x = v ∧ EvL f ps vs
  | _, _ => False
theorem EvL.eq {f : Env} : ∀ {ps : List (Nat × Operand)} {vs : List (Nat × Value)}, EvL f ps vs → (ps.map fun p => (p.1, ev f p.2)) = vs
  | [], [], _ => rfl
  | (i, x) :: ps, (j, v) :: vs, h => by
    obtain ⟨rfl, rfl, h⟩ := h
    rw [List.map_cons, EvL.eq h]
  | [], _ :: _, h => h.elim
  | _ :: _, [], h => h.elim
/-- a call that returns a value and changes nothing of old -/
def RetV (w : World) (v : Value) (e : Ending) (w' : World) : Prop := e = .returned v ∧ Grows w w'
def typesCells : Array Value := (typesL.map fun (t : Nat) => Value.int .u16 (t : Int)).toArray
theorem types_at (k : Nat) (hk : k < 14) : typesCells.toList[0 + k * 1]? = some (.int .u16 (typesL.getD k 0 : Nat)) := by
  rw [Nat.zero_add, Nat.mul_one]
  unfold typesCells
  rw [List.getElem?_map, List.getD_eq_getElem?_getD, List.getElem?_eq_getElem (show k < typesL.length from hk)]
  rfl
theorem spec_TypeOf (w : World) (x : RecM × RecV) (k : Nat) (hk : x.1.kind = (k : Int)) (h13 : k < 14) : Calls Tryd.prog 68 #[.agg (recCells x).toArray] w (RetV w (.int .u16 (typeOf k x.1 : Nat))) := by
  refine calls_of_WC Tryd.func68 rfl Tryd.ntmps68 rfl ?_
  refine GO ?_
  refine WL_box vv ?_
  intro b1 w1 hb1 h1 g1
  refine GO ?_
  refine WL_y (v := .agg typesCells) (by kernel_rfl) ?_
  refine WL_alloc ?_
  intro b2 w2 hb2 h2 g2
  refine WL_storeRow (new := typesCells) vv vv h2 rfl rfl (by decide) ?_
  intro w3 hw3 h3
  have h1' := hw3.kept (g2.kept h1) (by have := (Array.getElem?_eq_some_iff.1 h1).1; omega)
  have G : Grows w w3 := (g1.trans g2).wrote hw3 (by have := g1.size; omega)
  refine GO ?_
  rw [hk]
  first | refine WC_sif vv (fun hc => ?_) (fun hc => ?_) | refine WC_if vv (fun hc => ?_) (fun hc => ?_)
  · have h0 : k = 13 := by have : (k : Int) = 13 := (by simpa using hc); omega
    refine GO ?_
    refine ret1 (v := .int .u16 (x.1.type : Int)) Tryd.results68 rfl ⟨?_, G⟩
    unfold typeOf
    rw [if_pos h0]
  · have h0 : k ≠ 13 := by have : ¬ (k : Int) = 13 := (by simpa using hc); omega
    refine GO ?_
    rw [hk]
    refine WL_indexArr vv vv h13 ?_
    refine WL_load vv h3 (types_at k h13) ?_
    refine GO ?_
    refine ret1 (v := .int .u16 (typesL.getD k 0 : Nat)) Tryd.results68 rfl ⟨?_, G⟩
    unfold typeOf
    rw [if_neg h0]
theorem spec_AskWire (w : World) (a : AskM) (ha : AskOk a) : Calls Tryd.prog 41 #[.agg (askCells a).toArray] w (RetB w (askWire a)) := by
  have := ha.type
  have := ha.cls
  refine calls_of_WC Tryd.func41 rfl Tryd.ntmps41 rfl ?_
  refine GO ?_
  refine WL_box vv ?_
  intro b1 w1 hb1 h1 g1
  refine GO ?_
  refine WC_seq (WC_draws (fun w' => w'.heap[b1]? = some (.cells (askCells a).toArray 90 (0, 0))) (by kernel_rfl) (fun w1 g => g.kept h1) ?_)
  intro w2 g2 hS2
  refine WT 0 ?_
  refine WT 1 ?_
  refine WT 3 ?_
  refine WT 4 ?_
  refine WT 6 ?_
  refine WT 7 ?_
  refine WD_one (c := 2) (by kernel_rfl) rfl ?_
  refine WL_fun rfl ((spec_Wire _ _ ha.name).mono ?_)
  rintro e w3 ⟨v3, rfl, a3, g3⟩
  refine ⟨_, rfl, ?_⟩
  refine WL_nil ⟨g3.kept hS2, ?_⟩
  refine WD_one (c := 5) (by kernel_rfl) rfl ?_
  refine WL_fun rfl ((spec_Two _ _ (by omega) (by omega)).mono ?_)
  rintro e w4 ⟨v4, rfl, a4, g4⟩
  refine ⟨_, rfl, ?_⟩
  refine WL_nil ⟨g4.kept (g3.kept hS2), ?_⟩
  refine WD_one (c := 8) (by kernel_rfl) rfl ?_
  refine WL_fun rfl ((spec_Two _ _ (by omega) (by omega)).mono ?_)
  rintro e w5 ⟨v5, rfl, a5, g5⟩
  refine ⟨_, rfl, ?_⟩
  refine WL_nil ⟨g5.kept (g4.kept (g3.kept hS2)), ?_⟩
  refine WD_one (c := 9) (by kernel_rfl) rfl ?_
  refine WL_parts [(v3, wire a.name), (v4, two a.type), (v5, two a.cls)] rfl (by simp) rfl rfl (by intro p hp; simp only [List.mem_cons, List.not_mem_nil, or_false] at hp; rcases hp with rfl | rfl | rfl; exact (a3.reads.grow g4).grow g5; exact a4.reads.grow g5; exact a5.reads) ?_
  intro b6 w6 hb6 p6 g6
  have hS6 := g6.kept (g5.kept (g4.kept (g3.kept hS2)))
  refine WL_nil ⟨hS6, ?_⟩
  have hl := wire_le a.name
  have hn := ha.name
  simp only [lim] at hn
  refine WD_one (c := 10) (by kernel_rfl) rfl ?_
  refine WL_fun rfl ((spec_Joined _ _ _ p6 (by simp) (by simp [two]; omega) (by intro p hp; simp only [List.mem_cons, List.not_mem_nil, or_false] at hp; rcases hp with rfl | rfl | rfl; (simp only; omega); (simp [two]); (simp [two]))).mono ?_)
  rintro e w7 ⟨v7, rfl, a7, g7⟩
  refine ⟨_, rfl, ?_⟩
  refine WL_nil ⟨g7.kept hS6, ?_⟩
  have hS7 := g7.kept hS6
  refine WT 11 ?_
  refine WD_done (by kernel_rfl) ?_
  refine GO ?_
  refine ret1 (v := v7) Tryd.results41 rfl ⟨_, rfl, ?_, g1.trans (g2.trans (g3.trans (g4.trans (g5.trans (g6.trans g7)))))⟩
  have := a7.mono' (B' := w.heap.size) (by have := g1.size; have := g2.size; have := g3.size; have := g4.size; have := g5.size; have := g6.size; omega)
  simpa [askWire] using this
/-! what is asked of a kind's body -/
def BodyC (k : Nat) : Prop := ∀ (w : World) (x : RecM × RecV), RecAt w x → x.1.kind = (k : Int) → (body k x.1).length ≤ 140737488355328 → Calls Tryd.prog 37 #[.agg (recCells x).toArray] w (RetB w (body k x.1))
def HostC (k : Nat) : Prop := ∀ (w : World) (x : RecM × RecV), RecAt w x → x.1.kind = (k : Int) → Calls Tryd.prog 61 #[.agg (recCells x).toArray] w (RetV w (.bool (hostOk k x.1)))
theorem spec_RecordWire {k : Nat} (hB : BodyC k) (h13 : k < 14) (w : World) (x : RecM × RecV) (hx : RecAt w x) (hk : x.1.kind = (k : Int)) (hb : (body k x.1).length < 65536) : Calls Tryd.prog 42 #[.agg (recCells x).toArray] w (RetB w (recWire k x.1)) := by
  have hok := hx.ok
  have := hok.cls
  have := hok.ttl
  have htype : typeOf k x.1 < 65536 := by
    unfold typeOf
    split
    · exact hok.type
    · have : ∀ j, j < 14 → typesL.getD j 0 < 65536 := by decide
      exact this k h13
  refine calls_of_WC Tryd.func42 rfl Tryd.ntmps42 rfl ?_
  refine GO ?_
  refine WL_box vv ?_
  intro b0 w0 hb0 h0 g0
  refine GO ?_
  refine WL_loadRow vv h0 rfl ?_
  refine WL_fun rfl ((hB _ _ (hx.grow g0) hk (by omega)).mono ?_)
  rintro e w1 ⟨v1, rfl, a1, g1⟩
  refine ⟨_, rfl, ?_⟩
  refine GO ?_
  obtain ⟨ao1, cap1, rfl⟩ := a1.reads.value
  refine WC_seq (WC_draws (fun w' => w'.heap[b0]? = some (.cells (recCells x).toArray 61 (0, 0))) (by kernel_rfl) (fun w1 g => g.kept (g1.kept h0)) ?_)
  intro w2 g2 hS2
  refine WT 0 ?_
  refine WT 1 ?_
  refine WD_take (i := 3) rfl rfl rfl rfl (by kernel_rfl) (by assumption) (fun w' hS => by exact Y_loadRow vv hS rfl) ?_
  refine WT 6 ?_
  refine WT 7 ?_
  refine WT 9 ?_
  refine WT 10 ?_
  refine WT 12 ?_
  refine WT 13 ?_
  refine WD_take (i := 14) rfl rfl rfl rfl (by kernel_rfl) (by assumption) (fun w' hS => by exact Y_conv (c := low (body k x.1).length) vv (by rw [wrap16]; unfold low; omega)) ?_
  refine WT 16 ?_
  refine WD_one (c := 2) (by kernel_rfl) rfl ?_
  refine WL_fun rfl ((spec_Wire _ _ hok.name).mono ?_)
  rintro e w3 ⟨v3, rfl, a3, g3⟩
  refine ⟨_, rfl, ?_⟩
  refine WL_nil ⟨g3.kept hS2, ?_⟩
  have hS3 := g3.kept hS2
  refine WD_one (c := 4) (by kernel_rfl) rfl ?_
  refine WL_fun rfl ((spec_TypeOf _ _ k hk h13).mono ?_)
  rintro e w4 ⟨rfl, g4⟩
  refine ⟨_, rfl, ?_⟩
  refine WL_nil ⟨g4.kept hS3, ?_⟩
  have hS4 := g4.kept hS3
  refine WD_one (c := 5) (by kernel_rfl) rfl ?_
  refine WL_fun rfl ((spec_Two _ _ (by omega) (by omega)).mono ?_)
  rintro e w5 ⟨v5, rfl, a5, g5⟩
  refine ⟨_, rfl, ?_⟩
  refine WL_nil ⟨g5.kept hS4, ?_⟩
  have hS5 := g5.kept hS4
  refine WD_one (c := 8) (by kernel_rfl) rfl ?_
  refine WL_fun rfl ((spec_Two _ _ (by omega) (by omega)).mono ?_)
  rintro e w6 ⟨v6, rfl, a6, g6⟩
  refine ⟨_, rfl, ?_⟩
  refine WL_nil ⟨g6.kept hS5, ?_⟩
  have hS6 := g6.kept hS5
  refine WD_one (c := 11) (by kernel_rfl) rfl ?_
  refine WL_fun rfl ((spec_Four _ _ (by omega) (by omega)).mono ?_)
  rintro e w7 ⟨v7, rfl, a7, g7⟩
  refine ⟨_, rfl, ?_⟩
  refine WL_nil ⟨g7.kept hS6, ?_⟩
  have hS7 := g7.kept hS6
  refine WD_one (c := 15) (by kernel_rfl) rfl ?_
  refine WL_fun rfl ((spec_Two _ _ (by unfold low; omega) (by unfold low; omega)).mono ?_)
  rintro e w8 ⟨v8, rfl, a8, g8⟩
  refine ⟨_, rfl, ?_⟩
  refine WL_nil ⟨g8.kept hS7, ?_⟩
  have hS8 := g8.kept hS7
  refine WD_one (c := 17) (by kernel_rfl) rfl ?_
  refine WL_parts [(v3, wire x.1.name), (v5, two (typeOf k x.1 : Nat)), (v6, two x.1.cls), (v7, four x.1.ttl), (v8, two (low (body k x.1).length)), (.slice ao1 (body k x.1).length cap1, body k x.1)] rfl (by simp) rfl rfl (by
    intro p hp; simp only [List.mem_cons, List.not_mem_nil, or_false] at hp; rcases hp with rfl | rfl | rfl | rfl | rfl | rfl
    · exact ((((a3.reads.grow g4).grow g5).grow g6).grow g7).grow g8
    · exact ((a5.reads.grow g6).grow g7).grow g8
    · exact (a6.reads.grow g7).grow g8
    · exact a7.reads.grow g8
    · exact a8.reads
    · exact ((((((a1.reads.grow g2).grow g3).grow g4).grow g5).grow g6).grow g7).grow g8) ?_
  intro b9 w9 hb9 p9 g9
  refine WL_nil ⟨g9.kept hS8, ?_⟩
  have hS9 := g9.kept hS8
  have hl := wire_le x.1.name
  have hn := hok.name
  simp only [lim] at hn
  refine WD_one (c := 18) (by kernel_rfl) rfl ?_
  refine WL_fun rfl ((spec_Joined _ _ _ p9 (by simp) (by simp [two, four]; omega) (by intro p hp; simp only [List.mem_cons, List.not_mem_nil, or_false] at hp; rcases hp with rfl | rfl | rfl | rfl | rfl | rfl; (simp only; omega); (simp [two]); (simp [two]); (simp [two, four]); (simp [two]); (simp only; omega))).mono ?_)
  rintro e w10 ⟨v10, rfl, a10, g10⟩
  refine ⟨_, rfl, ?_⟩
  refine WL_nil ⟨g10.kept hS9, ?_⟩
  have hS10 := g10.kept hS9
  refine WT 19 ?_
  refine WD_done (by kernel_rfl) ?_
  refine GO ?_
  refine ret1 (v := v10) Tryd.results42 rfl ⟨_, rfl, ?_, g0.trans (g1.trans (g2.trans (g3.trans (g4.trans (g5.trans (g6.trans (g7.trans (g8.trans (g9.trans g10)))))))))⟩
  have := a10.mono' (B' := w.heap.size) (by have := g0.size; have := g1.size; have := g2.size; have := g3.size; have := g4.size; have := g5.size; have := g6.size; have := g7.size; have := g8.size; have := g9.size; omega)
  simpa [recWire] using this
end Go.Proofs.YtgkhfpkfjajdjaaDoor
