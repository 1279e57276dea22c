/- Bytes that are made, and bytes that are copied. -/
import Derived.Test.YtgkhfpkfjajdjaaDoorG3
import Derived.Test.YtgkhfpkfjajdjaaDoorG5
import Derived.Laws.CopyRow
import Derived.Laws.OwnMore
set_option linter.unusedVariables false
set_option linter.unusedSimpArgs false
namespace Go.Proofs.YtgkhfpkfjajdjaaDoor
open Go.RowKit
set_option maxHeartbeats 1000000
set_option maxRecDepth 100000

theorem row_ne {w : World} {b g : Nat} {cs cs' : Array Value} {t t' : TypeId} {fr fr' : Nat × Nat} (h1 : w.heap[b]? = some (.cells cs t fr)) (h2 : w.heap[g]? = some (.cells cs' t' fr')) (h : t ≠ t') : b ≠ g := fun e => by
  subst e
  rw [h1] at h2
  simp only [Option.some.injEq, Obj.cells.injEq] at h2
  exact h h2.2.1
section
variable {n : Nat} {f : Env} {w : World} {ops : Array Oper} {K : Env → World → Prop} {rest : List Oper} {d : Nat} {ty : TypeId} {pos : String} {af : Array Edge}
theorem WL_makeB {x : Operand} {k : Nat} (hx : ev f x = .int .i64 (k : Int)) (hk : k ≤ 140737488355328)
    (h : ∀ b w', w.heap.size ≤ b → w'.heap[b]? = some (.cells (List.replicate k (Value.int .u8 0)).toArray 5 (0, 0)) → Grows w w' → WL n Tryd.prog ops K rest (upd f d (.slice (some ⟨b, 0, none⟩) k k)) w') (hn : Nat.blt d n = true := by rfl) :
    WL n Tryd.prog ops K (⟨some d, .makeSlice 26 x x, ty, pos, af, none⟩ :: rest) f w := by
  obtain ⟨i0, hi, hz0, hz1, hz2⟩ := info_parts infoU8
  have hr := run_make (P := Tryd.prog) w 26 5 i0 (.int .u8 0) Tryd.underlying26 hi hz0 .i64 .i64 (k : Int) (k : Int) (by omega) (Int.le_refl _) (by rw [hz2]; omega) (by omega)
  rw [hz1] at hr
  simp only [Int.toNat_natCast, Nat.mul_one] at hr
  have hm : madeCells (Value.int .u8 0).cells k = (List.replicate k (Value.int .u8 0)).toArray := by
    apply Array.toList_inj.1
    exact toList_madeCells_one _ _
  rw [hm] at hr
  refine WL_val rfl rfl hn ?_ (h _ _ (Nat.le_refl _) (heap_alloc_new w _) ((Grows.refl w).alloc _))
  show (do pure (Next.value (← Instr.makeSlice 26 (ev f x) (ev f x))) : Sem Next).run Tryd.prog w = _
  rw [hx]
  exact run_v hr
theorem WL_copyB {x y : Operand} {b o dl dc : Nat} {v : Value} {bs : Bytes} {cur : Array Value} {tb : TypeId} (hx : ev f x = .slice (some ⟨b, o, none⟩) dl dc) (hy : ev f y = v) (hr : BytesAt w v bs) (hb : w.heap[b]? = some (.cells cur tb (0, 0))) (hfit : o + dl ≤ cur.size)
    (h : ∀ u w', Wrote b w w' → w'.heap[b]? = some (.cells (cur.toList.take o ++ bv (bs.take dl) ++ cur.toList.drop (o + (bs.take dl).length)).toArray tb (0, 0)) → WL n Tryd.prog ops K rest (upd f d u) w') (hn : Nat.blt d n = true := by rfl) :
    WL n Tryd.prog ops K (⟨some d, .call ⟨.builtin .copy, #[x, y], #[26, 26]⟩, ty, pos, af, none⟩ :: rest) f w := by
  have hlen : (bs.take dl).length = Nat.min bs.length dl := by rw [List.length_take]; exact Nat.min_comm _ _
  have hle : (bs.take dl).length ≤ dl := by rw [List.length_take]; exact Nat.min_le_left _ _
  obtain ⟨_, ao, cap, rfl, hz, hc⟩ := hr
  cases ao with
  | none =>
    obtain ⟨h0, rfl⟩ := hz rfl
    have hbs : bs = [] := List.eq_nil_of_length_eq_zero h0
    subst hbs
    have hrun := run_copy_nil (P := Tryd.prog) w 26 26 ty 5 ⟨b, o, none⟩ dl dc Tryd.underlying26 (by kernel_rfl)
    refine WL_val rfl rfl hn ?_ (h (goInt 0) w (Chg.refl _ _) (by simpa [bv] using hb))
    simp [execOp, resolve, hx, hy, invoke, builtin, hrun]
  | some a =>
    have hrun := run_copy_row (P := Tryd.prog) w 26 26 ty 5 b o dl dc a bs.length cap cur tb (bv (bs.take dl)) Tryd.underlying26 (by kernel_rfl) hb (by rw [bv_length, hlen]) (fun j x hj => by
      have hjl := (List.getElem?_eq_some_iff.1 hj).1
      rw [bv_length] at hjl
      have : (bv bs)[j]? = some x := by
        unfold bv at hj ⊢
        rw [List.getElem?_map, List.getElem?_take_of_lt (by omega)] at hj
        rw [List.getElem?_map]
        exact hj
      obtain ⟨a', ha, hx'⟩ := hc j x this
      cases ha
      exact hx') (by rw [bv_length]; omega) (by
      intro u hu
      simp only [bv, List.mem_map] at hu
      obtain ⟨q, _, rfl⟩ := hu
      rfl)
    refine WL_val rfl rfl hn ?_ (h (goInt (bv (bs.take dl)).length) (w.setRow b (cur.toList.take o ++ bv (bs.take dl) ++ cur.toList.drop (o + (bv (bs.take dl)).length)).toArray) (wrote_setRow w b _) ?_)
    · simp [execOp, resolve, hx, hy, invoke, builtin, hrun]
    · rw [setRow_heap w b cur _ tb _ hb, bv_length]
end
end Go.Proofs.YtgkhfpkfjajdjaaDoor
