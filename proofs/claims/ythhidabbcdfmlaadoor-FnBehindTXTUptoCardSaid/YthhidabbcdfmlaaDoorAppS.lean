/- The bytes of a string, appended to bytes of the call's own. -/
import Derived.Test.YthhidabbcdfmlaaDoorG3
import Derived.Lib.AppendStr
set_option linter.unusedVariables false
set_option linter.unusedSimpArgs false
namespace Go.Proofs.YthhidabbcdfmlaaDoor
open Go.RowKit Go.Lib
set_option maxHeartbeats 1000000
set_option maxRecDepth 100000

theorem strCells_bv (st : Bytes) : strCells ⟨st.toArray⟩ = bv st := by simp [strCells, bv]
/-- a new row of bytes, as an append leaves it that had no room -/
theorem own_new {w' : World} {e g cap : Nat} {xs : List Value} {cells : Array Value} (hg : w'.heap[g]? = some (.cells cells e (0, 0))) {n : Nat} (hn : xs.length = n) (hc : n ≤ cap) (hm : cap ≤ maxLen) (hs : cells.size = cap) (ht : cells.toList.take n = xs) : w'.ownsRow 0 e 1 (.slice (some ⟨g, 0, none⟩) n cap) n xs :=
  ⟨by omega, .inr ⟨g, cap, cells, rfl, Nat.zero_le _, hg, hc, hm, by omega, by simpa using ht⟩⟩
theorem run_appendS {P : Program} (w : World) (t u ty e : TypeId) (i : TypeInfo) (ht : P.underlying t = some (.slice e)) (hu : P.underlying u = some .string) (hi : P.info? e = some i) (hz : i.zero = some (.int .u8 0)) (hsize : i.size = 1) (hby : i.bytes = 1)
    (v : Value) (n : Nat) (xs : List Value) (hown : w.ownsRow 0 e 1 v n xs) (s : ByteArray) (hlen : n + s.size ≤ 200000000000000) (hs : s.size ≤ 140737488355328) :
    ∃ v' w', (Builtin.append_ #[t, u] ty #[v, .string s]).run P w = .ok v' w' ∧ Grew w e 1 v n xs w' v' (n + s.size) (xs ++ strCells s) := by
  have hxl : xs.length = n := by simpa using hown.1
  have hal : (xs ++ strCells s).length = n + s.size := by rw [List.length_append, hxl, strCells_length]
  by_cases hw : n + s.size ≤ 140737488355328
  · obtain ⟨v', w', hr, h2, h3, _⟩ := run_append_own_string (P := P) w 0 t u ty e i ht hu hi hz hsize hby v n xs hown s (by simp only [maxLen]; omega) hw (Nat.zero_le _)
    rcases hown.2 with ⟨rfl, rfl⟩ | ⟨g, cap, cur, rfl, _, hg, hnc, hcm, hcs, htake⟩
    · obtain rfl : xs = [] := List.eq_nil_of_length_eq_zero hxl
      by_cases hm : s.size = 0
      · have hn : strCells s = [] := List.eq_nil_of_length_eq_zero (by rw [strCells_length]; exact hm)
        have hf := run_firstCells_string (P := P) w 1 s
        rw [hm] at hf
        refine ⟨.slice none 0 0, w, ?_, ?_⟩
        · simp [Builtin.append_, run_underlying ht, run_underlying hu, sizeOf, typeInfo, hi, hsize, Builtin.lenOf, hm, hf]
        · rw [hm, hn, List.append_nil]
          exact Grew.refl hown
      · have hr' := run_append_nil_string (P := P) w t u ty e i (.int .u8 0) ht hu hi hz s (by omega) (by omega) (by rw [hby]; omega)
        rw [hr'] at hr
        simp only [Result.ok.injEq] at hr
        obtain ⟨rfl, rfl⟩ := hr
        exact ⟨_, _, hr', hown, h2, ⟨hown.1, .inl ⟨rfl, rfl⟩⟩, h3, .inr ⟨w.heap.size, Nat.le_refl _, rfl⟩⟩
    · have hcs' : cur.size = cap := by simpa using hcs
      by_cases hroom : n + s.size ≤ cap
      · have hr' := run_append_room_string (P := P) w t u ty e i ht hu hi hsize g n cap cur hg s hroom (by omega)
        rw [hr'] at hr
        simp only [Result.ok.injEq] at hr
        obtain ⟨rfl, rfl⟩ := hr
        have hhp := setRow_heap w g cur (cur.toList.take n ++ strCells s ++ cur.toList.drop (n + s.size)).toArray e _ hg
        have ht' : cur.toList.take n = xs := by simpa using htake
        refine ⟨_, _, hr', hown, h2, own_new hhp hxl hnc hcm ?_ ?_, h3, .inl rfl⟩
        · simp only [List.size_toArray, List.length_append, List.length_take, List.length_drop, Array.length_toList, strCells_length]
          omega
        · rw [ht', List.append_assoc, ← hxl]
          exact List.take_left
      · have hr' := run_append_grow_string (P := P) w t u ty e i (.int .u8 0) ht hu hi hz ⟨g, 0, none⟩ n cap xs (by rw [hsize]; simpa using hxl) (hown.cells (g := g) rfl) s (by omega) (by omega) (by rw [hby]; exact growslice_fits (by omega) (by omega))
        rw [hr'] at hr
        simp only [Result.ok.injEq] at hr
        obtain ⟨rfl, rfl⟩ := hr
        exact ⟨_, _, hr', hown, h2, World.ownsRow.alloc (w := w.drew) hown _, h3, .inr ⟨w.heap.size, Nat.le_refl _, rfl⟩⟩
  · rcases hown.2 with ⟨rfl, rfl⟩ | ⟨g, cap, cur, rfl, _, hg, hnc, hcm, hcs, htake⟩
    · omega
    · have hcs' : cur.size = cap := by simpa using hcs
      by_cases hroom : n + s.size ≤ cap
      · have hr' := run_append_room_string (P := P) w t u ty e i ht hu hi hsize g n cap cur hg s hroom (by omega)
        have hhp := setRow_heap w g cur (cur.toList.take n ++ strCells s ++ cur.toList.drop (n + s.size)).toArray e _ hg
        have ht' : cur.toList.take n = xs := by simpa using htake
        have hsz : (cur.toList.take n ++ strCells s ++ cur.toList.drop (n + s.size)).toArray.size = cap := by
          simp only [List.size_toArray, List.length_append, List.length_take, List.length_drop, Array.length_toList, strCells_length]
          omega
        refine ⟨_, _, hr', hown, own_new hhp hal hroom hcm hsz ?_, own_new hhp hxl hnc hcm hsz ?_, ⟨rfl, rfl, rfl, by simp, fun k _ hk => setRow_other w g k _ (fun e => hk (by simp [Value.ownBlock, e]))⟩, .inl rfl⟩
        · rw [ht', ← hal]
          exact List.take_left
        · rw [ht', List.append_assoc, ← hxl]
          exact List.take_left
      · have hr' := run_append_grow_string (P := P) w t u ty e i (.int .u8 0) ht hu hi hz ⟨g, 0, none⟩ n cap xs (by rw [hsize]; simpa using hxl) (hown.cells (g := g) rfl) s (by omega) (by omega) (by rw [hby]; exact growslice_fits_wide (by omega) (by omega))
        have hge := grownCap_ge w (n + s.size) cap e
        have hcm' : grownCap w (n + s.size) cap e ≤ maxLen := grownCap_le_maxLen w (n + s.size) cap e (by simp only [maxLen]; omega)
        refine ⟨_, _, hr', hown, own_new (heap_alloc_new w.drew _) hal hge hcm' ?_ ?_, World.ownsRow.alloc (w := w.drew) hown _, ⟨rfl, rfl, rfl, by simp, fun k hk _ => heap_alloc_old w.drew _ hk⟩, .inr ⟨w.heap.size, Nat.le_refl _, rfl⟩⟩
        · have hz1 : (Value.int IntKind.u8 0).cells.size = 1 := rfl
          simp only [Array.size_append, List.size_toArray, size_zeroCells, hz1, hxl, strCells_length]
          omega
        · simp only [Array.toList_append, List.append_assoc]
          rw [← List.append_assoc, ← hal]
          exact List.take_left
theorem WL_appendS {n : Nat} {f : Env} {w : World} {ops : Array Oper} {K : Env → World → Prop} {rest : List Oper} {d : Nat} {ty : TypeId} {pos : String} {af : Array Edge} {s x : Operand} {v : Value} {bs st : Bytes} (hs : ev f s = v) (hown : Own w v bs) (hx : ev f x = strOf st) (hlen : bs.length + st.length ≤ 200000000000000) (hst : st.length ≤ 140737488355328)
    (h : ∀ v' w', GrewB w v bs w' v' (bs ++ st) → WL n Tryd.prog ops K rest (upd f d v') w') (hn : Nat.blt d n = true := by rfl) : WL n Tryd.prog ops K (⟨some d, .call ⟨.builtin .append, #[s, x], #[22, 9]⟩, ty, pos, af, none⟩ :: rest) f w := by
  obtain ⟨i0, hi, hz0, hz1, hz2⟩ := info_parts infoU8
  have hsz : (⟨st.toArray⟩ : ByteArray).size = st.length := rfl
  obtain ⟨v', w', hr, hg⟩ := run_appendS (P := Tryd.prog) w 22 9 ty 5 i0 Tryd.underlying22 Tryd.underlying9 hi hz0 hz1 hz2 v bs.length (bv bs) hown ⟨st.toArray⟩ (by rw [hsz]; exact hlen) (by rw [hsz]; exact hst)
  refine WL_val rfl rfl hn ?_ (h v' w' ?_)
  · simp only [execOp, resolve, invoke, builtin, Sem.run_bind, Sem.run_pure, Result.andThen_ok, List.map_toArray, List.map_cons, List.map_nil, hs, hx, hr]
  · unfold GrewB
    rw [List.length_append, bv_append, ← strCells_bv, ← hsz]
    exact hg
end Go.Proofs.YthhidabbcdfmlaaDoor
