/- The reference's fixed: so many bytes. -/
import Derived.Test.YtcbjfjifnnpfpaaDoorCopy
import Derived.Test.YtcbjfjifnnpfpaaDoorG9
set_option linter.unusedVariables false
set_option linter.unusedSimpArgs false
namespace Go.Proofs.YtcbjfjifnnpfpaaDoor
open Go.RowKit
set_option maxHeartbeats 1000000
set_option maxRecDepth 100000

theorem fixedB_length (d : Bytes) (n : Nat) : (fixedB d n).length = n := by
  unfold fixedB
  rw [List.length_append, List.length_take, List.length_replicate]
  omega
theorem fixed_cells (d : Bytes) (n : Nat) : ((List.replicate n (Value.int .u8 0)).take 0 ++ bv (d.take n) ++ (List.replicate n (Value.int .u8 0)).drop (0 + (d.take n).length)) = bv (fixedB d n) := by
  unfold fixedB
  rw [List.take_zero, List.nil_append, Nat.zero_add, List.drop_replicate, bv_append, List.length_take]
  congr 1
  rw [show n - min n d.length = n - d.length by omega]
  simp [bv, List.map_replicate]
theorem spec_fixed (w : World) (v : Value) (d : Bytes) (n : Nat) (h : BytesAt w v d) (hn : n ≤ 1000) : Calls Tryd.prog 77 #[v, .int .i64 (n : Int)] w (RetB w (fixedB d n)) := by
  obtain ⟨ao, cap, rfl⟩ := ReadsAt.value h
  refine calls_of_WC Tryd.func77 rfl Tryd.ntmps77 rfl ?_
  refine GO ?_
  refine WL_makeB vv (by omega) ?_
  intro b w1 hb h1 g1
  refine GO ?_
  refine WL_copyB vv vv (BytesAt.grow h g1) h1 (by simp) ?_
  intro u w2 hw2 h2
  refine GO ?_
  rw [List.toList_toArray, fixed_cells] at h2
  exact ret1 (v := .slice (some ⟨b, 0, none⟩) n n) Tryd.results77 rfl ⟨_, rfl, accB_cells h2 (by simp) (fixedB_length d n).symm (by simp only [maxLen]; omega) hb, g1.wrote hw2 hb⟩
end Go.Proofs.YtcbjfjifnnpfpaaDoor
