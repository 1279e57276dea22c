/- The reference's reader: bytes and numbers are taken. -/
import Derived.Test.YtfoinoegabcigaaDoorG9
import Derived.Test.YtfoinoegabcigaaDoorG14
set_option linter.unusedVariables false
set_option linter.unusedSimpArgs false
namespace Go.Proofs.YtfoinoegabcigaaDoor
open Go.RowKit
set_option maxHeartbeats 2000000
set_option maxRecDepth 100000

theorem addr_plus (a : Addr) (p q : Nat) : (a.add p).add q = a.add (p + q) := by
  unfold Addr.add
  by_cases hp : p = 0
  · subst hp; simp
  · by_cases hq : q = 0
    · subst hq; simp [hp]
    · simp [hp, hq, Nat.add_assoc]
/-- what is read: bytes that lay there before the reader was made -/
structure SrcAt (w0 : World) (bv : Value) (F : Bytes) : Prop where
  bytes : BytesAt w0 bv F
  cap : ∃ ao cap, bv = .slice ao F.length cap ∧ F.length ≤ cap
  len : F.length ≤ 140737488355328
theorem sub_bytes {w : World} {ao : Option Addr} {cap : Nat} {F : Bytes} (h : BytesAt w (.slice ao F.length cap) F) (hc : F.length ≤ cap) {l n : Nat} (hn : l + n ≤ F.length) : BytesAt w (.slice (if cap = l then ao else ao.map (·.add (l * 1))) (l + n - l) (cap - l)) ((F.drop l).take n) := by
  have hlen : ((F.drop l).take n).length = n := by rw [List.length_take, List.length_drop]; omega
  unfold BytesAt
  obtain ⟨h1, ao', cap', hv, hz, hcell⟩ := h
  simp only [Value.slice.injEq] at hv
  obtain ⟨rfl, _, rfl⟩ := hv
  rw [hlen, show l + n - l = n by omega]
  refine ⟨by rw [bv_length, hlen, Nat.mul_one], _, _, rfl, ?_, ?_⟩
  · intro e
    by_cases hcl : cap = l
    · rw [if_pos hcl] at e
      have := hz e
      omega
    · rw [if_neg hcl] at e
      have := hz (by simpa using e)
      omega
  · intro j x hj
    have hjl := (List.getElem?_eq_some_iff.1 hj).1
    rw [bv_length, hlen] at hjl
    have hj2 : (bv F)[l + j]? = some x := by
      have : (bv ((F.drop l).take n))[j]? = (bv F)[l + j]? := by
        unfold bv
        rw [List.getElem?_map, List.getElem?_map, List.getElem?_take_of_lt hjl, List.getElem?_drop]
      rw [← this]; exact hj
    obtain ⟨a, ha, hx⟩ := hcell _ _ hj2
    subst ha
    have hcl : ¬ cap = l := by omega
    rw [if_neg hcl]
    refine ⟨a.add (l * 1), rfl, ?_⟩
    rw [addr_plus, Nat.mul_one]
    exact hx
section
variable {n : Nat} {P : Program} {f : Env} {w : World} {d : Option Nat} {ty : TypeId} {pos : String} {af : Array Edge} {gd : Option (Nat × Bool)}
theorem Y_sliceSl {t e : TypeId} {x lo hi : Operand} {ao : Option Addr} {len cap l h : Nat} {kl kh : IntKind} [ht : TySl P t e 1] (hx : ev f x = .slice ao len cap) (hl : ev f lo = .int kl (l : Int)) (hh : ev f hi = .int kh (h : Int)) (h1 : l ≤ h) (h2 : h ≤ cap) :
    (execOp (ev f) ⟨d, .slice t x (some lo) (some hi) none, ty, pos, af, gd⟩).run P w = .ok (.value (.slice (if cap = l then ao else ao.map (·.add (l * 1))) (h - l) (cap - l))) w := by
  simp [execOp, hx, hl, hh, Instr.sliceAt, Instr.slice, run_underlying ht.u, Instr.sliceBounds, Instr.sliceBound, asIntOf, h1, h2, runSize w ht.s]
end
/-- the reader in its block -/
structure RdrAt (w0 w : World) (g : Nat) (bv : Value) (F : Bytes) (p : Nat) (whole : Bool) : Prop where
  at_ : w.heap[g]? = some (.cells #[bv, .int .i64 (p : Int), .bool false, .bool whole] 134 (0, 0))
  grows : Grows w0 w
  base : w0.heap.size ≤ g
  src : SrcAt w0 bv F
  le : p ≤ F.length
theorem RdrAt.to {w0 w w' : World} {g : Nat} {bv : Value} {F : Bytes} {p p' : Nat} {wh wh' : Bool} (h : RdrAt w0 w g bv F p wh) (hc : Chg (· = g) w w') (ha : w'.heap[g]? = some (.cells #[bv, .int .i64 (p' : Int), .bool false, .bool wh'] 134 (0, 0))) (hp : p' ≤ F.length) : RdrAt w0 w' g bv F p' wh' :=
  ⟨ha, Below.trans h.grows (hc.below h.grows.size (fun k hk => by rw [hk]; exact h.base)), h.base, h.src, hp⟩
theorem RdrAt.grow {w0 w w' : World} {g : Nat} {bv : Value} {F : Bytes} {p : Nat} {wh : Bool} (h : RdrAt w0 w g bv F p wh) (hg : Grows w w') : RdrAt w0 w' g bv F p wh := ⟨hg.kept h.at_, h.grows.trans hg, h.base, h.src, h.le⟩
/-- what a reader's method leaves -/
def RdrP (w0 w : World) (g : Nat) (bv : Value) (F : Bytes) (p' : Nat) (wh' : Bool) (w' : World) : Prop := RdrAt w0 w' g bv F p' wh' ∧ Chg (· = g) w w'
theorem reader_take (w0 w : World) (g : Nat) (bv : Value) (F : Bytes) (p : Nat) (wh : Bool) (n : Nat) (h : RdrAt w0 w g bv F p wh) (hn : p + n ≤ F.length) :
    Calls Tryd.prog 71 #[.pointer (some ⟨g, 0, none⟩), .int .i64 (n : Int)] w fun e w' => ∃ v, e = .returned v ∧ BytesAt w0 v ((F.drop p).take n) ∧ RdrP w0 w g bv F (p + n) wh w' := by
  obtain ⟨ao, cap, hbv, hcap⟩ := h.src.cap
  have hlen := h.src.len
  have hat := h.at_
  have hle := h.le
  subst hbv
  refine calls_of_WC Tryd.func71 rfl Tryd.ntmps71 rfl ?_
  refine GO ?_
  refine WC_cut (fun f w' => EnvHas f [(0, .pointer (some ⟨g, 0, none⟩)), (1, .int .i64 (n : Int)), (26, .bool false)] ∧ Grows w w') ?_ ?_
  · refine WC_draws (fun w' => w'.heap[g]? = some (.cells #[.slice ao F.length cap, .int .i64 (p : Int), .bool false, .bool wh] 134 (0, 0))) (by kernel_rfl) (fun w1 g => g.kept hat) ?_
    intro wa ga hS
    refine WT 0 ?_
    refine WT 1 ?_
    refine WT 2 ?_
    refine WT 3 ?_
    refine WT 4 ?_
    refine WD_takeG (i := 5) (c := false) rfl rfl rfl rfl vv rfl rfl (by kernel_rfl) (by assumption) (fun _ w' hS => by first | exact Y_move vv | exact Y_assign vv | exact Y_nilCheck vv | exact Y_field vv | exact Y_load vv (by first | assumption | exact hS | exact hS.1 | exact hS.2 | exact hS.2.1 | exact hS.2.2) (by rfl) | exact Y_extract vv (by rfl) | exact Y_len vv | exact Y_lss vv vv | exact Y_leq vv vv | exact Y_gtr vv vv | exact Y_geq vv vv | exact Y_eql vv vv | exact Y_neq vv vv | exact Y_pick vv vv vv | exact Y_not vv) (fun h => absurd rfl h) ?_
    refine WD_takeG (i := 6) (c := false) rfl rfl rfl rfl vv rfl rfl (by kernel_rfl) (by assumption) (fun _ w' hS => by first | exact Y_move vv | exact Y_assign vv | exact Y_nilCheck vv | exact Y_field vv | exact Y_load vv (by first | assumption | exact hS | exact hS.1 | exact hS.2 | exact hS.2.1 | exact hS.2.2) (by rfl) | exact Y_extract vv (by rfl) | exact Y_len vv | exact Y_lss vv vv | exact Y_leq vv vv | exact Y_gtr vv vv | exact Y_geq vv vv | exact Y_eql vv vv | exact Y_neq vv vv | exact Y_pick vv vv vv | exact Y_not vv) (fun h => absurd rfl h) ?_
    rw [show decide ((n : Int) < 0) = false from decide_eq_false (by omega)]
    refine WT 7 ?_
    refine WT 8 ?_
    refine WD_takeG (i := 9) (c := false) rfl rfl rfl rfl vv rfl rfl (by kernel_rfl) (by assumption) (fun _ w' hS => by first | exact Y_move vv | exact Y_assign vv | exact Y_nilCheck vv | exact Y_field vv | exact Y_load vv (by first | assumption | exact hS | exact hS.1 | exact hS.2 | exact hS.2.1 | exact hS.2.2) (by rfl) | exact Y_extract vv (by rfl) | exact Y_len vv | exact Y_lss vv vv | exact Y_leq vv vv | exact Y_gtr vv vv | exact Y_geq vv vv | exact Y_eql vv vv | exact Y_neq vv vv | exact Y_pick vv vv vv | exact Y_not vv) (fun h => absurd rfl h) ?_
    refine WD_takeG (i := 10) (c := false) rfl rfl rfl rfl vv rfl rfl (by kernel_rfl) (by assumption) (fun _ w' hS => by first | exact Y_move vv | exact Y_assign vv | exact Y_nilCheck vv | exact Y_field vv | exact Y_load vv (by first | assumption | exact hS | exact hS.1 | exact hS.2 | exact hS.2.1 | exact hS.2.2) (by rfl) | exact Y_extract vv (by rfl) | exact Y_len vv | exact Y_lss vv vv | exact Y_leq vv vv | exact Y_gtr vv vv | exact Y_geq vv vv | exact Y_eql vv vv | exact Y_neq vv vv | exact Y_pick vv vv vv | exact Y_not vv) (fun h => absurd rfl h) ?_
    refine WD_takeG (i := 11) (c := false) rfl rfl rfl rfl vv rfl rfl (by kernel_rfl) (by assumption) (fun _ w' hS => by first | exact Y_move vv | exact Y_assign vv | exact Y_nilCheck vv | exact Y_field vv | exact Y_load vv (by first | assumption | exact hS | exact hS.1 | exact hS.2 | exact hS.2.1 | exact hS.2.2) (by rfl) | exact Y_extract vv (by rfl) | exact Y_len vv | exact Y_lss vv vv | exact Y_leq vv vv | exact Y_gtr vv vv | exact Y_geq vv vv | exact Y_eql vv vv | exact Y_neq vv vv | exact Y_pick vv vv vv | exact Y_not vv) (fun h => absurd rfl h) ?_
    refine WD_takeG (i := 12) (c := false) rfl rfl rfl rfl vv rfl rfl (by kernel_rfl) (by assumption) (fun _ w' hS => by first | exact Y_move vv | exact Y_assign vv | exact Y_nilCheck vv | exact Y_field vv | exact Y_load vv (by first | assumption | exact hS | exact hS.1 | exact hS.2 | exact hS.2.1 | exact hS.2.2) (by rfl) | exact Y_extract vv (by rfl) | exact Y_len vv | exact Y_lss vv vv | exact Y_leq vv vv | exact Y_gtr vv vv | exact Y_geq vv vv | exact Y_eql vv vv | exact Y_neq vv vv | exact Y_pick vv vv vv | exact Y_not vv) (fun h => absurd rfl h) ?_
    refine WD_takeG (i := 13) (c := false) rfl rfl rfl rfl vv rfl rfl (by kernel_rfl) (by assumption) (fun _ w' hS => by first | exact Y_move vv | exact Y_assign vv | exact Y_nilCheck vv | exact Y_field vv | exact Y_load vv (by first | assumption | exact hS | exact hS.1 | exact hS.2 | exact hS.2.1 | exact hS.2.2) (by rfl) | exact Y_extract vv (by rfl) | exact Y_len vv | exact Y_lss vv vv | exact Y_leq vv vv | exact Y_gtr vv vv | exact Y_geq vv vv | exact Y_eql vv vv | exact Y_neq vv vv | exact Y_pick vv vv vv | exact Y_not vv) (fun h => absurd rfl h) ?_
    refine WD_takeG (i := 14) (c := false) rfl rfl rfl rfl vv rfl rfl (by kernel_rfl) (by assumption) (fun _ w' hS => by first | exact Y_move vv | exact Y_assign vv | exact Y_nilCheck vv | exact Y_field vv | exact Y_load vv (by first | assumption | exact hS | exact hS.1 | exact hS.2 | exact hS.2.1 | exact hS.2.2) (by rfl) | exact Y_extract vv (by rfl) | exact Y_len vv | exact Y_lss vv vv | exact Y_leq vv vv | exact Y_gtr vv vv | exact Y_geq vv vv | exact Y_eql vv vv | exact Y_neq vv vv | exact Y_pick vv vv vv | exact Y_not vv) (fun h => absurd rfl h) ?_
    refine WD_takeG (i := 15) (c := false) rfl rfl rfl rfl vv rfl rfl (by kernel_rfl) (by assumption) (fun _ w' hS => by first | exact Y_move vv | exact Y_assign vv | exact Y_nilCheck vv | exact Y_field vv | exact Y_load vv (by first | assumption | exact hS | exact hS.1 | exact hS.2 | exact hS.2.1 | exact hS.2.2) (by rfl) | exact Y_extract vv (by rfl) | exact Y_len vv | exact Y_lss vv vv | exact Y_leq vv vv | exact Y_gtr vv vv | exact Y_geq vv vv | exact Y_eql vv vv | exact Y_neq vv vv | exact Y_pick vv vv vv | exact Y_not vv) (fun h => absurd rfl h) ?_
    refine WD_takeG (i := 16) (c := false) rfl rfl rfl rfl vv rfl rfl (by kernel_rfl) (by assumption) (fun _ w' hS => by first | exact Y_move vv | exact Y_assign vv | exact Y_nilCheck vv | exact Y_field vv | exact Y_load vv (by first | assumption | exact hS | exact hS.1 | exact hS.2 | exact hS.2.1 | exact hS.2.2) (by rfl) | exact Y_extract vv (by rfl) | exact Y_len vv | exact Y_lss vv vv | exact Y_leq vv vv | exact Y_gtr vv vv | exact Y_geq vv vv | exact Y_eql vv vv | exact Y_neq vv vv | exact Y_pick vv vv vv | exact Y_not vv) (fun h => absurd rfl h) ?_
    refine WD_takeG (i := 17) (c := false) rfl rfl rfl rfl vv rfl rfl (by kernel_rfl) (by assumption) (fun _ w' hS => by first | exact Y_move vv | exact Y_assign vv | exact Y_nilCheck vv | exact Y_field vv | exact Y_load vv (by first | assumption | exact hS | exact hS.1 | exact hS.2 | exact hS.2.1 | exact hS.2.2) (by rfl) | exact Y_extract vv (by rfl) | exact Y_len vv | exact Y_lss vv vv | exact Y_leq vv vv | exact Y_gtr vv vv | exact Y_geq vv vv | exact Y_eql vv vv | exact Y_neq vv vv | exact Y_pick vv vv vv | exact Y_not vv) (fun h => absurd rfl h) ?_
    refine WD_takeG (i := 18) (c := false) rfl rfl rfl rfl vv rfl rfl (by kernel_rfl) (by assumption) (fun _ w' hS => by first | exact Y_move vv | exact Y_assign vv | exact Y_nilCheck vv | exact Y_field vv | exact Y_load vv (by first | assumption | exact hS | exact hS.1 | exact hS.2 | exact hS.2.1 | exact hS.2.2) (by rfl) | exact Y_extract vv (by rfl) | exact Y_len vv | exact Y_lss vv vv | exact Y_leq vv vv | exact Y_gtr vv vv | exact Y_geq vv vv | exact Y_eql vv vv | exact Y_neq vv vv | exact Y_pick vv vv vv | exact Y_not vv) (fun h => absurd rfl h) ?_
    refine WD_takeG (i := 19) (c := false) rfl rfl rfl rfl vv rfl rfl (by kernel_rfl) (by assumption) (fun _ w' hS => by exact Y_sub (c := ((F.length - p : Nat) : Int)) vv vv (by rw [IntWalk.i64_in _ (by omega)]; omega)) (fun h => absurd rfl h) ?_
    refine WD_takeG (i := 20) (c := false) rfl rfl rfl rfl vv rfl rfl (by kernel_rfl) (by assumption) (fun _ w' hS => by first | exact Y_move vv | exact Y_assign vv | exact Y_nilCheck vv | exact Y_field vv | exact Y_load vv (by first | assumption | exact hS | exact hS.1 | exact hS.2 | exact hS.2.1 | exact hS.2.2) (by rfl) | exact Y_extract vv (by rfl) | exact Y_len vv | exact Y_lss vv vv | exact Y_leq vv vv | exact Y_gtr vv vv | exact Y_geq vv vv | exact Y_eql vv vv | exact Y_neq vv vv | exact Y_pick vv vv vv | exact Y_not vv) (fun h => absurd rfl h) ?_
    rw [show decide (((F.length - p : Nat) : Int) < (n : Int)) = false from decide_eq_false (by omega)]
    refine WT 21 ?_
    refine WD_done (by kernel_rfl) ?_
    exact then_norm ⟨⟨rfl, rfl, rfl, trivial⟩, ga⟩
  rintro f2 w2 ⟨he, g2⟩
  obtain ⟨f, rfl⟩ := he.form
  have hat2 := g2.kept hat
  refine RUN ?_
  refine WL_add (c := ((p + n : Nat) : Int)) vv vv (by rw [IntWalk.i64_in _ (by omega)]; omega) ?_
  refine GO ?_
  refine WL_store1 vv vv hat2 (by simp) rfl ?_
  intro w3 hw3 h3
  have h3' : w3.heap[g]? = some (.cells #[.slice ao F.length cap, .int .i64 ((p + n : Nat) : Int), .bool false, .bool wh] 134 (0, 0)) := h3
  refine GO ?_
  refine WC_seq (WC_draws (fun w' => w'.heap[g]? = some (.cells #[.slice ao F.length cap, .int .i64 ((p + n : Nat) : Int), .bool false, .bool wh] 134 (0, 0))) (by kernel_rfl) (fun w1 g => g.kept h3') ?_)
  intro w4 g4 hS
  refine WT 0 ?_
  refine WT 1 ?_
  refine WT 2 ?_
  refine WT 3 ?_
  refine WT 4 ?_
  refine WT 5 ?_
  refine WT 6 ?_
  refine WT 7 ?_
  refine WT 8 ?_
  refine WD_take (i := 9) rfl rfl rfl rfl (by kernel_rfl) (by assumption) (fun w' hS => by exact Y_sub (c := (p : Int)) vv vv (by rw [IntWalk.i64_in _ (by omega)]; omega)) ?_
  refine WT 10 ?_
  refine WT 11 ?_
  refine WT 12 ?_
  refine WT 13 ?_
  refine WD_take (i := 14) rfl rfl rfl rfl (by kernel_rfl) (by assumption) (fun w' hS => by exact Y_sliceSl (l := p) (h := p + n) vv vv vv (by omega) (by omega)) ?_
  refine WD_one (c := 15) (by kernel_rfl) rfl ?_
  refine WL_assign vv (WL_nil ⟨hS, ?_⟩)
  refine WD_done (by kernel_rfl) ?_
  refine GO ?_
  have hC : Chg (· = g) w w4 := (Chg.of_below (S := (· = g)) g2).trans (hw3.trans (Chg.of_below g4 (· = g)) (fun k _ hk => hk)) (fun k _ hk => hk)
  exact ret1 (v := .slice (if cap = p then ao else ao.map (·.add (p * 1))) (p + n - p) (cap - p)) Tryd.results71 rfl ⟨_, rfl, sub_bytes h.src.bytes hcap hn, h.to hC hS hn, hC⟩
end Go.Proofs.YtfoinoegabcigaaDoor
