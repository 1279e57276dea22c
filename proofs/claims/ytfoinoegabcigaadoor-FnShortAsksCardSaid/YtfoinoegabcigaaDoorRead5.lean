/- The reference's reader: kinds, bodies, records. -/
import Derived.Test.YtfoinoegabcigaaDoorRead4
set_option linter.unusedVariables false
set_option linter.unusedSimpArgs false
namespace Go.Proofs.YtfoinoegabcigaaDoor
open Go.RowKit
set_option maxHeartbeats 4000000
set_option maxRecDepth 100000

/-- the kind of records of a type: the first one whose type it is, or 13 -/
def kindFrom (ty : Nat) : Nat → Nat → Nat
  | _, 0 => 13
  | i, n + 1 => if typesL.getD i 0 = ty then i else kindFrom ty (i + 1) n
def kindOfM (ty : Nat) : Nat := kindFrom ty 1 12
def recK (i : Nat) : RecM := ⟨[], 0, 0, 0, 0, (i : Int), [], [], [], 0, 0, 0, 0, 0, [], []⟩
theorem recK_at (w : World) (i : Nat) : RecAt w (recK i, rv0) := by
  refine ⟨⟨by simp [recK], by simp [recK], by simp [recK], by simp [recK], by simp [recK], by simp [recK], by simp [recK], by simp [recK], by simp [recK], by simp [recK], by simp [recK], by simp [recK], by simp [recK], by simp [recK], by simp [recK]⟩, ReadsAt.nil w 1, ReadsAt.nil w 1, ⟨[], rfl, ⟨by simp, ReadsAt.nil w 2⟩, by simp⟩⟩
theorem spec_kindOf (w : World) (ty : Nat) (ht : ty < 65536) : Calls Tryd.prog 62 #[.int .u16 (ty : Int)] w (RetV w (.int .i64 (kindOfM ty : Int))) := by
  refine calls_of_WC Tryd.func62 rfl Tryd.ntmps62 rfl ?_
  refine GO ?_
  refine WC_loop (fun m f w' => ∃ (i : Nat), m = 13 - i ∧ 1 ≤ i ∧ i ≤ 13 ∧ EnvHas f [(0, .int .u16 (ty : Int)), (3, .int .i64 (i : Int))] ∧ kindFrom ty i (13 - i) = kindOfM ty ∧ Grows w w') 12 ?_ ?_
  · exact ⟨1, rfl, by omega, by omega, ⟨rfl, rfl, trivial⟩, rfl, Grows.refl w⟩
  rintro m f' w2 ⟨i, rfl, h1, hi, he, hk, hg⟩
  obtain ⟨f, rfl⟩ := he.form
  refine GO ?_
  first | refine WC_sif vv (fun hc => ?_) (fun hc => ?_) | refine WC_if vv (fun hc => ?_) (fun hc => ?_)
  · have hlt : i < 13 := by have := of_decide_eq_true hc; omega
    rw [show 13 - i = (13 - (i + 1)) + 1 by omega, kindFrom] at hk
    refine GO ?_
    refine WL_build (vs := [(5, .int .i64 (i : Int))]) (l := recCells (recK i, rv0)) rfl ⟨⟨_, rfl⟩, trivial⟩ (by rfl) ?_
    refine WL_fun rfl ((spec_TypeOf w2 (recK i, rv0) i rfl (by omega)).mono ?_)
    rintro e w3 ⟨rfl, g3⟩
    refine ⟨_, rfl, ?_⟩
    have g3 : Grows w2 w3 := g3
    have htp : typeOf i (recK i) = typesL.getD i 0 := by
      unfold typeOf
      rw [if_neg (by omega)]
    simp only [htp]
    refine GO ?_
    by_cases e : typesL.getD i 0 = ty
    · rw [if_pos e] at hk
      rw [show (((typesL.getD i 0 : Nat) : Int) == (ty : Int)) = true by rw [e]; simp]
      refine RUN ?_
      exact ret1 (v := .int .i64 (i : Int)) Tryd.results62 rfl ⟨by rw [← hk], hg.trans g3⟩
    · rw [if_neg e] at hk
      rw [show (((typesL.getD i 0 : Nat) : Int) == (ty : Int)) = false from beq_eq_false_iff_ne.2 (by omega)]
      refine RUN ?_
      refine WL_inc vv (by omega) ?_
      refine GO ?_
      exact ⟨13 - (i + 1), by omega, i + 1, rfl, by omega, by omega, ⟨rfl, rfl, trivial⟩, hk, hg.trans g3⟩
  · have hge : i = 13 := by have := of_decide_eq_false hc; omega
    subst hge
    refine GO ?_
    exact ret1 (v := .int .i64 13) Tryd.results62 rfl ⟨by rw [← hk]; rfl, hg⟩
/-- what is read of a record of kind k, of l bytes -/
def readRec (k : Nat) (r : RecM) (l : Nat) : RecM :=
  { (recK k) with name := r.name, type := typeOf k r, cls := r.cls, ttl := r.ttl, len := l, host := if k = 3 ∨ k = 6 then r.host else [], n1 := if k = 6 then (r.n1 % 65536) else 0, data := if k = 13 then r.data else [] }
/-- what is there ahead of the body -/
def bareRec (k : Nat) (r : RecM) (l : Nat) : RecM := { (recK k) with name := r.name, type := typeOf k r, cls := r.cls, ttl := r.ttl, len := l }
theorem RdrAt.to2 {w0 w w' : World} {g : Nat} {bv : Value} {F : Bytes} {p p' : Nat} {wh wh' : Bool} {S : Nat → Prop} (h : RdrAt w0 w g bv F p wh) (hc : Chg S w w') (hS : ∀ k, S k → w0.heap.size ≤ k) (ha : w'.heap[g]? = some (.cells #[bv, .int .i64 (p' : Int), .bool false, .bool wh'] 134 (0, 0))) (hp : p' ≤ F.length) : RdrAt w0 w' g bv F p' wh' :=
  ⟨ha, Below.trans h.grows (hc.below h.grows.size hS), h.base, h.src, hp⟩
/-- what the reader's body leaves -/
def BodyR (w0 w : World) (g gx : Nat) (bv' : Value) (F : Bytes) (q k : Nat) (r : RecM) (l : Nat) (e : Ending) (w' : World) : Prop := ∃ wh' dv, e = .returned (.tuple #[]) ∧ RdrAt w0 w' g bv' F q wh' ∧ w'.heap[gx]? = some (.cells (recCells (readRec k r l, ⟨dv, .slice none 0 0, .slice none 0 0⟩)).toArray 82 (0, 0)) ∧ AccB w.heap.size w' dv (readRec k r l).data ∧ Chg (fun j => j = g ∨ j = gx) w w'
section
variable (w0 w : World) (g gx : Nat) (bv' : Value) (F : Bytes) (p q : Nat) (wh : Bool) (r : RecM) (l : Nat)
theorem reader_body3 (n : Nat) (hg0 : w0.heap.size ≤ gx) (h : RdrAt w0 w g bv' F p wh) (hx : w.heap[gx]? = some (.cells (recCells (bareRec 3 r l, rv0)).toArray 82 (0, 0))) (hr : Rd F n p p [] false r.host q) (hnm : r.host.length ≤ 1000) :
    Calls Tryd.prog 79 #[.pointer (some ⟨g, 0, none⟩), .pointer (some ⟨gx, 0, none⟩), .int .i64 (q : Int)] w (BodyR w0 w g gx bv' F q 3 r l) := by
  have hgx : gx ≠ g := fun e => by rw [e, h.at_] at hx; cases hx
  have hx' : w.heap[gx]? = some (.cells #[strOf r.name, .int .u16 (typeOf 3 r : Int), .int .u16 (r.cls : Int), .int .u32 (r.ttl : Int), .int .u16 (l : Int), .int .i64 3, .slice none 0 0, strOf [], strOf [], .int .u32 0, .int .u32 0, .int .u32 0, .int .u32 0, .int .u32 0, .slice none 0 0, .slice none 0 0] 82 (0, 0)) := hx
  clear hx
  have hx := hx'
  clear hx'
  refine calls_of_WC Tryd.func79 rfl Tryd.ntmps79 rfl ?_
  refine RUN ?_
  refine WL_fun rfl ((reader_name w0 w g bv' F p wh r.host n q h hr hnm).mono ?_)
  rintro e w1 ⟨wh1, rfl, hR, hC⟩
  refine ⟨_, rfl, ?_⟩
  have hx1 := hC.kept hx hgx
  refine GO ?_
  refine WL_store1 vv vv hx1 (by simp) rfl ?_
  intro w2 hw2 h2
  have h2' : w2.heap[gx]? = some (.cells (recCells (readRec 3 r l, rv0)).toArray 82 (0, 0)) := h2
  have hat2 := hw2.kept hR.at_ (fun e => hgx e.symm)
  refine RUN ?_
  rw [show ((q : Int) != (q : Int)) = false by simp]
  refine WL_store1 vv vv hat2 (by simp) rfl ?_
  intro w3 hw3 h3
  have h3' : w3.heap[g]? = some (.cells #[bv', .int .i64 (q : Int), .bool false, .bool wh1] 134 (0, 0)) := h3
  refine GO ?_
  have hC3 : Chg (fun j => j = g ∨ j = gx) w1 w3 := (hw2.mono (fun k _ hk => .inr hk)).trans (hw3.mono (fun k _ hk => .inl hk)) (fun k _ hk => hk)
  exact retn0 Tryd.results79 ⟨wh1, .slice none 0 0, rfl, hR.to2 hC3 (fun k hk => by rcases hk with rfl | rfl; (exact h.base); (exact hg0)) h3' hR.le, hw3.kept h2' hgx, Acc.nil _ _ _ _, (hC.mono (fun k _ hk => .inl hk)).trans hC3 (fun k _ hk => hk)⟩
theorem reader_body6 (n : Nat) (hg0 : w0.heap.size ≤ gx) (h : RdrAt w0 w g bv' F p wh) (hx : w.heap[gx]? = some (.cells (recCells (bareRec 6 r l, rv0)).toArray 82 (0, 0))) (hb : BytesIn F p (two (low r.n1))) (hr : Rd F n (p + 2) (p + 2) [] false r.host q) (hnm : r.host.length ≤ 1000) :
    Calls Tryd.prog 79 #[.pointer (some ⟨g, 0, none⟩), .pointer (some ⟨gx, 0, none⟩), .int .i64 (q : Int)] w (BodyR w0 w g gx bv' F q 6 r l) := by
  have hgx : gx ≠ g := fun e => by rw [e, h.at_] at hx; cases hx
  have hlow : 0 ≤ low r.n1 ∧ low r.n1 < 65536 := by unfold low; omega
  have hx' : w.heap[gx]? = some (.cells #[strOf r.name, .int .u16 (typeOf 6 r : Int), .int .u16 (r.cls : Int), .int .u32 (r.ttl : Int), .int .u16 (l : Int), .int .i64 6, .slice none 0 0, strOf [], strOf [], .int .u32 0, .int .u32 0, .int .u32 0, .int .u32 0, .int .u32 0, .slice none 0 0, .slice none 0 0] 82 (0, 0)) := hx
  clear hx
  have hx := hx'
  clear hx'
  refine calls_of_WC Tryd.func79 rfl Tryd.ntmps79 rfl ?_
  refine RUN ?_
  refine WL_fun rfl ((reader_two w0 w g bv' F p wh (low r.n1) hlow.1 hlow.2 h hb).mono ?_)
  rintro e wa ⟨rfl, hRa, hCa⟩
  refine ⟨_, rfl, ?_⟩
  have hxa := hCa.kept hx hgx
  refine WL_conv (c := low r.n1) vv (by rw [IntKind.wrap_u32]; omega) ?_
  refine GO ?_
  refine WL_store1 vv vv hxa (by simp) rfl ?_
  intro wb hwb hb'
  have hRb : RdrAt w0 wb g bv' F (p + 2) wh := hRa.to2 (S := (· = gx)) hwb (fun k hk => by rw [hk]; exact hg0) (hwb.kept hRa.at_ (fun e => hgx e.symm)) hRa.le
  refine RUN ?_
  refine WL_fun rfl ((reader_name w0 wb g bv' F (p + 2) wh r.host n q hRb hr hnm).mono ?_)
  rintro e w1 ⟨wh1, rfl, hR, hC⟩
  refine ⟨_, rfl, ?_⟩
  have hx1 := hC.kept hb' hgx
  refine GO ?_
  refine WL_store1 vv vv hx1 (by simp [recCells]) rfl ?_
  intro w2 hw2 h2
  have h2' : w2.heap[gx]? = some (.cells (recCells (readRec 6 r l, rv0)).toArray 82 (0, 0)) := h2
  have hat2 := hw2.kept hR.at_ (fun e => hgx e.symm)
  refine RUN ?_
  rw [show ((q : Int) != (q : Int)) = false by simp]
  refine WL_store1 vv vv hat2 (by simp) rfl ?_
  intro w3 hw3 h3
  have h3' : w3.heap[g]? = some (.cells #[bv', .int .i64 (q : Int), .bool false, .bool wh1] 134 (0, 0)) := h3
  refine GO ?_
  have hC3 : Chg (fun j => j = g ∨ j = gx) w1 w3 := (hw2.mono (fun k _ hk => .inr hk)).trans (hw3.mono (fun k _ hk => .inl hk)) (fun k _ hk => hk)
  have hC1 : Chg (fun j => j = g ∨ j = gx) w w1 := (hCa.mono (fun k _ hk => .inl hk)).trans ((hwb.mono (fun k _ hk => .inr hk)).trans (hC.mono (fun k _ hk => .inl hk)) (fun k _ hk => hk)) (fun k _ hk => hk)
  exact retn0 Tryd.results79 ⟨wh1, .slice none 0 0, rfl, hR.to2 hC3 (fun k hk => by rcases hk with rfl | rfl; (exact h.base); (exact hg0)) h3' hR.le, hw3.kept h2' hgx, Acc.nil _ _ _ _, hC1.trans hC3 (fun k _ hk => hk)⟩
theorem reader_body13 (hg0 : w0.heap.size ≤ gx) (h : RdrAt w0 w g bv' F p wh) (hx : w.heap[gx]? = some (.cells (recCells (bareRec 13 r l, rv0)).toArray 82 (0, 0))) (hb : BytesIn F p r.data) (hq : q = p + r.data.length) (hle : q ≤ F.length) (hdl : r.data.length < 65536) :
    Calls Tryd.prog 79 #[.pointer (some ⟨g, 0, none⟩), .pointer (some ⟨gx, 0, none⟩), .int .i64 (q : Int)] w (BodyR w0 w g gx bv' F q 13 r l) := by
  have hgx : gx ≠ g := fun e => by rw [e, h.at_] at hx; cases hx
  have hlen := h.src.len
  have htk : (F.drop p).take r.data.length = r.data := by
    by_cases e : r.data = []
    · rw [e]; rfl
    · exact (hb.take e).2
  have hat := h.at_
  have hx' : w.heap[gx]? = some (.cells #[strOf r.name, .int .u16 (typeOf 13 r : Int), .int .u16 (r.cls : Int), .int .u32 (r.ttl : Int), .int .u16 (l : Int), .int .i64 13, .slice none 0 0, strOf [], strOf [], .int .u32 0, .int .u32 0, .int .u32 0, .int .u32 0, .int .u32 0, .slice none 0 0, .slice none 0 0] 82 (0, 0)) := hx
  clear hx
  have hx := hx'
  clear hx'
  refine calls_of_WC Tryd.func79 rfl Tryd.ntmps79 rfl ?_
  refine RUN ?_
  refine WL_sub (c := (r.data.length : Int)) vv vv (by rw [IntWalk.i64_in _ (by omega)]; omega) ?_
  refine WL_fun rfl ((reader_take w0 w g bv' F p wh r.data.length h (by omega)).mono ?_)
  rintro e w1 ⟨v, rfl, hv, hR, hC⟩
  refine ⟨_, rfl, ?_⟩
  rw [htk] at hv
  rw [← hq] at hR
  refine WL_parts [(v, r.data)] (EvL.eq ⟨rfl, vv, trivial⟩) (by simp) rfl rfl (by
    intro y hy
    rw [List.mem_singleton.1 hy]
    exact hv.grow hR.grows) ?_
  intro b19 w2 hb19 hps g2
  have hflat : (([(v, r.data)] : List (Value × Bytes)).map (·.2)).flatten = r.data := by simp
  have hj := spec_Joined w2 _ _ hps (by simp) (by rw [hflat]; omega) (by
    intro y hy
    rw [List.mem_singleton.1 hy]
    simp only; omega)
  rw [hflat] at hj
  refine WL_fun rfl ((hj).mono ?_)
  rintro e w3 ⟨dv, rfl, a3, g3⟩
  refine ⟨_, rfl, ?_⟩
  have hx1 := (g2.trans g3).kept (hC.kept hx hgx)
  obtain ⟨aod, capd, hdv⟩ := ReadsAt.value a3.reads
  refine GO ?_
  refine WL_store1 vv vv hx1 (by simp) (by rw [hdv]; rfl) ?_
  intro w4 hw4 h4
  have h4' : w4.heap[gx]? = some (.cells (recCells (readRec 13 r l, ⟨dv, .slice none 0 0, .slice none 0 0⟩)).toArray 82 (0, 0)) := h4
  have hR4 : RdrAt w0 w4 g bv' F q wh := ((hR.grow g2).grow g3).to2 (S := (· = gx)) hw4 (fun k hk => by rw [hk]; exact hg0) (hw4.kept ((g2.trans g3).kept hR.at_) (fun e => hgx e.symm)) hR.le
  have hat4 := hR4.at_
  refine RUN ?_
  rw [show ((q : Int) != (q : Int)) = false by simp]
  refine WL_store1 vv vv hat4 (by simp) rfl ?_
  intro w5 hw5 h5
  have h5' : w5.heap[g]? = some (.cells #[bv', .int .i64 (q : Int), .bool false, .bool wh] 134 (0, 0)) := h5
  refine GO ?_
  have hg23 := g2.trans g3
  have hC5 : Chg (fun j => j = g ∨ j = gx) w w5 := (hC.mono (fun k _ hk => .inl hk)).trans ((Chg.of_below hg23 (fun j => j = g ∨ j = gx)).trans ((hw4.mono (fun k _ hk => .inr hk)).trans (hw5.mono (fun k _ hk => .inl hk)) (fun k _ hk => hk)) (fun k _ hk => hk)) (fun k _ hk => hk)
  have hs1 : w.heap.size ≤ w2.heap.size := Nat.le_trans hC.size g2.size
  exact retn0 Tryd.results79 ⟨wh, dv, rfl, hR4.to hw5 h5' hR.le, hw5.kept h4' hgx, ((Acc.mono a3 hs1).wrote_ hw4 (own_ne a3.own hx1 (by decide))).wrote_ hw5 (own_ne ((Acc.wrote_ a3 hw4 (own_ne a3.own hx1 (by decide)))).own hat4 (by decide)), hC5⟩
end
end Go.Proofs.YtfoinoegabcigaaDoor
