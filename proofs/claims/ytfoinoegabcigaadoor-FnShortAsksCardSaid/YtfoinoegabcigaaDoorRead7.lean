/- The reference's reader: many records. -/
import Derived.Test.YtfoinoegabcigaaDoorRead6
set_option linter.unusedVariables false
set_option linter.unusedSimpArgs false
namespace Go.Proofs.YtfoinoegabcigaaDoor
open Go.RowKit
set_option maxHeartbeats 4000000
set_option maxRecDepth 100000

/-- records that were read, a slice of the call's own -/
structure ReadRecs (B : Nat) (w : World) (k : Nat) (v : Value) (l : List (RecM × RecV)) (rs : List RecM) : Prop where
  acc : LAcc B w 82 recCells 16 v l
  data : ∀ x ∈ l, AccB B w x.2.dv x.1.data ∧ x.2.tv = .slice none 0 0 ∧ x.2.pv = .slice none 0 0
  len : l.length = rs.length
  recs : ∀ (i : Nat) (x : RecM × RecV) (r : RecM), l[i]? = some x → rs[i]? = some r → ∃ n, n < 65536 ∧ x.1 = readRec k r n
section
variable {B : Nat} {w w' : World} {k : Nat} {v : Value} {l : List (RecM × RecV)} {rs : List RecM}
theorem ReadRecs.grow (h : ReadRecs B w k v l rs) (hg : Grows w w') : ReadRecs B w' k v l rs := ⟨h.acc.grow hg, fun x hx => ⟨(h.data x hx).1.grow hg, (h.data x hx).2⟩, h.len, h.recs⟩
theorem ReadRecs.mono (h : ReadRecs B w k v l rs) {B' : Nat} (hB : B' ≤ B) : ReadRecs B' w k v l rs := ⟨h.acc.mono hB, fun x hx => ⟨Acc.mono (h.data x hx).1 hB, (h.data x hx).2⟩, h.len, h.recs⟩
theorem ReadRecs.wrote (h : ReadRecs B w k v l rs) {b : Nat} (hw : Wrote b w w') {cs : Array Value} {t : TypeId} {fr : Nat × Nat} (hb : w.heap[b]? = some (.cells cs t fr)) (ht : t ≠ 82) (ht2 : t ≠ 5) : ReadRecs B w' k v l rs :=
  ⟨⟨h.acc.acc.wrote_ hw (own_ne h.acc.acc.own hb ht), h.acc.len⟩, fun x hx => ⟨Acc.wrote_ (h.data x hx).1 hw (own_ne (h.data x hx).1.own hb ht2), (h.data x hx).2⟩, h.len, h.recs⟩
theorem ReadRecs.recAt (h : ReadRecs B w k v l rs) (hi : ∀ r ∈ rs, RecIn k r) (hk : k < 14) : ∀ x ∈ l, RecAt w x := by
  intro x hx
  obtain ⟨i, hix⟩ := List.mem_iff_getElem?.1 hx
  have hlt := (List.getElem?_eq_some_iff.1 hix).1
  have hir : rs[i]? = some (rs[i]'(by rw [← h.len]; exact hlt)) := by simp
  obtain ⟨n, hn, e⟩ := h.recs i x _ hix hir
  have hin := hi (rs[i]'(by rw [← h.len]; exact hlt)) (by simp)
  obtain ⟨h1, h2, h3⟩ := h.data x hx
  generalize rs[i]'(by rw [← h.len]; exact hlt) = r at *
  have hnm := hin.name
  have hhs := hin.host
  have hdt := hin.data
  refine ⟨?_, h1.reads, ?_, ?_⟩
  · rw [e]
    refine ⟨by simp only [readRec, recK, lim]; omega, ?_, by simp [readRec, recK], ?_, hin.type, hin.cls, hin.ttl, hn, ?_, by simp [readRec, recK], by simp [readRec, recK], by simp [readRec, recK], by simp [readRec, recK], by simp [readRec, recK], by simp [readRec, recK]⟩
    · simp only [readRec, lim]
      split
      · rename_i hc; have := hhs hc; omega
      · simp
    · simp only [readRec, lim]
      split
      · rename_i hc; have := hdt hc; omega
      · simp
    · simp only [readRec]; split <;> omega
  · rw [h2, e]; exact ReadsAt.nil w 1
  · rw [h3, e]; exact ⟨[], rfl, ⟨by simp, ReadsAt.nil w 2⟩, by simp⟩
theorem ReadRecs.srecs (h : ReadRecs B w k v l rs) (hi : ∀ r ∈ rs, RecIn k r) (hk : k < 14) (hn : rs.length ≤ 100000) : SRecs w k v l := by
  refine ⟨⟨h.acc.reads, h.recAt hi hk, by rw [h.len]; simp only [lim]; omega⟩, fun x hx => ?_⟩
  obtain ⟨i, hix⟩ := List.mem_iff_getElem?.1 hx
  have hlt := (List.getElem?_eq_some_iff.1 hix).1
  obtain ⟨n, hn, e⟩ := h.recs i x _ hix (show rs[i]? = some (rs[i]'(by rw [← h.len]; exact hlt)) by simp)
  rw [e]
  rfl
end
theorem Rd.le {F : Bytes} {n p start : Nat} {acc : Bytes} {j : Bool} {res : Bytes} {e : Nat} (h : Rd F n p start acc j res e) : j = false → p ≤ e := by
  induction h with
  | zero _ h2 => intro hj; have := h2 hj; omega
  | label lab _ _ _ _ _ _ ih => intro hj; have := ih hj; omega
  | ptr q _ _ _ _ _ h6 _ _ => intro hj; have := h6 hj; omega
theorem RdRecs.le {F : Bytes} {k : Nat} : ∀ {rs : List RecM} {a b : Nat}, RdRecs F k a rs b → a ≤ b
  | [], _, _, h => Nat.le_of_eq h.symm
  | r :: rs, a, b, ⟨c, h1, h2⟩ => by
    have h3 := RdRecs.le h2
    obtain ⟨n, e, l, h4, _, _, h5, _⟩ := h1
    have := h4.le rfl
    omega
theorem AccB.past {B : Nat} {w w' : World} {dv : Value} {bs : Bytes} (h : AccB B w dv bs) {S : Nat → Prop} (hc : Chg S w w') {e : TypeId} (hS : ∀ j, S j → ∃ cs fr, w.heap[j]? = some (.cells cs e fr)) (he : 5 ≠ e) : AccB B w' dv bs := by
  refine Acc.block_kept h fun j o hj hb => hc.kept hj fun hs => ?_
  obtain ⟨cs, fr, hj2⟩ := hS j hs
  exact own_ne h.own hj2 he.symm hb
/-- one part more, and what it leaves -/
theorem WL_push2 {n : Nat} {P : Program} {f : Env} {w : World} {ops : Array Oper} {K : Env → World → Prop} {rest : List Oper} {d1 d2 : Nat} {ty1 ty2 : TypeId} {pos1 pos2 : String} {af1 af2 : Array Edge} {α : Type} {g : α → List Value} {t e : TypeId} {k bytes B : Nat} [ht : TyLit P t e k] [ha : TyApp P t e k bytes] {s x : Operand} {v : Value} {l : List α} (a : α)
    (hx : ev f x = .agg (g a).toArray) (hs : ∀ u, ev (upd f d1 u) s = v) (hl : LAcc B w e g k v l) (hB : B ≤ w.heap.size) (hlen : (g a).length = k) (h1 : ∀ u ∈ g a, u.oneCell' = true) (hk : Nat.ble (1 * k) 16777216 = true) (hr : Room l.length 1 bytes)
    (h : ∀ u v' w', LAcc B w' e g k v' (l ++ [a]) → Chg (fun j => v.ownBlock = some j) w w' → WL n P ops K rest (upd (upd f d1 u) d2 v') w') (hn1 : Nat.blt d1 n = true := by rfl) (hn2 : Nat.blt d2 n = true := by rfl) :
    WL n P ops K (⟨some d1, .buildSlice t 1 #[(0, x)], ty1, pos1, af1, none⟩ :: ⟨some d2, .call ⟨.builtin .append, #[s, .tmp d1], #[t, t]⟩, ty2, pos2, af2, none⟩ :: rest) f w := by
  refine WL_slice (ps := [(0, x)]) (vs := [.agg (g a).toArray]) (by simp [hx]) (by simp) rfl (by simp [Value.cells, hlen]) hk ?_ hn1
  intro b w1 hb hw1 g1
  have hw1' : w1.heap[b]? = some (.cells (g a).toArray e (0, 0)) := by rw [hw1]; simp [Value.cells]
  have hrd := reads_new hw1' (k := k) (by simp [hlen])
  refine WL_append (hs _) (hl.acc.grow g1).own (by simp [ev, upd]) hrd (by simpa using h1) hr ?_ hn2
  intro v' w' hgr
  have hchg : Chg (fun j => v.ownBlock = some j) w1 w' := Chg.of_grownBy hgr.by_ (fun k hk => hk) (fun k hk => by
    rcases hgr.old.2 with ⟨e0, _⟩ | ⟨g, cap, cur, e0, _, hg, _⟩
    · rw [e0] at hk; cases hk
    · rw [e0] at hk; cases hk; exact ⟨_, _, hg⟩)
  refine h _ v' w' ⟨?_, ?_⟩ ((Chg.of_below (S := fun j => v.ownBlock = some j) g1).trans hchg (fun _ _ h => h))
  · have := (hl.acc.grow g1).grew hgr (Nat.le_trans hB g1.size)
    simpa using this
  · intro y hy
    rcases List.mem_append.1 hy with hy | hy
    · exact hl.len y hy
    · rw [List.mem_singleton.1 hy]; exact hlen
theorem reader_records (w0 w : World) (g : Nat) (bv' : Value) (F : Bytes) (p q k : Nat) (wh : Bool) (rs : List RecM) (hk : k < 14) (hB : BodyRd k) (h : RdrAt w0 w g bv' F p wh) (hr : RdRecs F k p rs q) (hq : q ≤ F.length) (hi : ∀ r ∈ rs, RecIn k r) (hn : rs.length ≤ 100000) :
    Calls Tryd.prog 65 #[.pointer (some ⟨g, 0, none⟩), .int .i64 (rs.length : Int)] w fun e w' => ∃ wh' v l, e = .returned v ∧ ReadRecs w.heap.size w' k v l rs ∧ RdrAt w0 w' g bv' F q wh' ∧ Chg (· = g) w w' := by
  refine calls_of_WC Tryd.func65 rfl Tryd.ntmps65 rfl ?_
  refine GO ?_
  refine WL_slice0 ?_
  intro b7 w1 hb7 h7 g1
  refine GO ?_
  refine WC_loop (fun m f w' => ∃ (i p' : Nat) (wh' : Bool) (v : Value) (l : List (RecM × RecV)), m = rs.length - i ∧ i ≤ rs.length ∧ EnvHas f [(0, .pointer (some ⟨g, 0, none⟩)), (1, .int .i64 (rs.length : Int)), (5, v), (6, .int .i64 (i : Int))] ∧ ReadRecs w.heap.size w' k v l (rs.take i) ∧ RdRecs F k p' (rs.drop i) q ∧ RdrAt w0 w' g bv' F p' wh' ∧ Chg (· = g) w w') rs.length ?_ ?_
  · exact ⟨0, p, wh, _, [], rfl, Nat.zero_le _, ⟨rfl, rfl, rfl, rfl, trivial⟩, ⟨LAcc.nil (.inr trivial) h7 hb7, by simp, by simp, by simp⟩, by simpa using hr, h.grow g1, Chg.of_below g1 _⟩
  rintro m f' w2 ⟨i, p2, wh2, v, l, rfl, hile, he, hL, hrd, hR, hC⟩
  obtain ⟨f, rfl⟩ := he.form
  have hat := hR.at_
  by_cases hlt : i < rs.length
  · have hri := hi rs[i] (by simp)
    rw [drop_head hlt] at hrd
    obtain ⟨p3, hrd1, hrd2⟩ := hrd
    have hp3 : p3 ≤ F.length := by
      exact Nat.le_trans (RdRecs.le hrd2) hq
    refine RUN ?_
    rw [show decide ((i : Int) < (rs.length : Int)) = true from decide_eq_true (by omega)]
    refine RUN ?_
    refine WL_fun rfl ((reader_record w0 w2 g bv' F p2 p3 k wh2 rs[i] hk hB hR hrd1 hp3 hri).mono ?_)
    rintro e w3 ⟨wh3, dv, n, rfl, hn3, hR3, hdv, hC3⟩
    refine ⟨_, rfl, ?_⟩
    have hL3 := hL.wrote hC3 hat (by decide) (by decide)
    have hat3 := hR3.at_
    have hs3 : w.heap.size ≤ w3.heap.size := Nat.le_trans hC.size hC3.size
    refine WL_push2 (B := w.heap.size) (g := recCells) (readRec k rs[i] n, ⟨dv, .slice none 0 0, .slice none 0 0⟩) vv (fun _ => vv) hL3.acc hs3 rfl (by
      obtain ⟨a1, c1, e1⟩ := ReadsAt.value hdv.reads
      simp [recCells, e1, Value.oneCell']) (by decide) ⟨by rw [hL3.len, List.length_take]; omega, by omega, by omega⟩ ?_
    intro u v4 w4 hA4 hchg
    have hrow : ∀ j, v.ownBlock = some j → ∃ cs fr, w3.heap[j]? = some (.cells cs 82 fr) := by
      intro j hj
      rcases hL3.acc.acc.own.2 with ⟨e0, _⟩ | ⟨g, cap, cur, e0, _, hg, _⟩
      · rw [e0] at hj; cases hj
      · rw [e0] at hj; cases hj; exact ⟨_, _, hg⟩
    have hvg := own_ne hL3.acc.acc.own hat3 (by decide)
    have hbase := hL3.acc.acc.base
    have hR4 : RdrAt w0 w4 g bv' F p3 wh3 := hR3.to2 hchg (fun j hj => Nat.le_trans h.grows.size (hbase j hj)) (hchg.kept hat3 (fun e => hvg e)) hR3.le
    have hC4 : Chg (· = g) w w4 := (hC.trans hC3 (fun _ _ h => h)).trans hchg (fun j hj e => by have := hbase j e; omega)
    have hll : l.length = i := by have := hL3.len; rw [List.length_take] at this; omega
    have hL4 : ReadRecs w.heap.size w4 k v4 (l ++ [(readRec k rs[i] n, ⟨dv, .slice none 0 0, .slice none 0 0⟩)]) (rs.take (i + 1)) := by
      refine ⟨hA4, ?_, ?_, ?_⟩
      · intro x hx
        rcases List.mem_append.1 hx with hx | hx
        · exact ⟨(hL3.data x hx).1.past hchg hrow (by decide), (hL3.data x hx).2⟩
        · rw [List.mem_singleton.1 hx]
          exact ⟨AccB.past (Acc.mono hdv hC.size) hchg hrow (by decide), rfl, rfl⟩
      · rw [List.length_append, List.length_take, hll]; simp; omega
      · intro i' x' r' h1 h2
        by_cases hi' : i' < l.length
        · rw [List.getElem?_append_left hi'] at h1
          refine hL3.recs i' x' r' h1 ?_
          rw [List.getElem?_take_of_lt (by omega)]
          rw [List.getElem?_take_of_lt (by omega)] at h2
          exact h2
        · rw [List.getElem?_append_right (by omega)] at h1
          have h0 := (List.getElem?_eq_some_iff.1 h1).1
          simp only [List.length_singleton] at h0
          have e0 : i' = l.length := by omega
          subst e0
          rw [Nat.sub_self, List.getElem?_cons_zero] at h1
          rw [hll, List.getElem?_take_of_lt (by omega), List.getElem?_eq_getElem hlt] at h2
          cases h1
          cases h2
          exact ⟨n, hn3, rfl⟩
    refine GO ?_
    refine WL_inc vv (by omega) ?_
    refine GO ?_
    exact ⟨rs.length - (i + 1), by omega, i + 1, p3, wh3, v4, _, rfl, hlt, ⟨rfl, rfl, rfl, rfl, trivial⟩, hL4, hrd2, hR4, hC4⟩
  · have hge : i = rs.length := by omega
    subst hge
    refine RUN ?_
    rw [show decide ((rs.length : Int) < (rs.length : Int)) = false from decide_eq_false (by omega)]
    refine RUN ?_
    rw [List.take_length] at hL
    rw [List.drop_length] at hrd
    obtain rfl : q = p2 := hrd
    exact ret1 (v := v) Tryd.results65 rfl ⟨wh2, v, l, rfl, hL, hR, hC⟩
end Go.Proofs.YtfoinoegabcigaaDoor
