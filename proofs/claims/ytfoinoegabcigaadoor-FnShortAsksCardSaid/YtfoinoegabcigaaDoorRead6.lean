/- The reference's reader: records. -/
import Derived.Test.YtfoinoegabcigaaDoorRead5
set_option linter.unusedVariables false
set_option linter.unusedSimpArgs false
namespace Go.Proofs.YtfoinoegabcigaaDoor
open Go.RowKit
set_option maxHeartbeats 4000000
set_option maxRecDepth 100000

/-- the reader's body reads what RdBody says -/
def BodyRd (k : Nat) : Prop := ∀ (w0 w : World) (g gx : Nat) (bv' : Value) (F : Bytes) (p q : Nat) (wh : Bool) (r : RecM) (l : Nat), w0.heap.size ≤ gx → RdrAt w0 w g bv' F p wh → w.heap[gx]? = some (.cells (recCells (bareRec k r l, rv0)).toArray 82 (0, 0)) → RdBody F k r p q → q ≤ F.length → (k = 3 ∨ k = 6 → r.host.length ≤ 1000) → (k = 13 → r.data.length < 65536) →
  Calls Tryd.prog 79 #[.pointer (some ⟨g, 0, none⟩), .pointer (some ⟨gx, 0, none⟩), .int .i64 (q : Int)] w (BodyR w0 w g gx bv' F q k r l)
theorem bodyRd3 : BodyRd 3 := by
  intro w0 w g gx bv' F p q wh r l hg0 h hx hb hq hh hd
  rcases hb with ⟨_, n, hn⟩ | ⟨e, _⟩ | ⟨e, _⟩
  · exact reader_body3 w0 w g gx bv' F p q wh r l n hg0 h hx hn (hh (.inl rfl))
  · cases e
  · cases e
theorem bodyRd6 : BodyRd 6 := by
  intro w0 w g gx bv' F p q wh r l hg0 h hx hb hq hh hd
  rcases hb with ⟨e, _⟩ | ⟨_, h1, n, hn⟩ | ⟨e, _⟩
  · cases e
  · exact reader_body6 w0 w g gx bv' F p q wh r l n hg0 h hx h1 hn (hh (.inr rfl))
  · cases e
theorem bodyRd13 : BodyRd 13 := by
  intro w0 w g gx bv' F p q wh r l hg0 h hx hb hq hh hd
  rcases hb with ⟨e, _⟩ | ⟨e, _⟩ | ⟨_, h1, h2⟩
  · cases e
  · cases e
  · exact reader_body13 w0 w g gx bv' F p q wh r l hg0 h hx h1 h2 hq (hd rfl)
/-- what a record is like that can be read -/
structure RecIn (k : Nat) (r : RecM) : Prop where
  name : r.name.length ≤ 1000
  host : k = 3 ∨ k = 6 → r.host.length ≤ 1000
  data : k = 13 → r.data.length < 65536
  cls : r.cls < 65536
  ttl : r.ttl < 4294967296
  type : typeOf k r < 65536
  kind : kindOfM (typeOf k r) = k
/-- what the reader's record leaves -/
def RecR (w0 w : World) (g : Nat) (bv' : Value) (F : Bytes) (q k : Nat) (r : RecM) (e : Ending) (w' : World) : Prop := ∃ wh' dv l, e = .returned (.agg (recCells (readRec k r l, ⟨dv, .slice none 0 0, .slice none 0 0⟩)).toArray) ∧ l < 65536 ∧ RdrAt w0 w' g bv' F q wh' ∧ AccB w.heap.size w' dv (readRec k r l).data ∧ Chg (· = g) w w'
theorem blk_ne {w : World} {b g : Nat} {cs cs' : Array Value} {t t' : TypeId} {fr fr' : Nat × Nat} (h1 : w.heap[b]? = some (.cells cs t fr)) (h2 : w.heap[g]? = some (.cells cs' t' fr')) (h : t ≠ t') : b ≠ g := fun e => by
  subst e
  rw [h1] at h2
  simp only [Option.some.injEq, Obj.cells.injEq] at h2
  exact h h2.2.1
theorem reader_record (w0 w : World) (g : Nat) (bv' : Value) (F : Bytes) (p q k : Nat) (wh : Bool) (r : RecM) (hk : k < 14) (hB : BodyRd k) (h : RdrAt w0 w g bv' F p wh) (hr : RdRec F k p r q) (hq : q ≤ F.length) (hi : RecIn k r) :
    Calls Tryd.prog 73 #[.pointer (some ⟨g, 0, none⟩)] w (RecR w0 w g bv' F q k r) := by
  obtain ⟨n, e, l, hn, hb, hl, rfl, hbody⟩ := hr
  have hb1 : BytesIn F e (two (typeOf k r)) := hb.left.left.left
  have hb2 : BytesIn F (e + 2) (two r.cls) := hb.left.left.right
  have hb3 : BytesIn F (e + 4) (four r.ttl) := hb.left.right
  have hb4 : BytesIn F (e + 8) (two (l : Nat)) := hb.right
  have hlen := h.src.len
  refine calls_of_WC Tryd.func73 rfl Tryd.ntmps73 rfl ?_
  refine GO ?_
  refine WL_alloc ?_
  intro b2 wz hb2z hz2 gz
  have hRz := h.grow gz
  refine GO ?_
  refine WL_fun rfl ((reader_name w0 wz g bv' F p wh r.name n e hRz hn hi.name).mono ?_)
  rintro e w1 ⟨wh1, rfl, hR1, hC1⟩
  refine ⟨_, rfl, ?_⟩
  refine GO ?_
  refine WL_fun rfl ((reader_two w0 w1 g bv' F e wh1 (typeOf k r) (by omega) (by have := hi.type; omega) hR1 hb1).mono ?_)
  rintro e w2 ⟨rfl, hR2, hC2⟩
  refine ⟨_, rfl, ?_⟩
  refine GO ?_
  refine WL_fun rfl ((reader_two w0 w2 g bv' F (e + 2) wh1 r.cls (by omega) (by have := hi.cls; omega) hR2 hb2).mono ?_)
  rintro e w3 ⟨rfl, hR3, hC3⟩
  refine ⟨_, rfl, ?_⟩
  refine GO ?_
  refine WL_fun rfl ((reader_four w0 w3 g bv' F (e + 2 + 2) wh1 r.ttl (by omega) (by have := hi.ttl; omega) hR3 hb3).mono ?_)
  rintro e w4 ⟨rfl, hR4, hC4⟩
  refine ⟨_, rfl, ?_⟩
  refine GO ?_
  refine WL_fun rfl ((reader_two w0 w4 g bv' F (e + 2 + 2 + 4) wh1 (l : Nat) (by omega) (by omega) hR4 hb4).mono ?_)
  rintro e w5 ⟨rfl, hR5, hC5⟩
  refine ⟨_, rfl, ?_⟩
  have hCz : Chg (· = g) w w5 := (Chg.of_below (S := (· = g)) gz).trans (hC1.trans (hC2.trans (hC3.trans (hC4.trans hC5 (fun _ _ h => h)) (fun _ _ h => h)) (fun _ _ h => h)) (fun _ _ h => h)) (fun _ _ h => h)
  refine WL_build (vs := [(0, strOf r.name), (1, .int .u16 (typeOf k r : Int)), (2, .int .u16 (r.cls : Int)), (3, .int .u32 (r.ttl : Int)), (4, .int .u16 (l : Int))]) (l := recCells ({ (bareRec k r l) with kind := 0 }, rv0)) (EvL.eq ⟨rfl, vv, rfl, vv, rfl, vv, rfl, vv, rfl, vv, trivial⟩) ⟨⟨_, rfl⟩, ⟨_, rfl⟩, ⟨_, rfl⟩, ⟨_, rfl⟩, ⟨_, rfl⟩, trivial⟩ (by rfl) ?_
  refine WL_alloc ?_
  intro b3 w6 hb3z hz3 g6
  refine WL_storeRow (new := (recCells ({ (bareRec k r l) with kind := 0 }, rv0)).toArray) vv vv hz3 rfl rfl (by simp [recCells, rv0, Value.oneCell']) ?_
  intro w7 hw7 h7
  have g7 : Grows w5 w7 := g6.wrote hw7 hb3z
  have hR7 := hR5.grow g7
  refine GO ?_
  refine WL_fun rfl ((spec_kindOf w7 (typeOf k r) hi.type).mono ?_)
  rintro e w8 ⟨rfl, g8⟩
  refine ⟨_, rfl, ?_⟩
  have g8 : Grows w7 w8 := g8
  rw [hi.kind]
  refine GO ?_
  refine WL_store1 vv vv (g8.kept h7) (by simp [recCells]) rfl ?_
  intro w9 hw9 h9
  have h9' : w9.heap[b3]? = some (.cells (recCells (bareRec k r l, rv0)).toArray 82 (0, 0)) := h9
  have hlt0 : w0.heap.size ≤ b3 := Nat.le_trans hR5.grows.size hb3z
  have g79 : Grows w5 w9 := (g7.trans g8).wrote hw9 hb3z
  have hR9 := hR5.grow g79
  have hat9 := hR9.at_
  obtain ⟨aos, caps, hsv, hscap⟩ := h.src.cap
  refine GO ?_
  refine WC_cut (fun f w' => EnvHas f [(0, .pointer (some ⟨g, 0, none⟩)), (2, .pointer (some ⟨b2, 0, none⟩)), (3, .pointer (some ⟨b3, 0, none⟩)), (4, .int .i64 ((e + 10 + l : Nat) : Int))] ∧ Grows w9 w') ?_ ?_
  · refine WC_draws (fun w' => w'.heap[g]? = some (.cells #[bv', .int .i64 ((e + 2 + 2 + 4 + 2 : Nat) : Int), .bool false, .bool wh1] 134 (0, 0)) ∧ w'.heap[b3]? = some (.cells #[strOf r.name, .int .u16 (typeOf k r : Int), .int .u16 (r.cls : Int), .int .u32 (r.ttl : Int), .int .u16 (l : Int), .int .i64 (k : Int), .slice none 0 0, strOf [], strOf [], .int .u32 0, .int .u32 0, .int .u32 0, .int .u32 0, .int .u32 0, .slice none 0 0, .slice none 0 0] 82 (0, 0))) (by kernel_rfl) (fun w1 g => ⟨g.kept hat9, g.kept h9'⟩) ?_
    intro wa ga hS
    refine WT 0 ?_
    refine WT 1 ?_
    refine WT 2 ?_
    refine WT 3 ?_
    refine WT 4 ?_
    refine WT 5 ?_
    refine WD_take (i := 6) rfl rfl rfl rfl (by kernel_rfl) (by assumption) (fun w' hS => by exact Y_conv (c := (l : Int)) vv (by rw [IntWalk.i64_in _ (by omega)])) ?_
    refine WD_take (i := 7) rfl rfl rfl rfl (by kernel_rfl) (by assumption) (fun w' hS => by exact Y_add (c := ((e + 10 + l : Nat) : Int)) vv vv (by rw [IntWalk.i64_in _ (by omega)]; omega)) ?_
    refine WD_one (c := 8) (by kernel_rfl) rfl ?_
    refine WL_assign vv (WL_nil ⟨hS, ?_⟩)
    refine WD_done (by kernel_rfl) ?_
    exact then_norm ⟨⟨rfl, rfl, rfl, rfl, trivial⟩, ga⟩
  rintro f2 wb ⟨he, gb⟩
  obtain ⟨f, rfl⟩ := he.form
  have hRb := hR9.grow gb
  have hatb := hRb.at_
  have hxb := gb.kept h9'
  rw [hsv] at hatb
  refine RUN ?_
  rw [show decide ((F.length : Int) < ((e + 10 + l : Nat) : Int)) = false from decide_eq_false (by omega)]
  refine RUN ?_
  refine WL_fun rfl ((hB w0 wb g b3 bv' F (e + 10) (e + 10 + l) wh1 r l hlt0 hRb hxb hbody hq hi.host hi.data).mono ?_)
  rintro e wc ⟨wh2, dv, rfl, hRc, hxc, hdv, hCc⟩
  refine ⟨_, rfl, ?_⟩
  refine GO ?_
  refine WL_loadRow vv hxc rfl ?_
  have h2g : b2 ≠ g := blk_ne hz2 hRz.at_ (by decide)
  have h25 := hC5.kept (hC4.kept (hC3.kept (hC2.kept (hC1.kept hz2 h2g) h2g) h2g) h2g) h2g
  have hb23 := (Array.getElem?_eq_some_iff.1 h25).1
  have h2c := hCc.kept (gb.kept (g79.kept h25)) (fun e => by rcases e with e | e; (exact h2g e); omega)
  have hwz : w.heap.size ≤ w5.heap.size := hCz.size
  have hwb : w5.heap.size ≤ wb.heap.size := Nat.le_trans g79.size gb.size
  refine WL_storeRow (new := (recCells (readRec k r l, ⟨dv, .slice none 0 0, .slice none 0 0⟩)).toArray) vv vv h2c rfl rfl (by
    obtain ⟨a1, c1, e1⟩ := ReadsAt.value hdv.reads
    simp [recCells, e1, Value.oneCell']) ?_
  intro wd hwd hd
  refine GO ?_
  have hCe : Chg (· = g) w wd := (((hCz.trans (Chg.of_below (S := (· = g)) g79) (fun _ _ h => h)).trans (Chg.of_below (S := (· = g)) gb) (fun _ _ h => h)).trans hCc (fun j hj e => by rcases e with e | e; (exact e); omega)).trans hwd (fun j hj e => by omega)
  exact retc Tryd.results73 rfl hd Tryd.underlying82 rfl (by kernel_rfl) ⟨wh2, dv, l, rfl, hl, hRc.to2 (S := (· = b2)) hwd (fun j e => by have := h.grows.size; omega) (hwd.kept hRc.at_ h2g.symm) hRc.le, (Acc.mono hdv (by omega)).wrote_ hwd (own_ne hdv.own h2c (by decide)), hCe⟩
end Go.Proofs.YtfoinoegabcigaaDoor
