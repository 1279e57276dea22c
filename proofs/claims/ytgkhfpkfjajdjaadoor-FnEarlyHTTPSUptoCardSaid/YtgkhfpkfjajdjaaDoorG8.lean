/- impl.run: a Builder goes through steps. -/
import Derived.Test.YtgkhfpkfjajdjaaDoorG7
import Derived.Test.YtgkhfpkfjajdjaaDoorG3
set_option linter.unusedVariables false
set_option linter.unusedSimpArgs false
namespace Go.Proofs.YtgkhfpkfjajdjaaDoor
open Go.RowKit
set_option maxHeartbeats 4000000
set_option maxRecDepth 100000

theorem dns_NewBuilder (h : HeadM) (hop : h.op < 16) (hcode : h.code < 16) (w : World) (v : Value) (buf : Bytes) (hown : Own w v buf) (hlen : buf.length + 12 ≤ 200000000000000) :
    Calls Tryd.prog 47 #[v, .agg (hcells h)] w (NewB h.id h.bits v buf w) := by
  rcases hown.2 with ⟨rfl, h0⟩ | ⟨g, cap, cur, rfl, hr⟩
  · have e : buf = [] := List.eq_nil_of_length_eq_zero h0
    subst e
    exact dns_NewBuilder_nil h.id h.op h.code h.qr h.aa h.tc h.rd h.ra h.ad h.cd w (by omega) (by omega) (by omega) (by omega)
  · exact dns_NewBuilder_buf h.id h.op h.code h.qr h.aa h.tc h.rd h.ra h.ad h.cd w (by omega) (by omega) (by omega) (by omega) g buf.length cap buf rfl hlen hown
theorem bits_bd (h : HeadM) (hop : h.op < 16) (hcode : h.code < 16) : 0 ≤ h.bits ∧ h.bits < 65536 := hsum_bd (h.op : Int) (h.code : Int) h.qr h.aa h.tc h.rd h.ra h.ad h.cd (by omega) (by omega) (by omega) (by omega)
theorem put_behind (pre out cs : Bytes) : put (pre ++ out) pre.length cs = pre ++ put out 0 cs := by
  unfold put
  rw [List.take_left, List.take_zero, List.nil_append, Nat.zero_add, List.drop_append, List.drop_of_length_le (by omega)]
  simp
theorem Known.grow {w w1 : World} (h : Known w) (hg : Grows w w1) : Known w1 := by
  obtain ⟨a0, a1, fr0, fr1, hne, h0, h1, s0, s1⟩ := h
  exact ⟨a0, a1, fr0, fr1, hne, hg.kept h0, hg.kept h1, s0.of_eq (hg.block _ s0.lt), s1.of_eq (hg.block _ s1.lt)⟩
/-- a code that ends in the usual way, and what holds then -/
theorem WC_stop {n : Nat} {P : Program} {c : Code} {Q : Cont} {f : Env} {w : World} (J : Env → World → Prop) (h : WC n P c (thenQ J (fun _ _ _ => False)) f w) (h2 : ∀ f w, J f w → Q .normal f w) : WC n P c Q f w :=
  WC_mono h fun e f w hq => by cases e <;> first | exact h2 _ _ hq.out | exact hq.out.elim
theorem reads_one {w : World} {b : Nat} {x : Value} {e : TypeId} {fr : Nat × Nat} (h : w.heap[b]? = some (.cells #[x] e fr)) : ReadsAt w 1 (.slice (some ⟨b, 0, none⟩) 1 1) 1 [x] := by
  refine ⟨by simp, some ⟨b, 0, none⟩, 1, rfl, by simp, fun j y hj => ⟨_, rfl, ?_⟩⟩
  rw [add_addr, cell_of_row w b (0 + j) _ _ _ h]
  simpa using hj
/-- what holds between two steps -/
structure LI (w0 w' : World) (b bo b8 : Nat) (mv cv : Value) (buf : Bytes) (id bits : Nat) (m : MSt) (fv : Value) (cs : List Int) : Prop where
  bm : BM w' b mv cv buf id bits m
  feet : ∀ k, Foot b mv cv k → w0.heap.size ≤ k
  grows : Grows w0 w'
  out : w'.heap[bo]? = some (.cells #[fv, .slice none 0 0, .int .i64 0] 49 (0, 0))
  outb : w0.heap.size ≤ bo
  res : w'.heap[b8]? = some (.cells #[.slice none 0 0, .slice none 0 0, .int .i64 0] 49 (0, 0))
  resb : w0.heap.size ≤ b8
  ne : bo ≠ b8
  faults : Acc w0.heap.size w' 3 1 fv cs.length (iv cs)
section
variable {w0 w' w1 : World} {b bo b8 : Nat} {mv cv : Value} {buf : Bytes} {id bits : Nat} {m m1 : MSt} {fv : Value} {cs : List Int}
theorem Acc.wrote_ {B : Nat} {w w' : World} {e size : Nat} {v : Value} {n : Nat} {xs : List Value} (h : Acc B w e size v n xs) {b : Nat} (hw : Wrote b w w') (hne : v.ownBlock ≠ some b) : Acc B w' e size v n xs :=
  ⟨h.own.kept ⟨hw.os, hw.tape, hw.output, hw.size, fun k hk hn => hw.block k hk (fun e => hn (by rw [e]))⟩ (.inr hne), h.base⟩
theorem Acc.solid {B : Nat} {w : World} {e size : Nat} {v : Value} {n : Nat} {xs : List Value} (h : Acc B w e size v n xs) {k : Nat} (hk : v.ownBlock = some k) : ∃ cur, w.heap[k]? = some (.cells cur e (0, 0)) := by
  rcases h.own.2 with ⟨rfl, _⟩ | ⟨g, cap, cur, rfl, _, hg, _⟩
  · cases hk
  · cases hk; exact ⟨cur, hg⟩
theorem LI.row (h : LI w0 w' b bo b8 mv cv buf id bits m fv cs) {k : Nat} (hk : fv.ownBlock = some k) : ¬ Foot b mv cv k := by
  obtain ⟨cur, hc⟩ := h.faults.solid hk
  exact h.bm.at_.far hc (by decide) (by decide)
theorem LI.grow (h : LI w0 w' b bo b8 mv cv buf id bits m fv cs) (hg : Grows w' w1) : LI w0 w1 b bo b8 mv cv buf id bits m fv cs :=
  ⟨h.bm.grow hg, h.feet, h.grows.trans hg, hg.kept h.out, h.outb, hg.kept h.res, h.resb, h.ne, h.faults.grow hg⟩
theorem LI.to (h : LI w0 w' b bo b8 mv cv buf id bits m fv cs) (ht : BTo w' b mv cv buf id bits w1 m1) : ∃ mv1 cv1, LI w0 w1 b bo b8 mv1 cv1 buf id bits m1 fv cs ∧ Chg (Foot b mv cv) w' w1 := by
  obtain ⟨mv1, cv1, hb, hc, hf⟩ := ht
  have hG : Grows w0 w1 := Below.trans h.grows (hc.below h.grows.size h.feet)
  refine ⟨mv1, cv1, ⟨hb, fun k hk => ?_, hG, hc.kept h.out (h.bm.at_.far h.out (by decide) (by decide)), h.outb, hc.kept h.res (h.bm.at_.far h.res (by decide) (by decide)), h.resb, h.ne, ⟨⟨h.faults.own.1, ?_⟩, h.faults.base⟩⟩, hc⟩
  · by_cases hlt : k < w'.heap.size
    · exact h.feet k (hf k hlt hk)
    · have := h.grows.size; omega
  · rcases h.faults.own.2 with h0 | ⟨g, cap, cur, rfl, hb, hg, hr⟩
    · exact .inl h0
    · exact .inr ⟨g, cap, cur, rfl, hb, hc.kept hg (h.row rfl), hr⟩
end
theorem gb_kept {w w' : World} {row : Option Nat} (h : w.grownBy w' row) {k : Nat} {o : Obj} (hk : w.heap[k]? = some o) (hne : row ≠ some k) : w'.heap[k]? = some o := (h.block k (Array.getElem?_eq_some_iff.1 hk).1 (fun e => hne e.symm)).trans hk
theorem impl_run (K : KindM) (LB : RecM → Nat) (F : FuncId) (hF : Callable Tryd.prog F) (w0 : World) (bufv : Value) (buf : Bytes) (h : HeadM) (sv : Value) (ss : List (StepM × RecV)) (hbuf : BytesAt w0 bufv buf) (hbl : buf.length ≤ lim) (hid : h.id < 65536) (hop : h.op < 16) (hcode : h.code < 16) (hss : StepsIn w0 sv ss)
    (hadd : (∀ x ∈ ss, x.1.act ≠ 7) ∨ AddC F K LB) (hlen : ∀ x ∈ ss, buf.length + (MSt.steps K .first (stepsOf ss)).2.out.length + 2000 + LB x.1.rec_ ≤ 200000000000000) (hE : Errs w0) (hK : Known w0) :
    Calls Tryd.prog 29 #[bufv, .agg (hcells h), sv, .func (.func F) #[] #[]] w0 (BuiltP w0 buf K h (stepsOf ss)) := by
  have hbits := bits_bd h hop hcode
  have hbl' : buf.length ≤ 140737488351232 := Nat.le_trans hbl (by decide)
  obtain ⟨aos, caps, rfl⟩ := hss.at_.value
  have hsn := hss.len
  refine calls_of_WC Tryd.func29 rfl Tryd.ntmps29 rfl ?_
  refine GO ?_
  refine WL_box vv ?_
  intro b5 w1 hb5 h5 g1
  refine WL_alloc ?_
  intro b8 w2 hb8 h8 g2
  have h52 := g2.kept h5
  have hz8 : w0.heap.size ≤ b8 := by have := g1.size; omega
  have G2 := g1.trans g2
  refine GO ?_
  refine WC_cut (fun f w' => ∃ b9 mv, EnvHas f [(2, .slice aos ss.length caps), (3, .func (.func F) #[] #[]), (8, .pointer (some ⟨b8, 0, none⟩)), (9, .pointer (some ⟨b9, 0, none⟩))] ∧ BM w' b9 mv (.map none) buf h.id h.bits.toNat .first ∧ (∀ k, Foot b9 mv (.map none) k → w0.heap.size ≤ k) ∧ Grows w0 w' ∧ w'.heap[b8]? = some (.cells #[.slice none 0 0, .slice none 0 0, .int .i64 0] 49 (0, 0))) ?_ ?_
  · refine WC_draws (fun w' => w'.heap[b5]? = some (.cells (hcells h) 24 (0, 0)) ∧ w'.heap[b8]? = some (.cells #[.slice none 0 0, .slice none 0 0, .int .i64 0] 49 (0, 0))) (by kernel_rfl) (fun w1 g => ⟨g.kept h52, g.kept h8⟩) ?_
    intro wc g3 hS
    have hG := G2.trans g3
    refine WT 0 ?_
    refine WD_take (i := 2) rfl rfl rfl rfl (by kernel_rfl) (by assumption) (fun w' hS => by exact Y_loadRow vv hS.1 rfl) ?_
    refine WD_two (c := 1) (c' := 5) (by kernel_rfl) rfl rfl ?_ ?_
    · refine WL_appendB (bs := []) vv (show Own _ (.slice none 0 0) [] from (Acc.nil 0 _ 5 1).own) vv (hbuf.grow hG) (by simp; omega) (by omega) ?_
      intro v17 wd hgr
      have hA : AccB w0.heap.size wd v17 buf := by have := AccB.grew (show AccB w0.heap.size _ (.slice none 0 0) [] from Acc.nil _ _ _ _) hgr hG.size; simpa using this
      have g : Grows _ wd := below_of_grownBy hgr.by_ (Nat.le_refl _) (by simp [Value.ownBlock])
      have hG := hG.trans g
      have hS := And.intro (g.kept hS.1) (g.kept hS.2)
      try (have h9 := g.kept h9)
      clear hgr g
      refine WL_nil ⟨hS, ?_⟩
      refine WD_two (c := 3) (c' := 5) (by kernel_rfl) rfl rfl ?_ ?_
      · refine WL_fun rfl ((impl_headerOf _ _ _ _ _ _ _ _ _ _ _).mono ?_)
        rintro e wd ⟨rfl, g⟩
        have g : Grows _ wd := g
        have hG := hG.trans g
        have hS := And.intro (g.kept hS.1) (g.kept hS.2)
        have hA := hA.grow g
        try (have h9 := g.kept h9)
        clear g
        refine ⟨_, rfl, WL_nil ⟨hS, ?_⟩⟩
        refine WD_two (c := 4) (c' := 5) (by kernel_rfl) rfl rfl ?_ ?_
        · refine WL_fun rfl ((dns_NewBuilder h hop hcode _ v17 buf hA.own (by omega)).mono ?_)
          rintro e wd ⟨g20, cap20, rfl, ho, hgb, hat⟩
          have hg20 : w0.heap.size ≤ g20 := by
            rcases hat with hat | hat
            · exact hA.base _ hat
            · have := hG.size; omega
          have hS := And.intro (gb_kept hgb hS.1 (own_ne hA.own hS.1 (by decide))) (gb_kept hgb hS.2 (own_ne hA.own hS.2 (by decide)))
          try (have h9 := gb_kept hgb h9 (own_ne hA.own h9 (by decide)))
          have hG : Grows w0 wd := Below.grown hG hgb hG.size (fun k hk => hA.base k hk)
          clear hA hgb hat
          refine ⟨_, rfl, WL_nil ⟨hS, ?_⟩⟩
          refine WD_one (c := 5) (by kernel_rfl) rfl ?_
          refine WL_alloc ?_
          intro b9 wd hb9 h9 g
          have hb9 : w0.heap.size ≤ b9 := by have := hG.size; omega
          have hG := hG.trans g
          have hS := And.intro (g.kept hS.1) (g.kept hS.2)
          try (have hA := hA.grow g)
          try (have ho := ho.grow g)
          clear g
          refine WL_nil ⟨hS, ?_⟩
          refine WD_one (c := 6) (by kernel_rfl) rfl ?_
          refine WL_storeRow (new := #[.slice (some ⟨g20, 0, none⟩) (buf.length + 12) cap20, .int .u8 1, .int .u16 (h.id : Int), .int .u16 h.bits, .int .u16 0, .int .u16 0, .int .u16 0, .int .u16 0, .int .i64 (buf.length : Int), .map none]) vv vv h9 rfl rfl (by simp [Value.oneCell']) ?_
          intro we hwe he
          have hbn : b8 ≠ b9 := fun e => by rw [e, h9] at hS; exact absurd hS.2 (by simp)
          have hS := And.intro (hwe.kept hS.1 (fun e => by rw [e, h9] at hS; exact absurd hS.1 (by simp))) (hwe.kept hS.2 hbn)
          refine WL_nil ⟨hS, ?_⟩
          refine WD_done (by kernel_rfl) ?_
          refine then_norm ⟨b9, .slice (some ⟨g20, 0, none⟩) (buf.length + 12) cap20, ⟨rfl, rfl, rfl, rfl, trivial⟩, ⟨⟨?_, ?_, rfl, ?_⟩, fun m e => by cases e⟩, ?_, hG.wrote hwe hb9, hS.2⟩
          · simp only [bst, MSt.first, Int.toNat_of_nonneg hbits.1]; exact he
          · exact ho.wrote hwe (Own.ne ho h9 (by decide))
          · unfold BSt.ok bst MSt.first; simp [zeros12]; omega
          · rintro k (e | e | e)
            · omega
            · simp only [Value.ownBlock, Option.some.injEq] at e; omega
            · cases e
        · refine WL_alloc ?_
          intro b9 wd hb9 h9 g
          have hb9 : w0.heap.size ≤ b9 := by have := hG.size; omega
          have hG := hG.trans g
          have hS := And.intro (g.kept hS.1) (g.kept hS.2)
          try (have hA := hA.grow g)
          try (have ho := ho.grow g)
          clear g
          refine WL_nil ⟨hS, ?_⟩
          refine WD_one (c := 4) (by kernel_rfl) rfl ?_
          refine WL_fun rfl ((dns_NewBuilder h hop hcode _ v17 buf hA.own (by omega)).mono ?_)
          rintro e wd ⟨g20, cap20, rfl, ho, hgb, hat⟩
          have hg20 : w0.heap.size ≤ g20 := by
            rcases hat with hat | hat
            · exact hA.base _ hat
            · have := hG.size; omega
          have hS := And.intro (gb_kept hgb hS.1 (own_ne hA.own hS.1 (by decide))) (gb_kept hgb hS.2 (own_ne hA.own hS.2 (by decide)))
          try (have h9 := gb_kept hgb h9 (own_ne hA.own h9 (by decide)))
          have hG : Grows w0 wd := Below.grown hG hgb hG.size (fun k hk => hA.base k hk)
          clear hA hgb hat
          refine ⟨_, rfl, WL_nil ⟨hS, ?_⟩⟩
          refine WD_one (c := 6) (by kernel_rfl) rfl ?_
          refine WL_storeRow (new := #[.slice (some ⟨g20, 0, none⟩) (buf.length + 12) cap20, .int .u8 1, .int .u16 (h.id : Int), .int .u16 h.bits, .int .u16 0, .int .u16 0, .int .u16 0, .int .u16 0, .int .i64 (buf.length : Int), .map none]) vv vv h9 rfl rfl (by simp [Value.oneCell']) ?_
          intro we hwe he
          have hbn : b8 ≠ b9 := fun e => by rw [e, h9] at hS; exact absurd hS.2 (by simp)
          have hS := And.intro (hwe.kept hS.1 (fun e => by rw [e, h9] at hS; exact absurd hS.1 (by simp))) (hwe.kept hS.2 hbn)
          refine WL_nil ⟨hS, ?_⟩
          refine WD_done (by kernel_rfl) ?_
          refine then_norm ⟨b9, .slice (some ⟨g20, 0, none⟩) (buf.length + 12) cap20, ⟨rfl, rfl, rfl, rfl, trivial⟩, ⟨⟨?_, ?_, rfl, ?_⟩, fun m e => by cases e⟩, ?_, hG.wrote hwe hb9, hS.2⟩
          · simp only [bst, MSt.first, Int.toNat_of_nonneg hbits.1]; exact he
          · exact ho.wrote hwe (Own.ne ho h9 (by decide))
          · unfold BSt.ok bst MSt.first; simp [zeros12]; omega
          · rintro k (e | e | e)
            · omega
            · simp only [Value.ownBlock, Option.some.injEq] at e; omega
            · cases e
      · refine WL_alloc ?_
        intro b9 wd hb9 h9 g
        have hb9 : w0.heap.size ≤ b9 := by have := hG.size; omega
        have hG := hG.trans g
        have hS := And.intro (g.kept hS.1) (g.kept hS.2)
        try (have hA := hA.grow g)
        try (have ho := ho.grow g)
        clear g
        refine WL_nil ⟨hS, ?_⟩
        refine WD_one (c := 3) (by kernel_rfl) rfl ?_
        refine WL_fun rfl ((impl_headerOf _ _ _ _ _ _ _ _ _ _ _).mono ?_)
        rintro e wd ⟨rfl, g⟩
        have g : Grows _ wd := g
        have hG := hG.trans g
        have hS := And.intro (g.kept hS.1) (g.kept hS.2)
        have hA := hA.grow g
        try (have h9 := g.kept h9)
        clear g
        refine ⟨_, rfl, WL_nil ⟨hS, ?_⟩⟩
        refine WD_one (c := 4) (by kernel_rfl) rfl ?_
        refine WL_fun rfl ((dns_NewBuilder h hop hcode _ v17 buf hA.own (by omega)).mono ?_)
        rintro e wd ⟨g20, cap20, rfl, ho, hgb, hat⟩
        have hg20 : w0.heap.size ≤ g20 := by
          rcases hat with hat | hat
          · exact hA.base _ hat
          · have := hG.size; omega
        have hS := And.intro (gb_kept hgb hS.1 (own_ne hA.own hS.1 (by decide))) (gb_kept hgb hS.2 (own_ne hA.own hS.2 (by decide)))
        try (have h9 := gb_kept hgb h9 (own_ne hA.own h9 (by decide)))
        have hG : Grows w0 wd := Below.grown hG hgb hG.size (fun k hk => hA.base k hk)
        clear hA hgb hat
        refine ⟨_, rfl, WL_nil ⟨hS, ?_⟩⟩
        refine WD_one (c := 6) (by kernel_rfl) rfl ?_
        refine WL_storeRow (new := #[.slice (some ⟨g20, 0, none⟩) (buf.length + 12) cap20, .int .u8 1, .int .u16 (h.id : Int), .int .u16 h.bits, .int .u16 0, .int .u16 0, .int .u16 0, .int .u16 0, .int .i64 (buf.length : Int), .map none]) vv vv h9 rfl rfl (by simp [Value.oneCell']) ?_
        intro we hwe he
        have hbn : b8 ≠ b9 := fun e => by rw [e, h9] at hS; exact absurd hS.2 (by simp)
        have hS := And.intro (hwe.kept hS.1 (fun e => by rw [e, h9] at hS; exact absurd hS.1 (by simp))) (hwe.kept hS.2 hbn)
        refine WL_nil ⟨hS, ?_⟩
        refine WD_done (by kernel_rfl) ?_
        refine then_norm ⟨b9, .slice (some ⟨g20, 0, none⟩) (buf.length + 12) cap20, ⟨rfl, rfl, rfl, rfl, trivial⟩, ⟨⟨?_, ?_, rfl, ?_⟩, fun m e => by cases e⟩, ?_, hG.wrote hwe hb9, hS.2⟩
        · simp only [bst, MSt.first, Int.toNat_of_nonneg hbits.1]; exact he
        · exact ho.wrote hwe (Own.ne ho h9 (by decide))
        · unfold BSt.ok bst MSt.first; simp [zeros12]; omega
        · rintro k (e | e | e)
          · omega
          · simp only [Value.ownBlock, Option.some.injEq] at e; omega
          · cases e
    · refine WL_alloc ?_
      intro b9 wd hb9 h9 g
      have hb9 : w0.heap.size ≤ b9 := by have := hG.size; omega
      have hG := hG.trans g
      have hS := And.intro (g.kept hS.1) (g.kept hS.2)
      try (have hA := hA.grow g)
      try (have ho := ho.grow g)
      clear g
      refine WL_nil ⟨hS, ?_⟩
      refine WD_one (c := 1) (by kernel_rfl) rfl ?_
      refine WL_appendB (bs := []) vv (show Own _ (.slice none 0 0) [] from (Acc.nil 0 _ 5 1).own) vv (hbuf.grow hG) (by simp; omega) (by omega) ?_
      intro v17 wd hgr
      have hA : AccB w0.heap.size wd v17 buf := by have := AccB.grew (show AccB w0.heap.size _ (.slice none 0 0) [] from Acc.nil _ _ _ _) hgr hG.size; simpa using this
      have g : Grows _ wd := below_of_grownBy hgr.by_ (Nat.le_refl _) (by simp [Value.ownBlock])
      have hG := hG.trans g
      have hS := And.intro (g.kept hS.1) (g.kept hS.2)
      try (have h9 := g.kept h9)
      clear hgr g
      refine WL_nil ⟨hS, ?_⟩
      refine WD_one (c := 3) (by kernel_rfl) rfl ?_
      refine WL_fun rfl ((impl_headerOf _ _ _ _ _ _ _ _ _ _ _).mono ?_)
      rintro e wd ⟨rfl, g⟩
      have g : Grows _ wd := g
      have hG := hG.trans g
      have hS := And.intro (g.kept hS.1) (g.kept hS.2)
      have hA := hA.grow g
      try (have h9 := g.kept h9)
      clear g
      refine ⟨_, rfl, WL_nil ⟨hS, ?_⟩⟩
      refine WD_one (c := 4) (by kernel_rfl) rfl ?_
      refine WL_fun rfl ((dns_NewBuilder h hop hcode _ v17 buf hA.own (by omega)).mono ?_)
      rintro e wd ⟨g20, cap20, rfl, ho, hgb, hat⟩
      have hg20 : w0.heap.size ≤ g20 := by
        rcases hat with hat | hat
        · exact hA.base _ hat
        · have := hG.size; omega
      have hS := And.intro (gb_kept hgb hS.1 (own_ne hA.own hS.1 (by decide))) (gb_kept hgb hS.2 (own_ne hA.own hS.2 (by decide)))
      try (have h9 := gb_kept hgb h9 (own_ne hA.own h9 (by decide)))
      have hG : Grows w0 wd := Below.grown hG hgb hG.size (fun k hk => hA.base k hk)
      clear hA hgb hat
      refine ⟨_, rfl, WL_nil ⟨hS, ?_⟩⟩
      refine WD_one (c := 6) (by kernel_rfl) rfl ?_
      refine WL_storeRow (new := #[.slice (some ⟨g20, 0, none⟩) (buf.length + 12) cap20, .int .u8 1, .int .u16 (h.id : Int), .int .u16 h.bits, .int .u16 0, .int .u16 0, .int .u16 0, .int .u16 0, .int .i64 (buf.length : Int), .map none]) vv vv h9 rfl rfl (by simp [Value.oneCell']) ?_
      intro we hwe he
      have hbn : b8 ≠ b9 := fun e => by rw [e, h9] at hS; exact absurd hS.2 (by simp)
      have hS := And.intro (hwe.kept hS.1 (fun e => by rw [e, h9] at hS; exact absurd hS.1 (by simp))) (hwe.kept hS.2 hbn)
      refine WL_nil ⟨hS, ?_⟩
      refine WD_done (by kernel_rfl) ?_
      refine then_norm ⟨b9, .slice (some ⟨g20, 0, none⟩) (buf.length + 12) cap20, ⟨rfl, rfl, rfl, rfl, trivial⟩, ⟨⟨?_, ?_, rfl, ?_⟩, fun m e => by cases e⟩, ?_, hG.wrote hwe hb9, hS.2⟩
      · simp only [bst, MSt.first, Int.toNat_of_nonneg hbits.1]; exact he
      · exact ho.wrote hwe (Own.ne ho h9 (by decide))
      · unfold BSt.ok bst MSt.first; simp [zeros12]; omega
      · rintro k (e | e | e)
        · omega
        · simp only [Value.ownBlock, Option.some.injEq] at e; omega
        · cases e
  rintro f3 w3 ⟨b9, mv, he3, hBM, hft, hG3, h83⟩
  obtain ⟨f, rfl⟩ := he3.form
  refine GO ?_
  refine WL_build (vs := []) (l := [.slice none 0 0, .slice none 0 0, .int .i64 0]) rfl trivial (by kernel_rfl) ?_
  refine WL_alloc ?_
  intro bo w4 hbo h4 g4
  refine WL_storeRow (new := #[.slice none 0 0, .slice none 0 0, .int .i64 0]) vv vv h4 rfl rfl (by simp [Value.oneCell']) ?_
  intro w5 hw5 h5'
  have G5 : Grows w3 w5 := g4.wrote hw5 hbo
  have hI0 : LI w0 w5 b9 bo b8 mv (.map none) buf h.id h.bits.toNat .first (.slice none 0 0) [] := by
    refine ⟨hBM.grow G5, hft, hG3.trans G5, h5', ?_, G5.kept h83, hz8, ?_, Acc.nil _ _ _ _⟩
    · have := hG3.size; omega
    · have := (Array.getElem?_eq_some_iff.1 h83).1; omega
  have hI := hI0
  clear hI0 hBM hft hG3 h83 h4 h5' hw5 g4 hbo
  refine GO ?_
  refine WC_loop (fun m f w' => ∃ (i : Nat) (mv cv fv : Value) (cs : List Int), m = ss.length - i ∧ i ≤ ss.length ∧ EnvHas f [(3, .func (.func F) #[] #[]), (8, .pointer (some ⟨b8, 0, none⟩)), (9, .pointer (some ⟨b9, 0, none⟩)), (10, .pointer (some ⟨bo, 0, none⟩)), (22, .slice aos ss.length caps), (23, .int .i64 (ss.length : Int)), (24, .int .i64 (i : Int))] ∧ LI w0 w' b9 bo b8 mv cv buf h.id h.bits.toNat (MSt.steps K .first ((stepsOf ss).take i)).2 fv cs ∧ Codes (MSt.steps K .first ((stepsOf ss).take i)).1 cs) ss.length ?_ ?_
  · exact ⟨0, mv, _, _, [], rfl, Nat.zero_le _, ⟨rfl, rfl, rfl, rfl, rfl, rfl, rfl, trivial⟩, hI, Codes.nil⟩
  clear hI
  rintro m f' w6 ⟨i, mv, cv, fv, cs, rfl, hi, he, hI, hC⟩
  obtain ⟨f, rfl⟩ := he.form
  have hfl : cs.length ≤ 1000000 := by
    have := hC.1
    rw [steps_length] at this
    simp only [stepsOf, List.length_take, List.length_map] at this
    omega
  refine GO ?_
  first | refine WC_sif vv (fun hc => ?_) (fun hc => ?_) | refine WC_if vv (fun hc => ?_) (fun hc => ?_)
  · have hlt : i < ss.length := by simpa using hc
    have hlt' : i < (stepsOf ss).length := by simpa [stepsOf] using hlt
    have hsi : (stepsOf ss)[i] = ss[i].1 := by simp [stepsOf]
    have htk := steps_take K .first (stepsOf ss) i hlt'
    have hol := steps_take_out K .first (stepsOf ss) i
    have hsec := steps_sec K ((stepsOf ss).take i) .first (by decide)
    rw [hsi] at htk
    have hmem : ss[i] ∈ ss := by simp
    have hlen1 := hlen ss[i] hmem
    generalize hmi : (MSt.steps K .first ((stepsOf ss).take i)).2 = mi at *
    generalize hfs : (MSt.steps K .first ((stepsOf ss).take i)).1 = fs at *
    generalize hMo : (MSt.steps K .first (stepsOf ss)).2.out.length = Mo at *
    refine GO ?_
    obtain ⟨b26, o26, cap26, hv26, hcell⟩ := (hss.grow hI.grows).at_.part (by decide) hlt
    cases hv26
    refine GO ?_
    refine WL_index vv vv hlt ?_
    refine WL_loadAgg (l := stepCells ss[i]) vv rfl hcell ?_
    refine WL_alloc ?_
    intro b12 w7 hb12 h7 g7
    have hAsk := hss.asks ss[i] hmem
    have hRec := (hss.recs ss[i] hmem)
    have hone : ∀ u ∈ stepCells ss[i], u.oneCell' = true := by
      intro u hu
      simp only [stepCells, List.mem_cons, List.mem_append] at hu
      rcases hu with rfl | hu | hu
      · rfl
      · simp only [askCells, List.mem_cons, List.not_mem_nil, or_false] at hu
        rcases hu with rfl | rfl | rfl <;> rfl
      · obtain ⟨a1, c1, e1⟩ := ReadsAt.value hRec.data
        obtain ⟨a2, c2, e2⟩ := ReadsAt.value hRec.texts
        obtain ⟨l, _, hl2, _⟩ := hRec.pairs.at_
        obtain ⟨a3, c3, e3⟩ := hl2.value
        simp only [recCells, List.mem_cons, List.not_mem_nil, or_false] at hu
        rcases hu with rfl | rfl | rfl | rfl | rfl | rfl | rfl | rfl | rfl | rfl | rfl | rfl | rfl | rfl | rfl | rfl <;> first | rfl | (rw [e1]; rfl) | (rw [e2]; rfl) | (rw [e3]; rfl)
    refine WL_storeRow (new := (stepCells ss[i]).toArray) vv vv h7 rfl rfl hone ?_
    intro w8 hw8 h8'
    have G8 : Grows w6 w8 := g7.wrote hw8 hb12
    have hI8 := hI.grow G8
    clear hI h7 hw8 g7 hcell hone
    refine GON ?_
    refine WC_stop (fun f w' => ∃ (c : Int) (mv cv : Value), EnvHas f [(3, .func (.func F) #[] #[]), (8, .pointer (some ⟨b8, 0, none⟩)), (9, .pointer (some ⟨b9, 0, none⟩)), (10, .pointer (some ⟨bo, 0, none⟩)), (13, .int .i64 c), (22, .slice (some ⟨b26, o26, none⟩) ss.length caps), (23, .int .i64 (ss.length : Int)), (24, .int .i64 (i : Int))] ∧ LI w0 w' b9 bo b8 mv cv buf h.id h.bits.toNat (mi.step K ss[i].1).2 fv cs ∧ (mi.step K ss[i].1).1.code c) ?_ ?_
    · refine GO ?_
      first | refine WC_sif vv (fun hc => ?_) (fun hc => ?_) | refine WC_if vv (fun hc => ?_) (fun hc => ?_)
      · have hact : ss[i].1.act = 1 := by simpa using hc
        have hst : mi.step K ss[i].1 = (.none, { mi with comp := some [] }) := by unfold MSt.step; rw [if_pos hact]
        rw [hst]
        refine GO ?_
        refine WL_fun rfl ((dns_EnableCompression w8 b9 mv cv buf _ _ mi hI8.bm).mono ?_)
        rintro e w9 ⟨v, rfl, hto⟩
        refine ⟨_, rfl, ?_⟩
        refine GO ?_
        obtain ⟨mv9, cv9, hI9, _⟩ := hI8.to hto
        exact ⟨0, mv9, cv9, ⟨rfl, rfl, rfl, rfl, rfl, rfl, rfl, rfl, trivial⟩, hI9, rfl⟩
      have n1 : ¬ ss[i].1.act = 1 := by simpa using hc
      clear hc
      refine GO ?_
      first | refine WC_sif vv (fun hc => ?_) (fun hc => ?_) | refine WC_if vv (fun hc => ?_) (fun hc => ?_)
      · have hact : ss[i].1.act = 2 := by simpa using hc
        have hst : mi.step K ss[i].1 = mi.start 2 := by unfold MSt.step; rw [if_neg n1, if_pos hact]
        rw [hst]
        refine GO ?_
        refine WL_fun rfl ((dns_StartQuestions w8 b9 mv cv buf _ _ mi hI8.bm hsec (hE.grow hI8.grows)).mono ?_)
        rintro e w9 ⟨v, rfl, hv, hto⟩
        refine ⟨_, rfl, ?_⟩
        obtain ⟨mv9, cv9, hI9, _⟩ := hI8.to hto
        refine GO ?_
        refine WL_fun rfl ((impl_faultOf w9 _ v hv (hK.grow hI9.grows)).mono ?_)
        rintro e w10 ⟨c, rfl, rfl, hcode⟩
        refine ⟨_, rfl, ?_⟩
        refine GO ?_
        exact ⟨c, mv9, cv9, ⟨rfl, rfl, rfl, rfl, rfl, rfl, rfl, rfl, trivial⟩, hI9, hcode⟩
      have n2 : ¬ ss[i].1.act = 2 := by simpa using hc
      clear hc
      refine GO ?_
      first | refine WC_sif vv (fun hc => ?_) (fun hc => ?_) | refine WC_if vv (fun hc => ?_) (fun hc => ?_)
      · have hact : ss[i].1.act = 3 := by simpa using hc
        have hst : mi.step K ss[i].1 = mi.start 3 := by unfold MSt.step; rw [if_neg n1, if_neg n2, if_pos hact]
        rw [hst]
        refine GO ?_
        refine WL_fun rfl ((dns_StartAnswers w8 b9 mv cv buf _ _ mi hI8.bm hsec (hE.grow hI8.grows)).mono ?_)
        rintro e w9 ⟨v, rfl, hv, hto⟩
        refine ⟨_, rfl, ?_⟩
        obtain ⟨mv9, cv9, hI9, _⟩ := hI8.to hto
        refine GO ?_
        refine WL_fun rfl ((impl_faultOf w9 _ v hv (hK.grow hI9.grows)).mono ?_)
        rintro e w10 ⟨c, rfl, rfl, hcode⟩
        refine ⟨_, rfl, ?_⟩
        refine GO ?_
        exact ⟨c, mv9, cv9, ⟨rfl, rfl, rfl, rfl, rfl, rfl, rfl, rfl, trivial⟩, hI9, hcode⟩
      have n3 : ¬ ss[i].1.act = 3 := by simpa using hc
      clear hc
      refine GO ?_
      first | refine WC_sif vv (fun hc => ?_) (fun hc => ?_) | refine WC_if vv (fun hc => ?_) (fun hc => ?_)
      · have hact : ss[i].1.act = 4 := by simpa using hc
        have hst : mi.step K ss[i].1 = mi.start 4 := by unfold MSt.step; rw [if_neg n1, if_neg n2, if_neg n3, if_pos hact]
        rw [hst]
        refine GO ?_
        refine WL_fun rfl ((dns_StartAuthorities w8 b9 mv cv buf _ _ mi hI8.bm hsec (hE.grow hI8.grows)).mono ?_)
        rintro e w9 ⟨v, rfl, hv, hto⟩
        refine ⟨_, rfl, ?_⟩
        obtain ⟨mv9, cv9, hI9, _⟩ := hI8.to hto
        refine GO ?_
        refine WL_fun rfl ((impl_faultOf w9 _ v hv (hK.grow hI9.grows)).mono ?_)
        rintro e w10 ⟨c, rfl, rfl, hcode⟩
        refine ⟨_, rfl, ?_⟩
        refine GO ?_
        exact ⟨c, mv9, cv9, ⟨rfl, rfl, rfl, rfl, rfl, rfl, rfl, rfl, trivial⟩, hI9, hcode⟩
      have n4 : ¬ ss[i].1.act = 4 := by simpa using hc
      clear hc
      refine GO ?_
      first | refine WC_sif vv (fun hc => ?_) (fun hc => ?_) | refine WC_if vv (fun hc => ?_) (fun hc => ?_)
      · have hact : ss[i].1.act = 5 := by simpa using hc
        have hst : mi.step K ss[i].1 = mi.start 5 := by unfold MSt.step; rw [if_neg n1, if_neg n2, if_neg n3, if_neg n4, if_pos hact]
        rw [hst]
        refine GO ?_
        refine WL_fun rfl ((dns_StartAdditionals w8 b9 mv cv buf _ _ mi hI8.bm hsec (hE.grow hI8.grows)).mono ?_)
        rintro e w9 ⟨v, rfl, hv, hto⟩
        refine ⟨_, rfl, ?_⟩
        obtain ⟨mv9, cv9, hI9, _⟩ := hI8.to hto
        refine GO ?_
        refine WL_fun rfl ((impl_faultOf w9 _ v hv (hK.grow hI9.grows)).mono ?_)
        rintro e w10 ⟨c, rfl, rfl, hcode⟩
        refine ⟨_, rfl, ?_⟩
        refine GO ?_
        exact ⟨c, mv9, cv9, ⟨rfl, rfl, rfl, rfl, rfl, rfl, rfl, rfl, trivial⟩, hI9, hcode⟩
      have n5 : ¬ ss[i].1.act = 5 := by simpa using hc
      clear hc
      refine GO ?_
      first | refine WC_sif vv (fun hc => ?_) (fun hc => ?_) | refine WC_if vv (fun hc => ?_) (fun hc => ?_)
      · have hact : ss[i].1.act = 6 := by simpa using hc
        have hst : mi.step K ss[i].1 = mi.ask ss[i].1.ask := by unfold MSt.step; rw [if_neg n1, if_neg n2, if_neg n3, if_neg n4, if_neg n5, if_pos hact]
        rw [hst]
        refine GO ?_
        refine WL_loadPart (l := askCells ss[i].1.ask) vv h8' rfl rfl ?_
        refine WL_fun rfl ((impl_questionOf w8 ss[i].1.ask).mono ?_)
        rintro e w9 ⟨rfl, g9⟩
        have g9 : Grows w8 w9 := g9
        refine ⟨_, rfl, ?_⟩
        have hI9 := hI8.grow g9
        refine WL_fun rfl ((dns_Question w9 b9 mv cv buf _ _ mi hI9.bm ss[i].1.ask hAsk.type hAsk.cls (by rw [List.length_append]; omega) (hE.grow hI9.grows)).mono ?_)
        rintro e w10 ⟨v, rfl, hv, hto⟩
        refine ⟨_, rfl, ?_⟩
        obtain ⟨mv10, cv10, hI10, _⟩ := hI9.to hto
        refine GO ?_
        refine WL_fun rfl ((impl_faultOf w10 _ v hv (hK.grow hI10.grows)).mono ?_)
        rintro e w11 ⟨c, rfl, rfl, hcode⟩
        refine ⟨_, rfl, ?_⟩
        refine GO ?_
        exact ⟨c, mv10, cv10, ⟨rfl, rfl, rfl, rfl, rfl, rfl, rfl, rfl, trivial⟩, hI10, hcode⟩
      have n6 : ¬ ss[i].1.act = 6 := by simpa using hc
      clear hc
      refine GO ?_
      first | refine WC_sif vv (fun hc => ?_) (fun hc => ?_) | refine WC_if vv (fun hc => ?_) (fun hc => ?_)
      · have hact : ss[i].1.act = 7 := by simpa using hc
        have hst : mi.step K ss[i].1 = mi.rec_ K ss[i].1.rec_ := by unfold MSt.step; rw [if_neg n1, if_neg n2, if_neg n3, if_neg n4, if_neg n5, if_neg n6, if_pos hact]
        rw [hst]
        have hadd' : AddC F K LB := by
          rcases hadd with ha | ha
          · exact absurd hact (ha ss[i] hmem)
          · exact ha
        refine WC_draws (fun w' => w'.heap[b12]? = some (.cells (stepCells ss[i]).toArray 67 (0, 0))) (by kernel_rfl) (fun w1 g => g.kept h8') ?_
        intro w9 g9 hS9
        have hI9 := hI8.grow g9
        refine WT 0 ?_
        refine WT 1 ?_
        refine WT 4 ?_
        refine WD_take (i := 2) rfl rfl rfl rfl (by kernel_rfl) (by assumption) (fun w' hS => by (refine Y_loadPart (P := Tryd.prog) (t := 30) (k := 16) (o := 0 + 4) (l := recCells (ss[i].1.rec_, ss[i].2)) ?_ hS rfl rfl; conv => { lhs; whnf })) ?_
        refine WD_take (i := 5) rfl rfl rfl rfl (by kernel_rfl) (by assumption) (fun w' hS => by (refine Y_loadPart (P := Tryd.prog) (t := 30) (k := 16) (o := 0 + 4) (l := recCells (ss[i].1.rec_, ss[i].2)) ?_ hS rfl rfl; conv => { lhs; whnf })) ?_
        refine WD_one (c := 3) (by kernel_rfl) rfl ?_
        refine WL_fun rfl ((impl_resourceHeaderOf w9 (ss[i].1.rec_, ss[i].2)).mono ?_)
        rintro e w10 ⟨rfl, g10⟩
        have g10 : Grows w9 w10 := g10
        have hI10 := hI9.grow g10
        have hS10 := g10.kept hS9
        refine ⟨_, rfl, WL_nil ⟨hS10, ?_⟩⟩
        refine WD_one (c := 6) (by kernel_rfl) rfl ?_
        refine WL_funv hF vv rfl ((hadd' w10 b9 mv cv buf _ _ mi (ss[i].1.rec_, ss[i].2) hI10.bm (hRec.grow hI10.grows) (by rw [List.length_append]; simp only; omega) (hE.grow hI10.grows)).mono ?_)
        rintro e w11 ⟨v, rfl, hv, hto⟩
        obtain ⟨mv11, cv11, hI11, hC11⟩ := hI10.to hto
        have hS11 := hC11.kept hS10 (hI10.bm.at_.far hS10 (by decide) (by decide))
        refine ⟨_, rfl, WL_nil ⟨hS11, ?_⟩⟩
        refine WD_one (c := 7) (by kernel_rfl) rfl ?_
        refine WL_fun rfl ((impl_faultOf w11 _ v hv (hK.grow hI11.grows)).mono ?_)
        rintro e w12 ⟨c, rfl, rfl, hcode⟩
        refine ⟨_, rfl, WL_nil ⟨hS11, ?_⟩⟩
        refine WD_one (c := 8) (by kernel_rfl) rfl ?_
        refine WL_assign vv (WL_nil ⟨hS11, ?_⟩)
        refine WD_done (by kernel_rfl) ?_
        refine GO ?_
        exact ⟨c, mv11, cv11, ⟨rfl, rfl, rfl, rfl, rfl, rfl, rfl, rfl, trivial⟩, hI11, hcode⟩
      have n7 : ¬ ss[i].1.act = 7 := by simpa using hc
      clear hc
      have hst : mi.step K ss[i].1 = (.none, mi) := by unfold MSt.step; rw [if_neg n1, if_neg n2, if_neg n3, if_neg n4, if_neg n5, if_neg n6, if_neg n7]
      rw [hst]
      refine GO ?_
      exact ⟨0, mv, cv, ⟨rfl, rfl, rfl, rfl, rfl, rfl, rfl, rfl, trivial⟩, hI8, rfl⟩
    rintro f9 w9 ⟨c, mv9, cv9, he9, hI9, hc9⟩
    obtain ⟨f, rfl⟩ := he9.form
    clear hI8 h8' G8
    obtain ⟨aof, capf, hfv⟩ := hI9.faults.reads.value
    have hout := hI9.out
    refine GO ?_
    refine WL_slice (vs := [.int .i64 c]) rfl (by simp) rfl (by simp [Value.cells]) rfl ?_
    intro b69 w10 hb69 h69 g10
    have hI10 := hI9.grow g10
    have h69' : w10.heap[b69]? = some (.cells #[.int .i64 c] 3 (0, 0)) := h69
    refine WL_append (t := 47) vv hI10.faults.own vv (reads_one h69') (by simp [Value.oneCell']) ⟨by omega, by omega, by omega⟩ ?_
    intro v70 w11 hgr
    have hchg : Chg (fun k => fv.ownBlock = some k) w10 w11 := Chg.of_grownBy hgr.by_ (fun k hk => hk) (fun k hk => by
      rcases hgr.old.2 with ⟨e0, _⟩ | ⟨g, cap, cur, e0, _, hg, _⟩
      · rw [e0] at hk; cases hk
      · rw [e0] at hk; cases hk; exact ⟨_, _, hg⟩)
    have hacc : Acc w0.heap.size w11 3 1 v70 (cs ++ [c]).length (iv (cs ++ [c])) := by
      have := hI10.faults.grew hgr hI10.grows.size
      simpa [iv] using this
    have hG11 : Grows w0 w11 := hI10.faults.below hgr hI10.grows.size hI10.grows
    have hout11 := Grew.kept hgr hI10.out (own_ne hI10.faults.own hI10.out (by decide))
    have hres11 := Grew.kept hgr hI10.res (own_ne hI10.faults.own hI10.res (by decide))
    have hbm11 : BM w11 b9 mv9 cv9 buf h.id h.bits.toNat (mi.step K ss[i].1).2 := ⟨hI10.bm.at_.chg hchg (fun k hk hs => hI10.row hs hk), hI10.bm.ck⟩
    refine GO ?_
    refine WL_store1 vv vv hout11 (by simp) (by obtain ⟨a, cp, e⟩ := hacc.reads.value; rw [e]; rfl) ?_
    intro w12 hw12 h12
    have hbm12 : BM w12 b9 mv9 cv9 buf h.id h.bits.toNat (mi.step K ss[i].1).2 := ⟨hbm11.at_.chg hw12 (fun k hk hs => hbm11.at_.far hout11 (by decide) (by decide) (by rw [← hs]; exact hk)), hbm11.ck⟩
    have hI12 : LI w0 w12 b9 bo b8 mv9 cv9 buf h.id h.bits.toNat (mi.step K ss[i].1).2 v70 (cs ++ [c]) :=
      ⟨hbm12, hI9.feet, hG11.wrote hw12 hI9.outb, h12, hI9.outb, hw12.kept hres11 hI9.ne.symm, hI9.resb, hI9.ne, ⟨hacc.own.kept ⟨hw12.os, hw12.tape, hw12.output, hw12.size, fun k hk hne => hw12.block k hk (fun e => hne (by rw [e]))⟩ (.inr (own_ne hacc.own hout11 (by decide))), hacc.base⟩⟩
    refine GO ?_
    refine WL_inc vv (by omega) ?_
    refine GO ?_
    refine ⟨ss.length - (i + 1), by omega, i + 1, mv9, cv9, v70, cs ++ [c], rfl, hlt, ⟨rfl, rfl, rfl, rfl, rfl, rfl, rfl, trivial⟩, ?_, ?_⟩
    · rw [htk]; exact hI12
    · rw [htk]; exact hC.snoc hc9
  have hge : i = ss.length := by have := of_decide_eq_false hc; omega
  subst hge
  have htl : (stepsOf ss).take ss.length = stepsOf ss := List.take_of_length_le (by simp [stepsOf])
  rw [htl] at hI hC
  clear hlen hadd
  refine GO ?_
  refine WL_fun rfl ((dns_Finish w6 b9 mv cv _ hI.bm.at_ (steps_sec K (stepsOf ss) .first (by decide))).mono ?_)
  rintro e w7 ⟨rfl, ho7, hc7⟩
  refine ⟨_, rfl, ?_⟩
  have hG7 : Grows w0 w7 := Below.trans hI.grows (hc7.below hI.grows.size hI.feet)
  have hout7 := hc7.kept hI.out (hI.bm.at_.far hI.out (by decide) (by decide))
  have hres7 := hc7.kept hI.res (hI.bm.at_.far hI.res (by decide) (by decide))
  have hfl7 : Acc w0.heap.size w7 3 1 fv cs.length (iv cs) := by
    refine ⟨⟨hI.faults.own.1, ?_⟩, hI.faults.base⟩
    rcases hI.faults.own.2 with h0 | ⟨g, cap, cur, rfl, hb, hg, hr⟩
    · exact .inl h0
    · exact .inr ⟨g, cap, cur, rfl, hb, hc7.kept hg (hI.row rfl), hr⟩
  have hdata7 : AccB w0.heap.size w7 mv (buf ++ (MSt.steps K .first (stepsOf ss)).2.final h) := by
    have e1 := put_behind buf (MSt.steps K .first (stepsOf ss)).2.out (hdr h.id h.bits (MSt.steps K .first (stepsOf ss)).2.q (MSt.steps K .first (stepsOf ss)).2.an (MSt.steps K .first (stepsOf ss)).2.ns (MSt.steps K .first (stepsOf ss)).2.ar)
    simp only [bst, Int.toNat_of_nonneg hbits.1] at ho7
    rw [e1] at ho7
    exact ⟨ho7, fun k hk => hI.feet k (.inr (.inl hk))⟩
  obtain ⟨aod, capd, hmv⟩ := ReadsAt.value hdata7.reads
  have hmv1 : mv.oneCell' = true := by rw [hmv]; rfl
  have hfv1 : fv.oneCell' = true := by obtain ⟨a, cp, e⟩ := hfl7.reads.value; rw [e]; rfl
  refine GO ?_
  refine WL_fun rfl ((impl_faultOf w7 .none .nilIface rfl (hK.grow hG7)).mono ?_)
  rintro e w8 ⟨c, rfl, rfl, hcd⟩
  obtain rfl : c = 0 := hcd
  refine ⟨_, rfl, ?_⟩
  refine GO ?_
  refine WL_store1 vv vv hout7 (by simp) hmv1 ?_
  intro w9 hw9 h9
  refine GO ?_
  refine WL_store1 vv vv h9 (by simp) rfl ?_
  intro w10 hw10 h10
  refine GO ?_
  refine WL_loadRow vv h10 rfl ?_
  have hone3 : ∀ u ∈ (#[fv, mv, .int .i64 0] : Array Value).toList, u.oneCell' = true := by
    intro u hu
    rcases (by simpa using hu : u = fv ∨ u = mv ∨ u = .int .i64 0) with rfl | rfl | rfl
    · exact hfv1
    · exact hmv1
    · rfl
  refine WL_storeRow (new := #[fv, mv, .int .i64 0]) vv (by rfl) (hw10.kept (hw9.kept hres7 hI.ne.symm) hI.ne.symm) rfl rfl hone3 ?_
  intro w11 hw11 h11
  refine GO ?_
  have hG11 : Grows w0 w11 := ((hG7.wrote hw9 hI.outb).wrote hw10 hI.outb).wrote hw11 hI.resb
  have nf : fv.ownBlock ≠ some bo := own_ne hfl7.own hout7 (by decide)
  have nf8 : fv.ownBlock ≠ some b8 := own_ne hfl7.own hres7 (by decide)
  have nd : mv.ownBlock ≠ some bo := own_ne hdata7.own hout7 (by decide)
  have nd8 : mv.ownBlock ≠ some b8 := own_ne hdata7.own hres7 (by decide)
  exact retc Tryd.results29 rfl h11 Tryd.underlying49 rfl (by kernel_rfl) ⟨_, fv, mv, cs, rfl, rfl, hC, ((hfl7.wrote_ hw9 nf).wrote_ hw10 nf).wrote_ hw11 nf8, ((Acc.wrote_ hdata7 hw9 nd).wrote_ hw10 nd).wrote_ hw11 nd8, hG11⟩
end Go.Proofs.YtgkhfpkfjajdjaaDoor

/- What all functions that build share. -/
namespace Go.Proofs.YtgkhfpkfjajdjaaDoor
open Go.RowKit
set_option maxHeartbeats 2000000
set_option maxRecDepth 100000

/-- what a function that builds does; 'recs' tells whether it may be handed records -/
def BuildC (F : FuncId) (K : KindM) (LB : RecM → Nat) (recs : Bool) : Prop := ∀ (w : World) (bufv : Value) (buf : Bytes) (h : HeadM) (sv : Value) (ss : List (StepM × RecV)), BytesAt w bufv buf → buf.length ≤ lim → h.id < 65536 → h.op < 16 → h.code < 16 → StepsIn w sv ss →
  (recs = false → ∀ x ∈ ss, x.1.act ≠ 7) → (∀ x ∈ ss, buf.length + (MSt.steps K .first (stepsOf ss)).2.out.length + 2000 + LB x.1.rec_ ≤ 200000000000000) → Errs w → Known w →
  Calls Tryd.prog F #[bufv, .agg (hcells h), sv] w (BuiltP w buf K h (stepsOf ss))
theorem BuiltIs.mono {w0 w w' : World} {buf : Bytes} {K : KindM} {h : HeadM} {ss : List StepM} {v fv dv : Value} {cs : List Int} (hb : BuiltIs w w' buf K h ss v fv dv cs) (hg : Grows w0 w) : BuiltIs w0 w' buf K h ss v fv dv cs :=
  ⟨hb.val, hb.codes, hb.faults.mono hg.size, Acc.mono hb.data hg.size, hg.trans hb.grows⟩
theorem BuiltIs.grow {w0 w w' : World} {buf : Bytes} {K : KindM} {h : HeadM} {ss : List StepM} {v fv dv : Value} {cs : List Int} (hb : BuiltIs w0 w buf K h ss v fv dv cs) (hg : Grows w w') : BuiltIs w0 w' buf K h ss v fv dv cs :=
  ⟨hb.val, hb.codes, hb.faults.grow hg, hb.data.grow hg, hb.grows.trans hg⟩
theorem BuiltIs.wrote {w0 w w' : World} {buf : Bytes} {K : KindM} {h : HeadM} {ss : List StepM} {v fv dv : Value} {cs : List Int} (hb : BuiltIs w0 w buf K h ss v fv dv cs) {b : Nat} {c : Array Value} {t : TypeId} {fr : Nat × Nat} (hw : Wrote b w w') (hc : w.heap[b]? = some (.cells c t fr)) (ht : t ≠ 3) (ht2 : t ≠ 5) (h0 : w0.heap.size ≤ b) : BuiltIs w0 w' buf K h ss v fv dv cs :=
  ⟨hb.val, hb.codes, hb.faults.wrote_ hw (own_ne hb.faults.own hc ht), Acc.wrote_ hb.data hw (own_ne hb.data.own hc ht2), hb.grows.wrote hw h0⟩
theorem BuiltIs.one {w0 w : World} {buf : Bytes} {K : KindM} {h : HeadM} {ss : List StepM} {v fv dv : Value} {cs : List Int} (hb : BuiltIs w0 w buf K h ss v fv dv cs) : ∀ u ∈ (#[fv, dv, .int .i64 0] : Array Value).toList, u.oneCell' = true := by
  intro u hu
  obtain ⟨a1, c1, e1⟩ := hb.faults.reads.value
  obtain ⟨a2, c2, e2⟩ := ReadsAt.value hb.data.reads
  rcases (by simpa using hu : u = fv ∨ u = dv ∨ u = .int .i64 0) with rfl | rfl | rfl
  · rw [e1]; rfl
  · rw [e2]; rfl
  · rfl
end Go.Proofs.YtgkhfpkfjajdjaaDoor
