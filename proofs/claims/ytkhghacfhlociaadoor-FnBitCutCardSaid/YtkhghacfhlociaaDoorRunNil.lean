/- The contract of run and BuildAsks where there are no steps and no bytes ahead. -/
import Derived.Test.YtkhghacfhlociaaDoorSame
import Derived.Test.YtkhghacfhlociaaDoorRegion
namespace Go.Proofs.YtkhghacfhlociaaDoor
open Go.RowKit
set_option maxHeartbeats 1000000
set_option maxRecDepth 100000

theorem getD_set {D : Array Bool} {i : Nat} (h : i < D.size) (k : Nat) : (D.setIfInBounds i true).getD k false = (decide (k = i) || D.getD k false) := by
  by_cases e : k = i
  · subst e; simp [Array.getD, h]
  · rw [decide_eq_false e, Bool.false_or, Array.getD_eq_getD_getElem?, Array.getD_eq_getD_getElem?, Array.getElem?_setIfInBounds_ne (fun x => e x.symm)]

theorem info98 : (Tryd.prog.info? 98).map (·.size) = some 10 := by kernel_rfl

/-- what holds in run's first region, whichever of its operations are done -/
structure NilI (id op code : Nat) (qr aa tc rd ra ad cd : Bool) (w : World) (D : Array Bool) (x9 x16 x17 x18 x19 x20 : Value) (w' : World) : Prop where
  below : Below w.heap.size w w'
  head : w'.heap[w.heap.size]? = some (.cells #[.int .u16 (id : Int), .bool qr, .int .u16 (op : Int), .bool aa, .bool tc, .bool rd, .bool ra, .bool ad, .bool cd, .int .u16 (code : Int)] 24 (0, 0))
  res : w'.heap[w.heap.size + 1]? = some (.cells #[.slice none 0 0, .slice none 0 0, .int .i64 0] 41 (0, 0))
  d0 : D.getD 0 false = true → x16 = .slice none 0 0
  d1 : D.getD 1 false = true → x17 = .slice none 0 0
  d2 : D.getD 2 false = true → x18 = .agg #[.int .u16 (id : Int), .bool qr, .int .u16 (op : Int), .bool aa, .bool tc, .bool rd, .bool ra, .bool ad, .bool cd, .int .u16 (code : Int)]
  d3 : D.getD 3 false = true → x19 = .agg #[.int .u16 (id : Int), .bool qr, .int .u16 (op : Int), .bool aa, .bool tc, .bool rd, .bool ra, .bool ad, .bool cd, .int .u16 (code : Int)]
  d4 : D.getD 4 false = true → ∃ g cap, x20 = .agg #[.slice (some ⟨g, 0, none⟩) 12 cap, .int .u8 1, .int .u16 (id : Int), .int .u16 (hsum op code qr aa tc rd ra ad cd), .int .u16 0, .int .u16 0, .int .u16 0, .int .u16 0, .int .i64 0, .map none] ∧ Own w' (.slice (some ⟨g, 0, none⟩) 12 cap) zeros12 ∧ w.heap.size ≤ g
  d5 : D.getD 5 false = true → ∃ b, x9 = .pointer (some ⟨b, 0, none⟩) ∧ w.heap.size + 2 ≤ b ∧ (D.getD 6 false = false → w'.heap[b]? = some (.cells #[.slice none 0 0, .int .u8 0, .int .u16 0, .int .u16 0, .int .u16 0, .int .u16 0, .int .u16 0, .int .u16 0, .int .i64 0, .map none] 98 (0, 0))) ∧
    (D.getD 6 false = true → ∃ g cap, w'.heap[b]? = some (.cells #[.slice (some ⟨g, 0, none⟩) 12 cap, .int .u8 1, .int .u16 (id : Int), .int .u16 (hsum op code qr aa tc rd ra ad cd), .int .u16 0, .int .u16 0, .int .u16 0, .int .u16 0, .int .i64 0, .map none] 98 (0, 0)) ∧ Own w' (.slice (some ⟨g, 0, none⟩) 12 cap) zeros12 ∧ w.heap.size ≤ g)
  d6 : D.getD 6 false = true → D.getD 5 false = true
/-- it is kept where memory only grows -/
theorem NilI.grow {id op code : Nat} {qr aa tc rd ra ad cd : Bool} {w : World} {D : Array Bool} {x9 x16 x17 x18 x19 x20 : Value} {w' w'' : World} (h : NilI id op code qr aa tc rd ra ad cd w D x9 x16 x17 x18 x19 x20 w') (hb : Below w'.heap.size w' w'') : NilI id op code qr aa tc rd ra ad cd w D x9 x16 x17 x18 x19 x20 w'' := by
  have kept : ∀ {k : Nat} {o : Obj}, w'.heap[k]? = some o → w''.heap[k]? = some o := fun {k o} hk => (hb.block k (Array.getElem?_eq_some_iff.1 hk).1).trans hk
  have own : ∀ {v : Value} {bs : Bytes}, Own w' v bs → Own w'' v bs := fun h => World.ownsRow.kept h (grownBy_of_below hb none) (by cases hv : Value.ownBlock _ <;> simp)
  refine ⟨h.below.trans (hb.mono h.below.size), kept h.head, kept h.res, h.d0, h.d1, h.d2, h.d3, fun d => ?_, fun d => ?_, h.d6⟩
  · obtain ⟨g, cap, e, o, hg⟩ := h.d4 d
    exact ⟨g, cap, e, own o, hg⟩
  · obtain ⟨b, e, hb, h1, h2⟩ := h.d5 d
    refine ⟨b, e, hb, fun d6 => kept (h1 d6), fun d6 => ?_⟩
    obtain ⟨g, cap, e, o, hg⟩ := h2 d6
    exact ⟨g, cap, kept e, own o, hg⟩

theorem impl_run_nil (id op code : Nat) (qr aa tc rd ra ad cd : Bool) (w : World) (fv : Value) (h1 : op < 16) (h3 : code < 16) (hid : id < 65536) :
    Calls Tryd.prog 33 #[.slice none 0 0, .agg #[.int .u16 (id : Int), .bool qr, .int .u16 (op : Int), .bool aa, .bool tc, .bool rd, .bool ra, .bool ad, .bool cd, .int .u16 (code : Int)], .slice none 0 0, fv] w
      fun e w' => ∃ g cap, e = .returned (.agg #[.slice none 0 0, .slice (some ⟨g, 0, none⟩) 12 cap, .int .i64 0]) ∧ Own w' (.slice (some ⟨g, 0, none⟩) 12 cap) (hdr id (hsum op code qr aa tc rd ra ad cd) 0 0 0 0) ∧ Below w.heap.size w w' ∧ w.heap.size ≤ g := by
  have hbits := hsum_bd (op : Int) (code : Int) qr aa tc rd ra ad cd (by omega) (by omega) (by omega) (by omega)
  go_enter Tryd.func33, Tryd.ntmps33
  go_upto_region 1 with fail
  refine wp_region_inv_at (by kernel_rfl) (by kernel_rfl) (fun a0 D a w' => ∃ x9 x16 x17 x18 x19 x20, a = (((((a0.put (some 9) x9).put (some 16) x16).put (some 17) x17).put (some 18) x18).put (some 19) x19).put (some 20) x20 ∧ NilI id op code qr aa tc rd ra ad cd w D x9 x16 x17 x18 x19 x20 w') ?h0 ?step ?fin
  case h0 =>
    refine ⟨undef, undef, undef, undef, undef, undef, rfl, ?_, ?_, ?_, ?_, ?_, ?_, ?_, ?_, ?_, ?_⟩
    · exact ((((Below.refl _ w).alloc (Nat.le_refl _) _).alloc (by simp) _)).drew
    · rw [hp_drew, hp_ne _ _ _ (by simp), hp_eq _ _ _ rfl]
    · rw [hp_drew, hp_eq _ _ _ (by simp)]
    all_goals (intro h; simp [Array.getD] at h)
  case step =>
    rintro D i ht a w' ⟨x9, x16, x17, x18, x19, x20, rfl, hI⟩
    have hi := ht.lt
    simp only [List.size_toArray, List.length_cons, List.length_nil] at hi
    have hD : i < D.size := by rw [ht.size]; exact ht.lt
    have hd := ht.deps
    have hop := ht.open_
    clear ht
    match i, hi, hD, hd, hop with
    | 0, _, hD, hd, _ =>
      refine wpOp_plain rfl rfl ?_
      go_simp
      have J := hI
      refine ⟨x9, .slice none 0 0, x17, x18, x19, x20, ⟨rfl, rfl, rfl, rfl, rfl, rfl⟩, J.below, J.head, J.res, ?_, ?_, ?_, ?_, ?_, ?_, ?_⟩
      all_goals (simp only [getD_set hD, Nat.reduceEqDiff, decide_false, decide_true, Bool.false_or, Bool.true_or])
      · first | exact fun _ => trivial | exact fun _ => rfl
      · first | exact J.d1 | exact fun _ => trivial
      · first | exact J.d2 | exact fun _ => trivial
      · first | exact J.d3 | exact fun _ => trivial
      · first | exact J.d4 | exact fun _ => trivial
      · first | exact J.d5 | exact fun _ => trivial
      · exact J.d6
    | 1, _, hD, hd, _ =>
      obtain rfl := hI.d0 (by simpa [Region.binds, Array.getD] using hd)
      refine wpOp_plain rfl rfl ?_
      go_simp
      have J := hI
      refine ⟨x9, .slice none 0 0, .slice none 0 0, x18, x19, x20, ⟨rfl, rfl, rfl, rfl, rfl, rfl⟩, J.below, J.head, J.res, ?_, ?_, ?_, ?_, ?_, ?_, ?_⟩
      all_goals (simp only [getD_set hD, Nat.reduceEqDiff, decide_false, decide_true, Bool.false_or, Bool.true_or])
      · first | exact J.d0 | exact fun _ => trivial
      · first | exact fun _ => trivial | exact fun _ => rfl
      · first | exact J.d2 | exact fun _ => trivial
      · first | exact J.d3 | exact fun _ => trivial
      · first | exact J.d4 | exact fun _ => trivial
      · first | exact J.d5 | exact fun _ => trivial
      · exact J.d6
    | 2, _, hD, hd, _ =>
      have c := fun j => cell_of_row w' _ j _ _ _ hI.head
      have J := Lib.hid hI
      clear hI hd
      refine wpOp_plain rfl rfl ?_
      go_simp
      have J := J.out
      refine ⟨x9, x16, x17, .agg #[.int .u16 (id : Int), .bool qr, .int .u16 (op : Int), .bool aa, .bool tc, .bool rd, .bool ra, .bool ad, .bool cd, .int .u16 (code : Int)], x19, x20, ⟨rfl, rfl, rfl, rfl, rfl, rfl⟩, J.below, J.head, J.res, ?_, ?_, ?_, ?_, ?_, ?_, ?_⟩
      all_goals (simp only [getD_set hD, Nat.reduceEqDiff, decide_false, decide_true, Bool.false_or, Bool.true_or])
      · first | exact J.d0 | exact fun _ => trivial
      · first | exact J.d1 | exact fun _ => trivial
      · first | exact fun _ => trivial | exact fun _ => rfl
      · first | exact J.d3 | exact fun _ => trivial
      · first | exact J.d4 | exact fun _ => trivial
      · first | exact J.d5 | exact fun _ => trivial
      · exact J.d6
    | 3, _, hD, hd, _ =>
      have hd2 : D.getD 2 false = true ∧ D.getD 1 false = true := by simpa [Region.binds, Array.getD] using hd
      obtain rfl := hI.d2 hd2.1
      have J := Lib.hid hI
      clear hI hd hd2
      refine wpOp_plain rfl rfl ?_
      go_simp
      refine (impl_headerOf id op code qr aa tc rd ra ad cd _).mono ?_
      rintro e w2 ⟨rfl, hb⟩
      go_simp
      have J := J.out.grow hb
      refine ⟨x9, x16, x17, .agg #[.int .u16 (id : Int), .bool qr, .int .u16 (op : Int), .bool aa, .bool tc, .bool rd, .bool ra, .bool ad, .bool cd, .int .u16 (code : Int)], .agg #[.int .u16 (id : Int), .bool qr, .int .u16 (op : Int), .bool aa, .bool tc, .bool rd, .bool ra, .bool ad, .bool cd, .int .u16 (code : Int)], x20, ⟨rfl, rfl, rfl, rfl, rfl, rfl⟩, J.below, J.head, J.res, ?_, ?_, ?_, ?_, ?_, ?_, ?_⟩
      all_goals (simp only [getD_set hD, Nat.reduceEqDiff, decide_false, decide_true, Bool.false_or, Bool.true_or])
      · first | exact J.d0 | exact fun _ => trivial
      · first | exact J.d1 | exact fun _ => trivial
      · first | exact J.d2 | exact fun _ => trivial
      · first | exact fun _ => trivial | exact fun _ => rfl
      · first | exact J.d4 | exact fun _ => trivial
      · first | exact J.d5 | exact fun _ => trivial
      · exact J.d6
    | 4, _, hD, hd, _ =>
      have hd2 : D.getD 1 false = true ∧ D.getD 3 false = true := by simpa [Region.binds, Array.getD] using hd
      obtain rfl := hI.d1 hd2.1
      obtain rfl := hI.d3 hd2.2
      have J := Lib.hid hI
      clear hI hd hd2
      refine wpOp_plain rfl rfl ?_
      go_simp
      refine (dns_NewBuilder_nil id op code qr aa tc rd ra ad cd _ (by omega) (by omega) (by omega) (by omega)).mono ?_
      rintro e w2 ⟨g, cap, rfl, ho, hg, hn⟩
      have hb : Below w'.heap.size w' w2 := below_of_grownBy hg (Nat.le_refl _) (by simp [Value.ownBlock])
      have hgg : w.heap.size ≤ g := by
        have := J.out.below.size
        rcases hn with h | h
        · cases h
        · omega
      go_simp
      have J := J.out.grow hb
      refine ⟨x9, x16, .slice none 0 0, x18, .agg #[.int .u16 (id : Int), .bool qr, .int .u16 (op : Int), .bool aa, .bool tc, .bool rd, .bool ra, .bool ad, .bool cd, .int .u16 (code : Int)], _, ⟨rfl, rfl, rfl, rfl, rfl, rfl⟩, J.below, J.head, J.res, ?_, ?_, ?_, ?_, ?_, ?_, ?_⟩
      all_goals (simp only [getD_set hD, Nat.reduceEqDiff, decide_false, decide_true, Bool.false_or, Bool.true_or])
      · first | exact J.d0 | exact fun _ => trivial
      · first | exact J.d1 | exact fun _ => trivial
      · first | exact J.d2 | exact fun _ => trivial
      · first | exact J.d3 | exact fun _ => trivial
      · first | exact fun _ => trivial | exact fun _ => ⟨g, cap, rfl, ho, hgg⟩
      · first | exact J.d5 | exact fun _ => trivial
      · exact J.d6
    | 5, _, hD, hd, hop =>
      have h5 : D.getD 5 false = false := by simpa [Array.getD, hD] using hop
      have J := Lib.hid hI
      clear hI hd hop
      refine wpOp_plain rfl rfl ?_
      go_simp
      have J0 := J.out
      have J := J0.grow ((Below.refl _ w').alloc (Nat.le_refl _) (.cells #[.slice none 0 0, .int .u8 0, .int .u16 0, .int .u16 0, .int .u16 0, .int .u16 0, .int .u16 0, .int .u16 0, .int .i64 0, .map none] 98))
      have hz := J0.below.size
      have hr := (Array.getElem?_eq_some_iff.1 J0.res).1
      refine ⟨_, x16, x17, x18, x19, x20, ⟨rfl, rfl, rfl, rfl, rfl, rfl⟩, J.below, J.head, J.res, ?_, ?_, ?_, ?_, ?_, ?_, ?_⟩
      all_goals (simp only [getD_set hD, Nat.reduceEqDiff, decide_false, decide_true, Bool.false_or, Bool.true_or])
      · first | exact J.d0 | exact fun _ => trivial
      · first | exact J.d1 | exact fun _ => trivial
      · first | exact J.d2 | exact fun _ => trivial
      · first | exact J.d3 | exact fun _ => trivial
      · first | exact J.d4 | exact fun _ => trivial
      · first | exact fun _ => trivial | exact fun _ => ⟨w'.heap.size, rfl, by omega, fun _ => hp_eq _ _ _ rfl, fun h6 => absurd (J0.d6 h6) (by rw [h5]; simp)⟩
      · exact fun _ => trivial
    | 6, _, hD, hd, hop =>
      have h6 : D.getD 6 false = false := by simpa [Array.getD, hD] using hop
      have hd2 : D.getD 5 false = true ∧ D.getD 4 false = true := by
        have hh : (((((((D.getD 5 false = true ∧ D.getD 4 false = true) ∧ D.getD 4 false = true) ∧ D.getD 0 false = true) ∧ D.getD 1 false = true) ∧ D.getD 2 false = true) ∧ D.getD 3 false = true) ∧ D.getD 4 false = true) ∧ D.getD 5 false = true := by simpa [Region.binds, Array.getD, and_assoc] using hd
        exact hh.1.1.1.1.1.1.1
      obtain ⟨b, rfl, hb, hz, _⟩ := hI.d5 hd2.1
      obtain ⟨g, cap, rfl, ho, hgg⟩ := hI.d4 hd2.2
      have hB := hz h6
      have J := hI
      refine wpOp_store_row rfl b (#[.slice (some ⟨g, 0, none⟩) 12 cap, .int .u8 1, .int .u16 (id : Int), .int .u16 (hsum op code qr aa tc rd ra ad cd), .int .u16 0, .int .u16 0, .int .u16 0, .int .u16 0, .int .i64 0, .map none]) (by simp [Act.eval, Act.put]) (by simp [Act.eval, Act.put]) 98 _ hB info98 rfl (by simp [Value.oneCell']) ?_
      have hC : Chg (fun k => k = b) w' (w'.setRow b (#[.slice (some ⟨g, 0, none⟩) 12 cap, .int .u8 1, .int .u16 (id : Int), .int .u16 (hsum op code qr aa tc rd ra ad cd), .int .u16 0, .int .u16 0, .int .u16 0, .int .u16 0, .int .i64 0, .map none])) := ⟨rfl, rfl, rfl, by simp, fun k _ hk => setRow_other w' b k _ hk⟩
      have hr := (Array.getElem?_eq_some_iff.1 J.res).1
      have ho' : Own (w'.setRow b (#[.slice (some ⟨g, 0, none⟩) 12 cap, .int .u8 1, .int .u16 (id : Int), .int .u16 (hsum op code qr aa tc rd ra ad cd), .int .u16 0, .int .u16 0, .int .u16 0, .int .u16 0, .int .i64 0, .map none])) (.slice (some ⟨g, 0, none⟩) 12 cap) zeros12 := World.ownsRow.kept ho (row := some b) ⟨rfl, rfl, rfl, by simp, fun k _ hk => setRow_other w' b k _ (fun e => hk (by rw [e]))⟩ (.inr (Own.ne ho hB (by decide)))
      refine ⟨.pointer (some ⟨b, 0, none⟩), x16, x17, x18, x19, .agg (#[.slice (some ⟨g, 0, none⟩) 12 cap, .int .u8 1, .int .u16 (id : Int), .int .u16 (hsum op code qr aa tc rd ra ad cd), .int .u16 0, .int .u16 0, .int .u16 0, .int .u16 0, .int .i64 0, .map none]), rfl, J.below.trans (hC.below (by omega) (by omega)), hC.kept J.head (by omega), hC.kept J.res (by omega), ?_, ?_, ?_, ?_, ?_, ?_, ?_⟩
      all_goals (simp only [getD_set hD, Nat.reduceEqDiff, decide_false, decide_true, Bool.false_or, Bool.true_or])
      · exact J.d0
      · exact J.d1
      · exact J.d2
      · exact J.d3
      · exact fun _ => ⟨g, cap, rfl, ho', hgg⟩
      · exact fun _ => ⟨b, rfl, hb, (fun h => by cases h), fun _ => ⟨g, cap, setRow_heap w' b _ _ _ _ hB, ho', hgg⟩⟩
      · exact fun _ => hd2.1
  case fin =>
    rintro D a w' hsz hall ⟨x9, x16, x17, x18, x19, x20, rfl, hI⟩
    have hD : ∀ i, i < 7 → D.getD i false = true := fun i hi => by
      have h := hall i (by simpa using hi)
      have hz := hsz
      rw [Array.getD_eq_getD_getElem?] at h ⊢
      simp only [List.size_toArray, List.length_cons, List.length_nil] at hz
      rw [Array.getElem?_eq_getElem (by omega)] at h ⊢
      exact h
    obtain rfl := hI.d0 (hD 0 (by omega))
    obtain rfl := hI.d1 (hD 1 (by omega))
    obtain rfl := hI.d2 (hD 2 (by omega))
    obtain rfl := hI.d3 (hD 3 (by omega))
    obtain ⟨g0, cap0, rfl, _, _⟩ := hI.d4 (hD 4 (by omega))
    obtain ⟨b, rfl, hb, _, h6⟩ := hI.d5 (hD 5 (by omega))
    obtain ⟨g, cap, hB, hO, hgg⟩ := h6 (hD 6 (by omega))
    have hA : BAt w' b (.slice (some ⟨g, 0, none⟩) 12 cap) (.map none) ⟨zeros12, 1, id, (hsum op code qr aa tc rd ra ad cd).toNat, 0, 0, 0, 0, 0, none⟩ := by
      refine ⟨?_, hO, rfl, ?_⟩
      · rw [hB]
        simp only [Int.toNat_of_nonneg hbits.1]
        rfl
      · unfold BSt.ok
        simp only [zeros12, List.length_cons, List.length_nil]
        omega
    have HA := Lib.hid hA
    have HR := Lib.hid hI.res
    have HBL := Lib.hid hI.below
    have hr := (Array.getElem?_eq_some_iff.1 hI.res).1
    clear hI hall hD h6 hB hO hA
    go_wp2_with fail
    refine wp_loop_rounds 1 ?_
    rw [rounds_succ]
    go_wp2_with fail
    refine (dns_Finish _ b _ _ _ (HA.out.alloc _) (Nat.le_refl 1)).mono ?_
    rintro e w2 ⟨rfl, hO2, hC2⟩
    have hA2 := HA.out.alloc (.cells #[.slice none 0 0, .slice none 0 0, .int .i64 0] 41)
    have ho1 : (w'.alloc (.cells #[.slice none 0 0, .slice none 0 0, .int .i64 0] 41)).heap[w'.heap.size]? = some (.cells #[.slice none 0 0, .slice none 0 0, .int .i64 0] 41 (0, 0)) := hp_eq _ _ _ rfl
    have hr1 : (w'.alloc (.cells #[.slice none 0 0, .slice none 0 0, .int .i64 0] 41)).heap[w.heap.size + 1]? = some (.cells #[.slice none 0 0, .slice none 0 0, .int .i64 0] 41 (0, 0)) := (hp_ne _ _ _ (by omega)).trans HR.out
    have ho2 := hC2.kept ho1 (hA2.far ho1 (by decide) (by decide))
    have hr2 := hC2.kept hr1 (hA2.far hr1 (by decide) (by decide))
    have co := fun j => cell_of_row w2 _ j _ _ _ ho2
    have fo := fun j => frozen_of_row w2 _ j _ _ ho2
    have cr := fun j => cell_of_row w2 _ j _ _ _ hr2
    have fr := fun j => frozen_of_row w2 _ j _ _ hr2
    have HB2 : Hid (Below w.heap.size w w2) := (HBL.out.alloc (by omega) _).trans (hC2.below (by simp; omega) (fun k hk => by
      rcases hk with rfl | hk | hk
      · omega
      · simp only [Value.ownBlock, Option.some.injEq] at hk; omega
      · cases hk))
    have HO2 := Lib.hid hO2
    have HHo := Lib.hid ho2
    have HHr := Lib.hid hr2
    have hne : ¬ w'.heap.size = w.heap.size + 1 := by omega
    clear hO2 hC2 ho2 hr2 ho1 hr1 hA2
    go_wp2_with (go_at_call 50; refine (impl_faultOf_nil _).mono ?_; rintro e w3 ⟨rfl, rfl⟩)
    refine bodyPost_ret (v := .agg #[.slice none 0 0, .slice (some ⟨g, 0, none⟩) 12 cap, .int .i64 0]) (by simp [results, Tryd.results33, go_sem, cr]) rfl ?_
    refine ⟨g, cap, rfl, ?_, ?_, hgg⟩
    · have o := HO2.out
      rw [Int.toNat_of_nonneg hbits.1] at o
      have n1 := Own.ne o HHo.out (by decide)
      have n2 := Own.ne o HHr.out (by decide)
      have ep : put zeros12 0 (hdr (id : Int) (hsum op code qr aa tc rd ra ad cd) ((0 : Nat) : Int) ((0 : Nat) : Int) ((0 : Nat) : Int) ((0 : Nat) : Int)) = hdr id (hsum op code qr aa tc rd ra ad cd) 0 0 0 0 := by
        rw [put, hdr_length]
        simp [zeros12]
      rw [ep] at o
      repeat (first | (with_reducible exact o) | ((with_reducible refine Own.setCell ?_ _ _ ?_); rotate_left; (first | (with_reducible exact n1) | (with_reducible exact n2))))
    · have o := HB2.out
      have hz := HBL.out.size
      repeat (first | (with_reducible exact o) | ((with_reducible refine Below.setCell ?_ ?_ _); rotate_left; (dsimp only; omega)))
end Go.Proofs.YtkhghacfhlociaaDoor
