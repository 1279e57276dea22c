/- BuildAsks where there are no steps, and the four laws on bits: their walks. -/
import Derived.Test.YtkhghacfhlociaaDoorRunNil
namespace Go.Proofs.YtkhghacfhlociaaDoor
open Go.RowKit
set_option maxHeartbeats 1000000
set_option maxRecDepth 100000

theorem impl_BuildAsks_nil (id op code : Nat) (qr aa tc rd ra ad cd : Bool) (w : World) (h1 : op < 16) (h3 : code < 16) (hid : id < 65536) :
    Calls Tryd.prog 17 #[.slice none 0 0, .agg #[.int .u16 (id : Int), .bool qr, .int .u16 (op : Int), .bool aa, .bool tc, .bool rd, .bool ra, .bool ad, .bool cd, .int .u16 (code : Int)], .slice none 0 0] w
      fun e w' => ∃ g cap, e = .returned (.agg #[.slice none 0 0, .slice (some ⟨g, 0, none⟩) 12 cap, .int .i64 0]) ∧ Own w' (.slice (some ⟨g, 0, none⟩) 12 cap) (hdr id (hsum op code qr aa tc rd ra ad cd) 0 0 0 0) ∧ Below w.heap.size w w' ∧ w.heap.size ≤ g := by
  go_enter Tryd.func17, Tryd.ntmps17
  go_wp2_with fail
  refine (impl_run_nil id op code qr aa tc rd ra ad cd _ _ h1 h3 hid).mono ?_
  rintro e w1 ⟨g, cap, rfl, ho, hb, hgg⟩
  simp only [World.size_alloc] at hgg
  have hr : w1.heap[w.heap.size + 1]? = some (.cells #[.slice none 0 0, .slice none 0 0, .int .i64 0] 41 (0, 0)) := (hb.block _ (by simp)).trans (hp_eq _ _ _ (by simp))
  have cr := fun j => cell_of_row w1 _ j _ _ _ hr
  have fr := fun j => frozen_of_row w1 _ j _ _ hr
  have HO := Lib.hid ho
  have HR := Lib.hid hr
  have HB := Lib.hid hb
  clear ho hr hb
  go_wp2_with fail
  refine bodyPost_ret (v := .agg #[.slice none 0 0, .slice (some ⟨g, 0, none⟩) 12 cap, .int .i64 0]) (by simp [results, Tryd.results17, go_sem, cr]) rfl ?_
  refine ⟨g, cap, rfl, ?_, ?_, by omega⟩
  · have o := HO.out
    have n1 := Own.ne o HR.out (by decide)
    repeat (first | (with_reducible exact o) | ((with_reducible refine Own.setCell ?_ _ _ ?_); rotate_left; (with_reducible exact n1)))
  · have o : Below w.heap.size w w1 := (((Below.refl _ w).alloc (Nat.le_refl _) _).alloc (by simp) _).trans (HB.out.mono (by simp; omega))
    repeat (first | (with_reducible exact o) | ((with_reducible refine Below.setCell ?_ ?_ _); rotate_left; (dsimp only; omega)))

theorem and_mask (m : Nat) (hm : m = 128 ∨ m = 2 ∨ m = 16) (x : Int) (h0 : 0 ≤ x) (h1 : x < 256) : bits .and .u8 x (m : Int) = x / m % 2 * m := by
  obtain ⟨n, rfl⟩ := Int.eq_ofNat_of_zero_le h0
  have hn : n < 256 := by omega
  have key : ∀ n, n < 256 → n &&& 128 = n / 128 % 2 * 128 ∧ n &&& 2 = n / 2 % 2 * 2 ∧ n &&& 16 = n / 16 % 2 * 16 := by decide
  obtain ⟨k1, k2, k3⟩ := key n hn
  rw [u8_and_nat n m hn (by omega)]
  rcases hm with rfl | rfl | rfl
  · rw [k1]; simp
  · rw [k2]; simp
  · rw [k3]; simp
theorem andNot_mask (m : Nat) (hm : m = 128 ∨ m = 2 ∨ m = 16) (x : Int) (h0 : 0 ≤ x) (h1 : x < 256) : bits .andNot .u8 x (m : Int) = x - x / m % 2 * m := by
  obtain ⟨n, rfl⟩ := Int.eq_ofNat_of_zero_le h0
  have hn : n < 256 := by omega
  have key : ∀ n, n < 256 → (n &&& (255 - 128)) + n / 128 % 2 * 128 = n ∧ (n &&& (255 - 2)) + n / 2 % 2 * 2 = n ∧ (n &&& (255 - 16)) + n / 16 % 2 * 16 = n := by decide
  obtain ⟨k1, k2, k3⟩ := key n hn
  rw [u8_andNot_nat n m hn (by omega)]
  have c1 : ((n : Int) / (128 : Nat) % 2 * (128 : Nat)) = ((n / 128 % 2 * 128 : Nat) : Int) := by omega
  have c2 : ((n : Int) / (2 : Nat) % 2 * (2 : Nat)) = ((n / 2 % 2 * 2 : Nat) : Int) := by omega
  have c3 : ((n : Int) / (16 : Nat) % 2 * (16 : Nat)) = ((n / 16 % 2 * 16 : Nat) : Int) := by omega
  rcases hm with rfl | rfl | rfl
  · rw [c1]; omega
  · rw [c2]; omega
  · rw [c3]; omega
theorem field_built1 (a b c : Value) (w : World) : (Instr.field 41 (.agg #[a, b, c]) 1).run Tryd.prog w = .ok b w := by kernel_rfl
/-- one byte in place of another -/
theorem Own.put1 {w : World} {g n cap : Nat} {bs : Bytes} (h : Own w (.slice (some ⟨g, 0, none⟩) n cap) bs) (i : Nat) (v : Int) (b : UInt8) (hv : v = (b.toNat : Int)) : Own (w.setCell ⟨g, i, none⟩ (.int .u8 v)) (.slice (some ⟨g, 0, none⟩) n cap) (bs.set i b) := by
  rcases h.2 with ⟨hq, _⟩ | ⟨g', cap', cur, hv', _, hg, hnc, hcm, hcs, ht⟩
  · cases hq
  simp only [Value.slice.injEq, Option.some.injEq, Addr.mk.injEq] at hv'
  obtain ⟨⟨rfl, _, _⟩, rfl, rfl⟩ := hv'
  refine ⟨by simp [bv], .inr ⟨g, cap, _, by simp, Nat.zero_le _, hp_set _ _ _ _ _ _ hg, by simpa using hnc, hcm, by simpa using hcs, ?_⟩⟩
  simp only [Nat.mul_one, List.length_set] at ht ⊢
  rw [Array.toList_setIfInBounds, List.take_set, ht, hv]
  simp [bv, List.map_set]
/-- what a cell of the bytes holds -/
theorem Own.cell {w : World} {g n cap : Nat} {bs : Bytes} (h : Own w (.slice (some ⟨g, 0, none⟩) n cap) bs) (i : Nat) (hi : i < bs.length) : w.cell? ⟨g, i, none⟩ = some (.int .u8 (bs[i].toNat : Int)) ∧ w.frozen? ⟨g, i, none⟩ = false := by
  rcases h.2 with ⟨hq, _⟩ | ⟨g', cap', cur, hv', _, hg, hnc, hcm, hcs, ht⟩
  · cases hq
  simp only [Value.slice.injEq, Option.some.injEq, Addr.mk.injEq] at hv'
  obtain ⟨⟨rfl, _, _⟩, rfl, rfl⟩ := hv'
  refine ⟨?_, frozen_of_row w g i cur _ hg⟩
  rw [cell_of_row w g i cur _ _ hg]
  simp only [Nat.mul_one] at ht
  have : (cur.toList.take bs.length)[i]? = (bv bs)[i]? := by rw [ht]
  rw [List.getElem?_take, if_pos hi] at this
  simp only [Array.getElem?_toList] at this
  rw [this]
  simp [bv, hi]

/-- the two numbers of 'FnBitAvailable' -/
theorem bit_ra (op code : Nat) (qr aa tc rd ad cd : Bool) (h3 : code < 16) : 0 ≤ (hsum op code qr aa tc rd true ad cd) % 256 ∧ (hsum op code qr aa tc rd true ad cd) % 256 < 256 ∧ 0 ≤ (hsum op code qr aa tc rd false ad cd) % 256 ∧ (hsum op code qr aa tc rd false ad cd) % 256 < 256 ∧ (hsum op code qr aa tc rd true ad cd) % 256 / 128 % 2 = 1 ∧ (hsum op code qr aa tc rd false ad cd) % 256 / 128 % 2 = 0 ∧ (hsum op code qr aa tc rd true ad cd) % 256 - 128 = (hsum op code qr aa tc rd false ad cd) % 256 ∧ (hsum op code qr aa tc rd true ad cd) / 256 = (hsum op code qr aa tc rd false ad cd) / 256 := by
  have e1 : bi true = 1 := rfl
  have e0 : bi false = 0 := rfl
  have := bi_bd qr
  have := bi_bd aa
  have := bi_bd tc
  have := bi_bd rd
  have := bi_bd ad
  have := bi_bd cd
  unfold hsum
  rw [e1, e0]
  omega

theorem laws_FnBitAvailable (id op code : Nat) (qr aa tc rd ra ad cd : Bool) (w : World) (hid : id < 65536) :
    Calls Tryd.prog 5 #[.agg #[.int .u16 (id : Int), .bool qr, .int .u16 (op : Int), .bool aa, .bool tc, .bool rd, .bool ra, .bool ad, .bool cd, .int .u16 (code : Int)]] w
      fun e w' => e = .returned (.bool true) ∧ Below w.heap.size w w' := by
  by_cases hh : op < 16 ∧ code < 16
  · obtain ⟨h1, h3⟩ := hh
    go_enter Tryd.func5, Tryd.ntmps5
    go_wp2_with fail
    refine (laws_specHead id op code qr aa tc rd ra ad cd _).mono ?_
    rintro e w1 ⟨rfl, hb1⟩
    have z1 := hb1.size
    simp only [World.size_alloc] at z1
    have B1 := Lib.hid (hb1.block w.heap.size (by simp))
    go_wp2_with fail
    refine (spec_HeadOk id op code qr aa tc rd ra ad cd _).mono ?_
    rintro e w2 ⟨rfl, hb2⟩
    have z2 := hb2.size
    have hh2 : w2.heap[w.heap.size]? = some (.cells #[.int .u16 (id : Int), .bool qr, .int .u16 (op : Int), .bool aa, .bool tc, .bool rd, .bool ra, .bool ad, .bool cd, .int .u16 (code : Int)] 24 (0, 0)) := (hb2.block _ (by omega)).trans (B1.out.trans (hp_eq _ _ _ rfl))
    have hbb : Below w.heap.size w w2 := (((Below.refl _ w).alloc (Nat.le_refl _) _).trans (hb1.mono (by simp))).trans (hb2.mono (by omega))
    have hokb : (decide ((op : Int) < 16) && decide ((code : Int) < 16)) = true := by simp; omega
    have HBB := Lib.hid hbb
    have c2 := fun j => cell_of_row w2 _ j _ _ _ hh2
    clear hb1 hb2 hbb hh2
    rw [hokb]
    clear hokb B1
    go_wp2_with fail
    have hlt2 : w.heap.size < w2.heap.size := by omega
    go_cut [3, 4] (fun v3 v4 wx => ∃ p q, v3 = .pointer (some ⟨p, 0, none⟩) ∧ v4 = .pointer (some ⟨q, 0, none⟩) ∧ p ≠ q ∧ w.heap.size ≤ p ∧ w.heap.size ≤ q ∧ wx.heap[p]? = some (.cells #[.int .u16 (id : Int), .bool qr, .int .u16 (op : Int), .bool aa, .bool tc, .bool rd, .bool ra, .bool ad, .bool cd, .int .u16 (code : Int)] 24 (0, 0)) ∧ wx.heap[q]? = some (.cells #[.int .u16 (id : Int), .bool qr, .int .u16 (op : Int), .bool aa, .bool tc, .bool rd, .bool ra, .bool ad, .bool cd, .int .u16 (code : Int)] 24 (0, 0)) ∧ Below w.heap.size w wx)
    case first =>
      go_region_held3 (fun w' => ∀ j, w'.cell? ⟨w.heap.size, j, none⟩ = (#[.int .u16 (id : Int), .bool qr, .int .u16 (op : Int), .bool aa, .bool tc, .bool rd, .bool ra, .bool ad, .bool cd, .int .u16 (code : Int)] : Array Value)[j]?) (first | (with_reducible assumption) | (intro j; simp [*, go_sem]; done)) (fail)
      all_goals (go_wp2_with fail; go_meet)
      all_goals (case rel => exact ⟨_, _, rfl, rfl, by omega, by omega, by omega, (by rw [hp_drew]; simp (disch := (first | (simp only [World.size_alloc]; done) | (simp only [World.size_alloc]; omega) | omega)) only [hp_eq, hp_ne]), (by rw [hp_drew]; simp (disch := (first | (simp only [World.size_alloc]; done) | (simp only [World.size_alloc]; omega) | omega)) only [hp_eq, hp_ne]), ((HBB.out.alloc (by omega) _).alloc (by simp only [World.size_alloc]; omega) _).drew⟩)
    case rest =>
      obtain ⟨p, q, rfl, rfl, hpq, hp, hq, hP, hQ, hbc⟩ := hcut
      have cp := fun j => cell_of_row wc _ j _ _ _ hP
      have fp := fun j => frozen_of_row wc _ j _ _ hP
      have cq := fun j => cell_of_row wc _ j _ _ _ hQ
      have fq := fun j => frozen_of_row wc _ j _ _ hQ
      have HP := Lib.hid hP
      have HQ := Lib.hid hQ
      have HBC := Lib.hid hbc
      clear hP hQ hbc c2 HBB
      go_wp2_with fail
      refine wp_letter fun w3 hw3 => ?_
      have hP3 : w3.heap[p]? = some (.cells #[.int .u16 (id : Int), .bool qr, .int .u16 (op : Int), .bool aa, .bool tc, .bool rd, .bool true, .bool ad, .bool cd, .int .u16 (code : Int)] 24 (0, 0)) := by
        rw [hw3, hp_setCell _ _ _ _ (by simpa using hpq), hp_set _ _ _ _ _ _ HP.out]
        rfl
      have hQ3 : w3.heap[q]? = some (.cells #[.int .u16 (id : Int), .bool qr, .int .u16 (op : Int), .bool aa, .bool tc, .bool rd, .bool false, .bool ad, .bool cd, .int .u16 (code : Int)] 24 (0, 0)) := by
        rw [hw3, hp_set _ _ _ _ _ _ ((hp_setCell _ _ _ _ (by simpa using Ne.symm hpq)).trans HQ.out)]
        rfl
      have hb3 : Below w.heap.size w w3 := by
        rw [hw3]
        exact (HBC.out.setCell (by simpa using hp) _).setCell (by simpa using hq) _
      have lp := (Array.getElem?_eq_some_iff.1 hP3).1
      have lq := (Array.getElem?_eq_some_iff.1 hQ3).1
      clear hw3 cp fp cq fq HP HQ HBC
      have cp := fun j => cell_of_row w3 _ j _ _ _ hP3
      have cq := fun j => cell_of_row w3 _ j _ _ _ hQ3
      have HB3 := Lib.hid hb3
      have hfd := field_built1
      have tok1 : True := trivial
      have cpd := fun (j : Nat) => (show w3.drew.cell? ⟨p, j, none⟩ = _ from cp j)
      have cqd := fun (j : Nat) => (show w3.drew.cell? ⟨q, j, none⟩ = _ from cq j)
      have lpd : p < w3.drew.heap.size := lp
      have lqd : q < w3.drew.heap.size := lq
      clear hP3 hQ3 hb3
      go_region_held3 (fun w' => (∀ j, w'.cell? ⟨p, j, none⟩ = (#[.int .u16 (id : Int), .bool qr, .int .u16 (op : Int), .bool aa, .bool tc, .bool rd, .bool true, .bool ad, .bool cd, .int .u16 (code : Int)] : Array Value)[j]?) ∧ (∀ j, w'.cell? ⟨q, j, none⟩ = (#[.int .u16 (id : Int), .bool qr, .int .u16 (op : Int), .bool aa, .bool tc, .bool rd, .bool false, .bool ad, .bool cd, .int .u16 (code : Int)] : Array Value)[j]?)) (first | (with_reducible exact ⟨cpd, cqd⟩) | (with_reducible exact ⟨cp4, cq4⟩) | (with_reducible exact ⟨cp5, cq5⟩))
        (first
          | (go_at_call 17; have _t := tok1; refine (impl_BuildAsks_nil id op code qr aa tc rd _ ad cd _ h1 h3 hid).mono ?_; rintro e w4 ⟨g4, cap4, rfl, ho4, hb4, hg4⟩; have cp4 := fun (j : Nat) => (hb4.cell (p := ⟨p, j, none⟩) lpd).trans (cpd j); have cq4 := fun (j : Nat) => (hb4.cell (p := ⟨q, j, none⟩) lqd).trans (cqd j); have lp4 := Nat.lt_of_lt_of_le lpd hb4.size; have lq4 := Nat.lt_of_lt_of_le lqd hb4.size; clear tok1)
          | (go_at_call 17; refine (impl_BuildAsks_nil id op code qr aa tc rd _ ad cd _ h1 h3 hid).mono ?_; rintro e w5 ⟨g5, cap5, rfl, ho5, hb5, hg5⟩; have cp5 := fun (j : Nat) => (hb5.cell (p := ⟨p, j, none⟩) lp4).trans (cp4 j); have cq5 := fun (j : Nat) => (hb5.cell (p := ⟨q, j, none⟩) lq4).trans (cq4 j)))
      have l4 : g4 < w4.heap.size := (ho4.lt g4 rfl).2
      have o4 : Own w5 (.slice (some ⟨g4, 0, none⟩) 12 cap4) (hdr id (hsum op code qr aa tc rd true ad cd) 0 0 0 0) := World.ownsRow.kept ho4 (grownBy_of_below hb5 none) (.inr (by simp [Value.ownBlock]))
      have hne : ¬ g5 = g4 := by omega
      have hbit := bit_ra op code qr aa tc rd ad cd h3
      have k4 := o4.cell 3 (by rw [hdr_length]; omega)
      have k5 := ho5.cell 3 (by rw [hdr_length]; omega)
      have e4 : (((hdr id (hsum op code qr aa tc rd true ad cd) 0 0 0 0)[3]'(by rw [hdr_length]; omega)).toNat : Int) = (hsum op code qr aa tc rd true ad cd) % 256 := u8_of _ hbit.1 hbit.2.1
      have e5 : (((hdr id (hsum op code qr aa tc rd false ad cd) 0 0 0 0)[3]'(by rw [hdr_length]; omega)).toNat : Int) = (hsum op code qr aa tc rd false ad cd) % 256 := u8_of _ hbit.2.2.1 hbit.2.2.2.1
      rw [e4] at k4
      rw [e5] at k5
      have heq : (hdr id (hsum op code qr aa tc rd true ad cd) 0 0 0 0).set 3 (UInt8.ofNat ((hsum op code qr aa tc rd false ad cd) % 256).toNat) = hdr id (hsum op code qr aa tc rd false ad cd) 0 0 0 0 := by
        have := hbit.2.2.2.2.2.2.2
        simp only [hdr, two, List.cons_append, List.nil_append, List.set_cons_succ, List.set_cons_zero, this]
      have a1 : bits .and .u8 ((hsum op code qr aa tc rd true ad cd) % 256) 128 = 128 := by show bits .and .u8 ((hsum op code qr aa tc rd true ad cd) % 256) ((128 : Nat) : Int) = 128; rw [and_mask 128 (by omega) _ hbit.1 hbit.2.1]; have := hbit.2.2.2.2.1; omega
      have a2 : bits .and .u8 ((hsum op code qr aa tc rd false ad cd) % 256) 128 = 0 := by show bits .and .u8 ((hsum op code qr aa tc rd false ad cd) % 256) ((128 : Nat) : Int) = 0; rw [and_mask 128 (by omega) _ hbit.2.2.1 hbit.2.2.2.1]; have := hbit.2.2.2.2.2.1; omega
      have a3 : bits .andNot .u8 ((hsum op code qr aa tc rd true ad cd) % 256) 128 = (hsum op code qr aa tc rd false ad cd) % 256 := by show bits .andNot .u8 ((hsum op code qr aa tc rd true ad cd) % 256) ((128 : Nat) : Int) = (hsum op code qr aa tc rd false ad cd) % 256; rw [andNot_mask 128 (by omega) _ hbit.1 hbit.2.1]; have := hbit.2.2.2.2.1; have := hbit.2.2.2.2.2.2.1; omega
      have hy := hbit.2.2.1
      have hy2 := hbit.2.2.2.1
      have O4 := Lib.hid o4
      have O5 := Lib.hid ho5
      have HE := Lib.hid heq
      have HB5 : Hid (Below w.heap.size w w5) := (HB3.out.drew.trans (hb4.mono (by have := HB3.out.size; exact this))).trans (hb5.mono (by have := HB3.out.size; have := hb4.size; exact Nat.le_trans (by assumption) (by assumption)))
      have c41 := k4.1
      have f41 := k4.2
      have c51 := k5.1
      have hgw : w.heap.size ≤ g4 := Nat.le_trans HB3.out.size hg4
      clear hbit k4 k5 e4 e5 ho4 ho5 hb4 hb5 o4 heq cp cq cpd cqd cp4 cq4 cp5 cq5 hfd lp lq lpd lqd lp4 lq4 HB3 hg4 hg5 l4 _t z1 z2 hlt2
      generalize hx : (hsum op code qr aa tc rd true ad cd) % 256 = x at *
      generalize hy0 : (hsum op code qr aa tc rd false ad cd) % 256 = y at *
      have HX := Lib.hid hx
      have HY := Lib.hid hy0
      clear hx hy0
      go_wp2_with fail
      have o6 := O4.out.put1 3 y (UInt8.ofNat y.toNat) (u8_of y hy hy2).symm
      rw [HE.out] at o6
      have o7 := O5.out.setCell ⟨g4, 3, none⟩ (.int .u8 y) (by simpa [Value.ownBlock] using hne)
      refine (laws_same _ _ _ _ _ o6.reads o7.reads).mono ?_
      rintro e w6 ⟨rfl, rfl⟩
      clear o6 o7
      go_wp2_with fail
      go_ret
      exact ⟨by simp, HB5.out.setCell (by simpa using hgw) _⟩
  · go_enter Tryd.func5, Tryd.ntmps5
    go_wp2_with fail
    refine (laws_specHead id op code qr aa tc rd ra ad cd _).mono ?_
    rintro e w1 ⟨rfl, hb1⟩
    go_wp2_with fail
    refine (spec_HeadOk id op code qr aa tc rd ra ad cd _).mono ?_
    rintro e w2 ⟨rfl, hb2⟩
    have z1 := hb1.size
    simp only [World.size_alloc] at z1
    have hbb : Below w.heap.size w w2 := (((Below.refl _ w).alloc (Nat.le_refl _) _).trans (hb1.mono (by simp))).trans (hb2.mono (by omega))
    have hokb : (decide ((op : Int) < 16) && decide ((code : Int) < 16)) = false := by
      rw [Bool.and_eq_false_iff]
      simp only [decide_eq_false_iff_not]
      omega
    rw [hokb]
    have HBB := Lib.hid hbb
    clear hokb hbb hb1 hb2
    go_wp2_with fail
    go_ret
    exact ⟨rfl, HBB.out⟩

/-- the two numbers of 'FnBitCut' -/
theorem bit_tc (op code : Nat) (qr aa rd ra ad cd : Bool) (h1 : op < 16) (h3 : code < 16) : 0 ≤ (hsum op code qr aa true rd ra ad cd) / 256 ∧ (hsum op code qr aa true rd ra ad cd) / 256 < 256 ∧ 0 ≤ (hsum op code qr aa false rd ra ad cd) / 256 ∧ (hsum op code qr aa false rd ra ad cd) / 256 < 256 ∧ (hsum op code qr aa true rd ra ad cd) / 256 / 2 % 2 = 1 ∧ (hsum op code qr aa false rd ra ad cd) / 256 / 2 % 2 = 0 ∧ (hsum op code qr aa true rd ra ad cd) / 256 - 2 = (hsum op code qr aa false rd ra ad cd) / 256 ∧ (hsum op code qr aa true rd ra ad cd) % 256 = (hsum op code qr aa false rd ra ad cd) % 256 := by
  have e1 : bi true = 1 := rfl
  have e0 : bi false = 0 := rfl
  have := bi_bd qr
  have := bi_bd aa
  have := bi_bd rd
  have := bi_bd ra
  have := bi_bd ad
  have := bi_bd cd
  unfold hsum
  rw [e1, e0]
  omega

theorem laws_FnBitCut (id op code : Nat) (qr aa tc rd ra ad cd : Bool) (w : World) (hid : id < 65536) :
    Calls Tryd.prog 6 #[.agg #[.int .u16 (id : Int), .bool qr, .int .u16 (op : Int), .bool aa, .bool tc, .bool rd, .bool ra, .bool ad, .bool cd, .int .u16 (code : Int)]] w
      fun e w' => e = .returned (.bool true) ∧ Below w.heap.size w w' := by
  by_cases hh : op < 16 ∧ code < 16
  · obtain ⟨h1, h3⟩ := hh
    go_enter Tryd.func6, Tryd.ntmps6
    go_wp2_with fail
    refine (laws_specHead id op code qr aa tc rd ra ad cd _).mono ?_
    rintro e w1 ⟨rfl, hb1⟩
    have z1 := hb1.size
    simp only [World.size_alloc] at z1
    have B1 := Lib.hid (hb1.block w.heap.size (by simp))
    go_wp2_with fail
    refine (spec_HeadOk id op code qr aa tc rd ra ad cd _).mono ?_
    rintro e w2 ⟨rfl, hb2⟩
    have z2 := hb2.size
    have hh2 : w2.heap[w.heap.size]? = some (.cells #[.int .u16 (id : Int), .bool qr, .int .u16 (op : Int), .bool aa, .bool tc, .bool rd, .bool ra, .bool ad, .bool cd, .int .u16 (code : Int)] 24 (0, 0)) := (hb2.block _ (by omega)).trans (B1.out.trans (hp_eq _ _ _ rfl))
    have hbb : Below w.heap.size w w2 := (((Below.refl _ w).alloc (Nat.le_refl _) _).trans (hb1.mono (by simp))).trans (hb2.mono (by omega))
    have hokb : (decide ((op : Int) < 16) && decide ((code : Int) < 16)) = true := by simp; omega
    have HBB := Lib.hid hbb
    have c2 := fun j => cell_of_row w2 _ j _ _ _ hh2
    clear hb1 hb2 hbb hh2
    rw [hokb]
    clear hokb B1
    go_wp2_with fail
    have hlt2 : w.heap.size < w2.heap.size := by omega
    go_cut [3, 4] (fun v3 v4 wx => ∃ p q, v3 = .pointer (some ⟨p, 0, none⟩) ∧ v4 = .pointer (some ⟨q, 0, none⟩) ∧ p ≠ q ∧ w.heap.size ≤ p ∧ w.heap.size ≤ q ∧ wx.heap[p]? = some (.cells #[.int .u16 (id : Int), .bool qr, .int .u16 (op : Int), .bool aa, .bool tc, .bool rd, .bool ra, .bool ad, .bool cd, .int .u16 (code : Int)] 24 (0, 0)) ∧ wx.heap[q]? = some (.cells #[.int .u16 (id : Int), .bool qr, .int .u16 (op : Int), .bool aa, .bool tc, .bool rd, .bool ra, .bool ad, .bool cd, .int .u16 (code : Int)] 24 (0, 0)) ∧ Below w.heap.size w wx)
    case first =>
      go_region_held3 (fun w' => ∀ j, w'.cell? ⟨w.heap.size, j, none⟩ = (#[.int .u16 (id : Int), .bool qr, .int .u16 (op : Int), .bool aa, .bool tc, .bool rd, .bool ra, .bool ad, .bool cd, .int .u16 (code : Int)] : Array Value)[j]?) (first | (with_reducible assumption) | (intro j; simp [*, go_sem]; done)) (fail)
      all_goals (go_wp2_with fail; go_meet)
      all_goals (case rel => exact ⟨_, _, rfl, rfl, by omega, by omega, by omega, (by rw [hp_drew]; simp (disch := (first | (simp only [World.size_alloc]; done) | (simp only [World.size_alloc]; omega) | omega)) only [hp_eq, hp_ne]), (by rw [hp_drew]; simp (disch := (first | (simp only [World.size_alloc]; done) | (simp only [World.size_alloc]; omega) | omega)) only [hp_eq, hp_ne]), ((HBB.out.alloc (by omega) _).alloc (by simp only [World.size_alloc]; omega) _).drew⟩)
    case rest =>
      obtain ⟨p, q, rfl, rfl, hpq, hp, hq, hP, hQ, hbc⟩ := hcut
      have cp := fun j => cell_of_row wc _ j _ _ _ hP
      have fp := fun j => frozen_of_row wc _ j _ _ hP
      have cq := fun j => cell_of_row wc _ j _ _ _ hQ
      have fq := fun j => frozen_of_row wc _ j _ _ hQ
      have HP := Lib.hid hP
      have HQ := Lib.hid hQ
      have HBC := Lib.hid hbc
      clear hP hQ hbc c2 HBB
      go_wp2_with fail
      refine wp_letter fun w3 hw3 => ?_
      have hP3 : w3.heap[p]? = some (.cells #[.int .u16 (id : Int), .bool qr, .int .u16 (op : Int), .bool aa, .bool true, .bool rd, .bool ra, .bool ad, .bool cd, .int .u16 (code : Int)] 24 (0, 0)) := by
        rw [hw3, hp_setCell _ _ _ _ (by simpa using hpq), hp_set _ _ _ _ _ _ HP.out]
        rfl
      have hQ3 : w3.heap[q]? = some (.cells #[.int .u16 (id : Int), .bool qr, .int .u16 (op : Int), .bool aa, .bool false, .bool rd, .bool ra, .bool ad, .bool cd, .int .u16 (code : Int)] 24 (0, 0)) := by
        rw [hw3, hp_set _ _ _ _ _ _ ((hp_setCell _ _ _ _ (by simpa using Ne.symm hpq)).trans HQ.out)]
        rfl
      have hb3 : Below w.heap.size w w3 := by
        rw [hw3]
        exact (HBC.out.setCell (by simpa using hp) _).setCell (by simpa using hq) _
      have lp := (Array.getElem?_eq_some_iff.1 hP3).1
      have lq := (Array.getElem?_eq_some_iff.1 hQ3).1
      clear hw3 cp fp cq fq HP HQ HBC
      have cp := fun j => cell_of_row w3 _ j _ _ _ hP3
      have cq := fun j => cell_of_row w3 _ j _ _ _ hQ3
      have HB3 := Lib.hid hb3
      have hfd := field_built1
      have tok1 : True := trivial
      have cpd := fun (j : Nat) => (show w3.drew.cell? ⟨p, j, none⟩ = _ from cp j)
      have cqd := fun (j : Nat) => (show w3.drew.cell? ⟨q, j, none⟩ = _ from cq j)
      have lpd : p < w3.drew.heap.size := lp
      have lqd : q < w3.drew.heap.size := lq
      clear hP3 hQ3 hb3
      go_region_held3 (fun w' => (∀ j, w'.cell? ⟨p, j, none⟩ = (#[.int .u16 (id : Int), .bool qr, .int .u16 (op : Int), .bool aa, .bool true, .bool rd, .bool ra, .bool ad, .bool cd, .int .u16 (code : Int)] : Array Value)[j]?) ∧ (∀ j, w'.cell? ⟨q, j, none⟩ = (#[.int .u16 (id : Int), .bool qr, .int .u16 (op : Int), .bool aa, .bool false, .bool rd, .bool ra, .bool ad, .bool cd, .int .u16 (code : Int)] : Array Value)[j]?)) (first | (with_reducible exact ⟨cpd, cqd⟩) | (with_reducible exact ⟨cp4, cq4⟩) | (with_reducible exact ⟨cp5, cq5⟩))
        (first
          | (go_at_call 17; have _t := tok1; refine (impl_BuildAsks_nil id op code qr aa _ rd ra ad cd _ h1 h3 hid).mono ?_; rintro e w4 ⟨g4, cap4, rfl, ho4, hb4, hg4⟩; have cp4 := fun (j : Nat) => (hb4.cell (p := ⟨p, j, none⟩) lpd).trans (cpd j); have cq4 := fun (j : Nat) => (hb4.cell (p := ⟨q, j, none⟩) lqd).trans (cqd j); have lp4 := Nat.lt_of_lt_of_le lpd hb4.size; have lq4 := Nat.lt_of_lt_of_le lqd hb4.size; clear tok1)
          | (go_at_call 17; refine (impl_BuildAsks_nil id op code qr aa _ rd ra ad cd _ h1 h3 hid).mono ?_; rintro e w5 ⟨g5, cap5, rfl, ho5, hb5, hg5⟩; have cp5 := fun (j : Nat) => (hb5.cell (p := ⟨p, j, none⟩) lp4).trans (cp4 j); have cq5 := fun (j : Nat) => (hb5.cell (p := ⟨q, j, none⟩) lq4).trans (cq4 j)))
      have l4 : g4 < w4.heap.size := (ho4.lt g4 rfl).2
      have o4 : Own w5 (.slice (some ⟨g4, 0, none⟩) 12 cap4) (hdr id (hsum op code qr aa true rd ra ad cd) 0 0 0 0) := World.ownsRow.kept ho4 (grownBy_of_below hb5 none) (.inr (by simp [Value.ownBlock]))
      have hne : ¬ g5 = g4 := by omega
      have hbit := bit_tc op code qr aa rd ra ad cd h1 h3
      have k4 := o4.cell 2 (by rw [hdr_length]; omega)
      have k5 := ho5.cell 2 (by rw [hdr_length]; omega)
      have e4 : (((hdr id (hsum op code qr aa true rd ra ad cd) 0 0 0 0)[2]'(by rw [hdr_length]; omega)).toNat : Int) = (hsum op code qr aa true rd ra ad cd) / 256 := u8_of _ hbit.1 hbit.2.1
      have e5 : (((hdr id (hsum op code qr aa false rd ra ad cd) 0 0 0 0)[2]'(by rw [hdr_length]; omega)).toNat : Int) = (hsum op code qr aa false rd ra ad cd) / 256 := u8_of _ hbit.2.2.1 hbit.2.2.2.1
      rw [e4] at k4
      rw [e5] at k5
      have heq : (hdr id (hsum op code qr aa true rd ra ad cd) 0 0 0 0).set 2 (UInt8.ofNat ((hsum op code qr aa false rd ra ad cd) / 256).toNat) = hdr id (hsum op code qr aa false rd ra ad cd) 0 0 0 0 := by
        have := hbit.2.2.2.2.2.2.2
        simp only [hdr, two, List.cons_append, List.nil_append, List.set_cons_succ, List.set_cons_zero, this]
      have a1 : bits .and .u8 ((hsum op code qr aa true rd ra ad cd) / 256) 2 = 2 := by show bits .and .u8 ((hsum op code qr aa true rd ra ad cd) / 256) ((2 : Nat) : Int) = 2; rw [and_mask 2 (by omega) _ hbit.1 hbit.2.1]; have := hbit.2.2.2.2.1; omega
      have a2 : bits .and .u8 ((hsum op code qr aa false rd ra ad cd) / 256) 2 = 0 := by show bits .and .u8 ((hsum op code qr aa false rd ra ad cd) / 256) ((2 : Nat) : Int) = 0; rw [and_mask 2 (by omega) _ hbit.2.2.1 hbit.2.2.2.1]; have := hbit.2.2.2.2.2.1; omega
      have a3 : bits .andNot .u8 ((hsum op code qr aa true rd ra ad cd) / 256) 2 = (hsum op code qr aa false rd ra ad cd) / 256 := by show bits .andNot .u8 ((hsum op code qr aa true rd ra ad cd) / 256) ((2 : Nat) : Int) = (hsum op code qr aa false rd ra ad cd) / 256; rw [andNot_mask 2 (by omega) _ hbit.1 hbit.2.1]; have := hbit.2.2.2.2.1; have := hbit.2.2.2.2.2.2.1; omega
      have hy := hbit.2.2.1
      have hy2 := hbit.2.2.2.1
      have O4 := Lib.hid o4
      have O5 := Lib.hid ho5
      have HE := Lib.hid heq
      have HB5 : Hid (Below w.heap.size w w5) := (HB3.out.drew.trans (hb4.mono (by have := HB3.out.size; exact this))).trans (hb5.mono (by have := HB3.out.size; have := hb4.size; exact Nat.le_trans (by assumption) (by assumption)))
      have c41 := k4.1
      have f41 := k4.2
      have c51 := k5.1
      have hgw : w.heap.size ≤ g4 := Nat.le_trans HB3.out.size hg4
      clear hbit k4 k5 e4 e5 ho4 ho5 hb4 hb5 o4 heq cp cq cpd cqd cp4 cq4 cp5 cq5 hfd lp lq lpd lqd lp4 lq4 HB3 hg4 hg5 l4 _t z1 z2 hlt2
      generalize hx : (hsum op code qr aa true rd ra ad cd) / 256 = x at *
      generalize hy0 : (hsum op code qr aa false rd ra ad cd) / 256 = y at *
      have HX := Lib.hid hx
      have HY := Lib.hid hy0
      clear hx hy0
      go_wp2_with fail
      have o6 := O4.out.put1 2 y (UInt8.ofNat y.toNat) (u8_of y hy hy2).symm
      rw [HE.out] at o6
      have o7 := O5.out.setCell ⟨g4, 2, none⟩ (.int .u8 y) (by simpa [Value.ownBlock] using hne)
      refine (laws_same _ _ _ _ _ o6.reads o7.reads).mono ?_
      rintro e w6 ⟨rfl, rfl⟩
      clear o6 o7
      go_wp2_with fail
      go_ret
      exact ⟨by simp, HB5.out.setCell (by simpa using hgw) _⟩
  · go_enter Tryd.func6, Tryd.ntmps6
    go_wp2_with fail
    refine (laws_specHead id op code qr aa tc rd ra ad cd _).mono ?_
    rintro e w1 ⟨rfl, hb1⟩
    go_wp2_with fail
    refine (spec_HeadOk id op code qr aa tc rd ra ad cd _).mono ?_
    rintro e w2 ⟨rfl, hb2⟩
    have z1 := hb1.size
    simp only [World.size_alloc] at z1
    have hbb : Below w.heap.size w w2 := (((Below.refl _ w).alloc (Nat.le_refl _) _).trans (hb1.mono (by simp))).trans (hb2.mono (by omega))
    have hokb : (decide ((op : Int) < 16) && decide ((code : Int) < 16)) = false := by
      rw [Bool.and_eq_false_iff]
      simp only [decide_eq_false_iff_not]
      omega
    rw [hokb]
    have HBB := Lib.hid hbb
    clear hokb hbb hb1 hb2
    go_wp2_with fail
    go_ret
    exact ⟨rfl, HBB.out⟩

/-- the two numbers of 'FnBitResponse' -/
theorem bit_qr (op code : Nat) (aa tc rd ra ad cd : Bool) (h1 : op < 16) (h3 : code < 16) : 0 ≤ (hsum op code true aa tc rd ra ad cd) / 256 ∧ (hsum op code true aa tc rd ra ad cd) / 256 < 256 ∧ 0 ≤ (hsum op code false aa tc rd ra ad cd) / 256 ∧ (hsum op code false aa tc rd ra ad cd) / 256 < 256 ∧ (hsum op code true aa tc rd ra ad cd) / 256 / 128 % 2 = 1 ∧ (hsum op code false aa tc rd ra ad cd) / 256 / 128 % 2 = 0 ∧ (hsum op code true aa tc rd ra ad cd) / 256 - 128 = (hsum op code false aa tc rd ra ad cd) / 256 ∧ (hsum op code true aa tc rd ra ad cd) % 256 = (hsum op code false aa tc rd ra ad cd) % 256 := by
  have e1 : bi true = 1 := rfl
  have e0 : bi false = 0 := rfl
  have := bi_bd aa
  have := bi_bd tc
  have := bi_bd rd
  have := bi_bd ra
  have := bi_bd ad
  have := bi_bd cd
  unfold hsum
  rw [e1, e0]
  omega

theorem laws_FnBitResponse (id op code : Nat) (qr aa tc rd ra ad cd : Bool) (w : World) (hid : id < 65536) :
    Calls Tryd.prog 7 #[.agg #[.int .u16 (id : Int), .bool qr, .int .u16 (op : Int), .bool aa, .bool tc, .bool rd, .bool ra, .bool ad, .bool cd, .int .u16 (code : Int)]] w
      fun e w' => e = .returned (.bool true) ∧ Below w.heap.size w w' := by
  by_cases hh : op < 16 ∧ code < 16
  · obtain ⟨h1, h3⟩ := hh
    go_enter Tryd.func7, Tryd.ntmps7
    go_wp2_with fail
    refine (laws_specHead id op code qr aa tc rd ra ad cd _).mono ?_
    rintro e w1 ⟨rfl, hb1⟩
    have z1 := hb1.size
    simp only [World.size_alloc] at z1
    have B1 := Lib.hid (hb1.block w.heap.size (by simp))
    go_wp2_with fail
    refine (spec_HeadOk id op code qr aa tc rd ra ad cd _).mono ?_
    rintro e w2 ⟨rfl, hb2⟩
    have z2 := hb2.size
    have hh2 : w2.heap[w.heap.size]? = some (.cells #[.int .u16 (id : Int), .bool qr, .int .u16 (op : Int), .bool aa, .bool tc, .bool rd, .bool ra, .bool ad, .bool cd, .int .u16 (code : Int)] 24 (0, 0)) := (hb2.block _ (by omega)).trans (B1.out.trans (hp_eq _ _ _ rfl))
    have hbb : Below w.heap.size w w2 := (((Below.refl _ w).alloc (Nat.le_refl _) _).trans (hb1.mono (by simp))).trans (hb2.mono (by omega))
    have hokb : (decide ((op : Int) < 16) && decide ((code : Int) < 16)) = true := by simp; omega
    have HBB := Lib.hid hbb
    have c2 := fun j => cell_of_row w2 _ j _ _ _ hh2
    clear hb1 hb2 hbb hh2
    rw [hokb]
    clear hokb B1
    go_wp2_with fail
    have hlt2 : w.heap.size < w2.heap.size := by omega
    go_cut [3, 4] (fun v3 v4 wx => ∃ p q, v3 = .pointer (some ⟨p, 0, none⟩) ∧ v4 = .pointer (some ⟨q, 0, none⟩) ∧ p ≠ q ∧ w.heap.size ≤ p ∧ w.heap.size ≤ q ∧ wx.heap[p]? = some (.cells #[.int .u16 (id : Int), .bool qr, .int .u16 (op : Int), .bool aa, .bool tc, .bool rd, .bool ra, .bool ad, .bool cd, .int .u16 (code : Int)] 24 (0, 0)) ∧ wx.heap[q]? = some (.cells #[.int .u16 (id : Int), .bool qr, .int .u16 (op : Int), .bool aa, .bool tc, .bool rd, .bool ra, .bool ad, .bool cd, .int .u16 (code : Int)] 24 (0, 0)) ∧ Below w.heap.size w wx)
    case first =>
      go_region_held3 (fun w' => ∀ j, w'.cell? ⟨w.heap.size, j, none⟩ = (#[.int .u16 (id : Int), .bool qr, .int .u16 (op : Int), .bool aa, .bool tc, .bool rd, .bool ra, .bool ad, .bool cd, .int .u16 (code : Int)] : Array Value)[j]?) (first | (with_reducible assumption) | (intro j; simp [*, go_sem]; done)) (fail)
      all_goals (go_wp2_with fail; go_meet)
      all_goals (case rel => exact ⟨_, _, rfl, rfl, by omega, by omega, by omega, (by rw [hp_drew]; simp (disch := (first | (simp only [World.size_alloc]; done) | (simp only [World.size_alloc]; omega) | omega)) only [hp_eq, hp_ne]), (by rw [hp_drew]; simp (disch := (first | (simp only [World.size_alloc]; done) | (simp only [World.size_alloc]; omega) | omega)) only [hp_eq, hp_ne]), ((HBB.out.alloc (by omega) _).alloc (by simp only [World.size_alloc]; omega) _).drew⟩)
    case rest =>
      obtain ⟨p, q, rfl, rfl, hpq, hp, hq, hP, hQ, hbc⟩ := hcut
      have cp := fun j => cell_of_row wc _ j _ _ _ hP
      have fp := fun j => frozen_of_row wc _ j _ _ hP
      have cq := fun j => cell_of_row wc _ j _ _ _ hQ
      have fq := fun j => frozen_of_row wc _ j _ _ hQ
      have HP := Lib.hid hP
      have HQ := Lib.hid hQ
      have HBC := Lib.hid hbc
      clear hP hQ hbc c2 HBB
      go_wp2_with fail
      refine wp_letter fun w3 hw3 => ?_
      have hP3 : w3.heap[p]? = some (.cells #[.int .u16 (id : Int), .bool true, .int .u16 (op : Int), .bool aa, .bool tc, .bool rd, .bool ra, .bool ad, .bool cd, .int .u16 (code : Int)] 24 (0, 0)) := by
        rw [hw3, hp_setCell _ _ _ _ (by simpa using hpq), hp_set _ _ _ _ _ _ HP.out]
        rfl
      have hQ3 : w3.heap[q]? = some (.cells #[.int .u16 (id : Int), .bool false, .int .u16 (op : Int), .bool aa, .bool tc, .bool rd, .bool ra, .bool ad, .bool cd, .int .u16 (code : Int)] 24 (0, 0)) := by
        rw [hw3, hp_set _ _ _ _ _ _ ((hp_setCell _ _ _ _ (by simpa using Ne.symm hpq)).trans HQ.out)]
        rfl
      have hb3 : Below w.heap.size w w3 := by
        rw [hw3]
        exact (HBC.out.setCell (by simpa using hp) _).setCell (by simpa using hq) _
      have lp := (Array.getElem?_eq_some_iff.1 hP3).1
      have lq := (Array.getElem?_eq_some_iff.1 hQ3).1
      clear hw3 cp fp cq fq HP HQ HBC
      have cp := fun j => cell_of_row w3 _ j _ _ _ hP3
      have cq := fun j => cell_of_row w3 _ j _ _ _ hQ3
      have HB3 := Lib.hid hb3
      have hfd := field_built1
      have tok1 : True := trivial
      have cpd := fun (j : Nat) => (show w3.drew.cell? ⟨p, j, none⟩ = _ from cp j)
      have cqd := fun (j : Nat) => (show w3.drew.cell? ⟨q, j, none⟩ = _ from cq j)
      have lpd : p < w3.drew.heap.size := lp
      have lqd : q < w3.drew.heap.size := lq
      clear hP3 hQ3 hb3
      go_region_held3 (fun w' => (∀ j, w'.cell? ⟨p, j, none⟩ = (#[.int .u16 (id : Int), .bool true, .int .u16 (op : Int), .bool aa, .bool tc, .bool rd, .bool ra, .bool ad, .bool cd, .int .u16 (code : Int)] : Array Value)[j]?) ∧ (∀ j, w'.cell? ⟨q, j, none⟩ = (#[.int .u16 (id : Int), .bool false, .int .u16 (op : Int), .bool aa, .bool tc, .bool rd, .bool ra, .bool ad, .bool cd, .int .u16 (code : Int)] : Array Value)[j]?)) (first | (with_reducible exact ⟨cpd, cqd⟩) | (with_reducible exact ⟨cp4, cq4⟩) | (with_reducible exact ⟨cp5, cq5⟩))
        (first
          | (go_at_call 17; have _t := tok1; refine (impl_BuildAsks_nil id op code _ aa tc rd ra ad cd _ h1 h3 hid).mono ?_; rintro e w4 ⟨g4, cap4, rfl, ho4, hb4, hg4⟩; have cp4 := fun (j : Nat) => (hb4.cell (p := ⟨p, j, none⟩) lpd).trans (cpd j); have cq4 := fun (j : Nat) => (hb4.cell (p := ⟨q, j, none⟩) lqd).trans (cqd j); have lp4 := Nat.lt_of_lt_of_le lpd hb4.size; have lq4 := Nat.lt_of_lt_of_le lqd hb4.size; clear tok1)
          | (go_at_call 17; refine (impl_BuildAsks_nil id op code _ aa tc rd ra ad cd _ h1 h3 hid).mono ?_; rintro e w5 ⟨g5, cap5, rfl, ho5, hb5, hg5⟩; have cp5 := fun (j : Nat) => (hb5.cell (p := ⟨p, j, none⟩) lp4).trans (cp4 j); have cq5 := fun (j : Nat) => (hb5.cell (p := ⟨q, j, none⟩) lq4).trans (cq4 j)))
      have l4 : g4 < w4.heap.size := (ho4.lt g4 rfl).2
      have o4 : Own w5 (.slice (some ⟨g4, 0, none⟩) 12 cap4) (hdr id (hsum op code true aa tc rd ra ad cd) 0 0 0 0) := World.ownsRow.kept ho4 (grownBy_of_below hb5 none) (.inr (by simp [Value.ownBlock]))
      have hne : ¬ g5 = g4 := by omega
      have hbit := bit_qr op code aa tc rd ra ad cd h1 h3
      have k4 := o4.cell 2 (by rw [hdr_length]; omega)
      have k5 := ho5.cell 2 (by rw [hdr_length]; omega)
      have e4 : (((hdr id (hsum op code true aa tc rd ra ad cd) 0 0 0 0)[2]'(by rw [hdr_length]; omega)).toNat : Int) = (hsum op code true aa tc rd ra ad cd) / 256 := u8_of _ hbit.1 hbit.2.1
      have e5 : (((hdr id (hsum op code false aa tc rd ra ad cd) 0 0 0 0)[2]'(by rw [hdr_length]; omega)).toNat : Int) = (hsum op code false aa tc rd ra ad cd) / 256 := u8_of _ hbit.2.2.1 hbit.2.2.2.1
      rw [e4] at k4
      rw [e5] at k5
      have heq : (hdr id (hsum op code true aa tc rd ra ad cd) 0 0 0 0).set 2 (UInt8.ofNat ((hsum op code false aa tc rd ra ad cd) / 256).toNat) = hdr id (hsum op code false aa tc rd ra ad cd) 0 0 0 0 := by
        have := hbit.2.2.2.2.2.2.2
        simp only [hdr, two, List.cons_append, List.nil_append, List.set_cons_succ, List.set_cons_zero, this]
      have a1 : bits .and .u8 ((hsum op code true aa tc rd ra ad cd) / 256) 128 = 128 := by show bits .and .u8 ((hsum op code true aa tc rd ra ad cd) / 256) ((128 : Nat) : Int) = 128; rw [and_mask 128 (by omega) _ hbit.1 hbit.2.1]; have := hbit.2.2.2.2.1; omega
      have a2 : bits .and .u8 ((hsum op code false aa tc rd ra ad cd) / 256) 128 = 0 := by show bits .and .u8 ((hsum op code false aa tc rd ra ad cd) / 256) ((128 : Nat) : Int) = 0; rw [and_mask 128 (by omega) _ hbit.2.2.1 hbit.2.2.2.1]; have := hbit.2.2.2.2.2.1; omega
      have a3 : bits .andNot .u8 ((hsum op code true aa tc rd ra ad cd) / 256) 128 = (hsum op code false aa tc rd ra ad cd) / 256 := by show bits .andNot .u8 ((hsum op code true aa tc rd ra ad cd) / 256) ((128 : Nat) : Int) = (hsum op code false aa tc rd ra ad cd) / 256; rw [andNot_mask 128 (by omega) _ hbit.1 hbit.2.1]; have := hbit.2.2.2.2.1; have := hbit.2.2.2.2.2.2.1; omega
      have hy := hbit.2.2.1
      have hy2 := hbit.2.2.2.1
      have O4 := Lib.hid o4
      have O5 := Lib.hid ho5
      have HE := Lib.hid heq
      have HB5 : Hid (Below w.heap.size w w5) := (HB3.out.drew.trans (hb4.mono (by have := HB3.out.size; exact this))).trans (hb5.mono (by have := HB3.out.size; have := hb4.size; exact Nat.le_trans (by assumption) (by assumption)))
      have c41 := k4.1
      have f41 := k4.2
      have c51 := k5.1
      have hgw : w.heap.size ≤ g4 := Nat.le_trans HB3.out.size hg4
      clear hbit k4 k5 e4 e5 ho4 ho5 hb4 hb5 o4 heq cp cq cpd cqd cp4 cq4 cp5 cq5 hfd lp lq lpd lqd lp4 lq4 HB3 hg4 hg5 l4 _t z1 z2 hlt2
      generalize hx : (hsum op code true aa tc rd ra ad cd) / 256 = x at *
      generalize hy0 : (hsum op code false aa tc rd ra ad cd) / 256 = y at *
      have HX := Lib.hid hx
      have HY := Lib.hid hy0
      clear hx hy0
      go_wp2_with fail
      have o6 := O4.out.put1 2 y (UInt8.ofNat y.toNat) (u8_of y hy hy2).symm
      rw [HE.out] at o6
      have o7 := O5.out.setCell ⟨g4, 2, none⟩ (.int .u8 y) (by simpa [Value.ownBlock] using hne)
      refine (laws_same _ _ _ _ _ o6.reads o7.reads).mono ?_
      rintro e w6 ⟨rfl, rfl⟩
      clear o6 o7
      go_wp2_with fail
      go_ret
      exact ⟨by simp, HB5.out.setCell (by simpa using hgw) _⟩
  · go_enter Tryd.func7, Tryd.ntmps7
    go_wp2_with fail
    refine (laws_specHead id op code qr aa tc rd ra ad cd _).mono ?_
    rintro e w1 ⟨rfl, hb1⟩
    go_wp2_with fail
    refine (spec_HeadOk id op code qr aa tc rd ra ad cd _).mono ?_
    rintro e w2 ⟨rfl, hb2⟩
    have z1 := hb1.size
    simp only [World.size_alloc] at z1
    have hbb : Below w.heap.size w w2 := (((Below.refl _ w).alloc (Nat.le_refl _) _).trans (hb1.mono (by simp))).trans (hb2.mono (by omega))
    have hokb : (decide ((op : Int) < 16) && decide ((code : Int) < 16)) = false := by
      rw [Bool.and_eq_false_iff]
      simp only [decide_eq_false_iff_not]
      omega
    rw [hokb]
    have HBB := Lib.hid hbb
    clear hokb hbb hb1 hb2
    go_wp2_with fail
    go_ret
    exact ⟨rfl, HBB.out⟩

/-- the two numbers of 'FnBitUnchecked' -/
theorem bit_cd (op code : Nat) (qr aa tc rd ra ad : Bool) (h3 : code < 16) : 0 ≤ (hsum op code qr aa tc rd ra ad true) % 256 ∧ (hsum op code qr aa tc rd ra ad true) % 256 < 256 ∧ 0 ≤ (hsum op code qr aa tc rd ra ad false) % 256 ∧ (hsum op code qr aa tc rd ra ad false) % 256 < 256 ∧ (hsum op code qr aa tc rd ra ad true) % 256 / 16 % 2 = 1 ∧ (hsum op code qr aa tc rd ra ad false) % 256 / 16 % 2 = 0 ∧ (hsum op code qr aa tc rd ra ad true) % 256 - 16 = (hsum op code qr aa tc rd ra ad false) % 256 ∧ (hsum op code qr aa tc rd ra ad true) / 256 = (hsum op code qr aa tc rd ra ad false) / 256 := by
  have e1 : bi true = 1 := rfl
  have e0 : bi false = 0 := rfl
  have := bi_bd qr
  have := bi_bd aa
  have := bi_bd tc
  have := bi_bd rd
  have := bi_bd ra
  have := bi_bd ad
  unfold hsum
  rw [e1, e0]
  omega

theorem laws_FnBitUnchecked (id op code : Nat) (qr aa tc rd ra ad cd : Bool) (w : World) (hid : id < 65536) :
    Calls Tryd.prog 8 #[.agg #[.int .u16 (id : Int), .bool qr, .int .u16 (op : Int), .bool aa, .bool tc, .bool rd, .bool ra, .bool ad, .bool cd, .int .u16 (code : Int)]] w
      fun e w' => e = .returned (.bool true) ∧ Below w.heap.size w w' := by
  by_cases hh : op < 16 ∧ code < 16
  · obtain ⟨h1, h3⟩ := hh
    go_enter Tryd.func8, Tryd.ntmps8
    go_wp2_with fail
    refine (laws_specHead id op code qr aa tc rd ra ad cd _).mono ?_
    rintro e w1 ⟨rfl, hb1⟩
    have z1 := hb1.size
    simp only [World.size_alloc] at z1
    have B1 := Lib.hid (hb1.block w.heap.size (by simp))
    go_wp2_with fail
    refine (spec_HeadOk id op code qr aa tc rd ra ad cd _).mono ?_
    rintro e w2 ⟨rfl, hb2⟩
    have z2 := hb2.size
    have hh2 : w2.heap[w.heap.size]? = some (.cells #[.int .u16 (id : Int), .bool qr, .int .u16 (op : Int), .bool aa, .bool tc, .bool rd, .bool ra, .bool ad, .bool cd, .int .u16 (code : Int)] 24 (0, 0)) := (hb2.block _ (by omega)).trans (B1.out.trans (hp_eq _ _ _ rfl))
    have hbb : Below w.heap.size w w2 := (((Below.refl _ w).alloc (Nat.le_refl _) _).trans (hb1.mono (by simp))).trans (hb2.mono (by omega))
    have hokb : (decide ((op : Int) < 16) && decide ((code : Int) < 16)) = true := by simp; omega
    have HBB := Lib.hid hbb
    have c2 := fun j => cell_of_row w2 _ j _ _ _ hh2
    clear hb1 hb2 hbb hh2
    rw [hokb]
    clear hokb B1
    go_wp2_with fail
    have hlt2 : w.heap.size < w2.heap.size := by omega
    go_cut [3, 4] (fun v3 v4 wx => ∃ p q, v3 = .pointer (some ⟨p, 0, none⟩) ∧ v4 = .pointer (some ⟨q, 0, none⟩) ∧ p ≠ q ∧ w.heap.size ≤ p ∧ w.heap.size ≤ q ∧ wx.heap[p]? = some (.cells #[.int .u16 (id : Int), .bool qr, .int .u16 (op : Int), .bool aa, .bool tc, .bool rd, .bool ra, .bool ad, .bool cd, .int .u16 (code : Int)] 24 (0, 0)) ∧ wx.heap[q]? = some (.cells #[.int .u16 (id : Int), .bool qr, .int .u16 (op : Int), .bool aa, .bool tc, .bool rd, .bool ra, .bool ad, .bool cd, .int .u16 (code : Int)] 24 (0, 0)) ∧ Below w.heap.size w wx)
    case first =>
      go_region_held3 (fun w' => ∀ j, w'.cell? ⟨w.heap.size, j, none⟩ = (#[.int .u16 (id : Int), .bool qr, .int .u16 (op : Int), .bool aa, .bool tc, .bool rd, .bool ra, .bool ad, .bool cd, .int .u16 (code : Int)] : Array Value)[j]?) (first | (with_reducible assumption) | (intro j; simp [*, go_sem]; done)) (fail)
      all_goals (go_wp2_with fail; go_meet)
      all_goals (case rel => exact ⟨_, _, rfl, rfl, by omega, by omega, by omega, (by rw [hp_drew]; simp (disch := (first | (simp only [World.size_alloc]; done) | (simp only [World.size_alloc]; omega) | omega)) only [hp_eq, hp_ne]), (by rw [hp_drew]; simp (disch := (first | (simp only [World.size_alloc]; done) | (simp only [World.size_alloc]; omega) | omega)) only [hp_eq, hp_ne]), ((HBB.out.alloc (by omega) _).alloc (by simp only [World.size_alloc]; omega) _).drew⟩)
    case rest =>
      obtain ⟨p, q, rfl, rfl, hpq, hp, hq, hP, hQ, hbc⟩ := hcut
      have cp := fun j => cell_of_row wc _ j _ _ _ hP
      have fp := fun j => frozen_of_row wc _ j _ _ hP
      have cq := fun j => cell_of_row wc _ j _ _ _ hQ
      have fq := fun j => frozen_of_row wc _ j _ _ hQ
      have HP := Lib.hid hP
      have HQ := Lib.hid hQ
      have HBC := Lib.hid hbc
      clear hP hQ hbc c2 HBB
      go_wp2_with fail
      refine wp_letter fun w3 hw3 => ?_
      have hP3 : w3.heap[p]? = some (.cells #[.int .u16 (id : Int), .bool qr, .int .u16 (op : Int), .bool aa, .bool tc, .bool rd, .bool ra, .bool ad, .bool true, .int .u16 (code : Int)] 24 (0, 0)) := by
        rw [hw3, hp_setCell _ _ _ _ (by simpa using hpq), hp_set _ _ _ _ _ _ HP.out]
        rfl
      have hQ3 : w3.heap[q]? = some (.cells #[.int .u16 (id : Int), .bool qr, .int .u16 (op : Int), .bool aa, .bool tc, .bool rd, .bool ra, .bool ad, .bool false, .int .u16 (code : Int)] 24 (0, 0)) := by
        rw [hw3, hp_set _ _ _ _ _ _ ((hp_setCell _ _ _ _ (by simpa using Ne.symm hpq)).trans HQ.out)]
        rfl
      have hb3 : Below w.heap.size w w3 := by
        rw [hw3]
        exact (HBC.out.setCell (by simpa using hp) _).setCell (by simpa using hq) _
      have lp := (Array.getElem?_eq_some_iff.1 hP3).1
      have lq := (Array.getElem?_eq_some_iff.1 hQ3).1
      clear hw3 cp fp cq fq HP HQ HBC
      have cp := fun j => cell_of_row w3 _ j _ _ _ hP3
      have cq := fun j => cell_of_row w3 _ j _ _ _ hQ3
      have HB3 := Lib.hid hb3
      have hfd := field_built1
      have tok1 : True := trivial
      have cpd := fun (j : Nat) => (show w3.drew.cell? ⟨p, j, none⟩ = _ from cp j)
      have cqd := fun (j : Nat) => (show w3.drew.cell? ⟨q, j, none⟩ = _ from cq j)
      have lpd : p < w3.drew.heap.size := lp
      have lqd : q < w3.drew.heap.size := lq
      clear hP3 hQ3 hb3
      go_region_held3 (fun w' => (∀ j, w'.cell? ⟨p, j, none⟩ = (#[.int .u16 (id : Int), .bool qr, .int .u16 (op : Int), .bool aa, .bool tc, .bool rd, .bool ra, .bool ad, .bool true, .int .u16 (code : Int)] : Array Value)[j]?) ∧ (∀ j, w'.cell? ⟨q, j, none⟩ = (#[.int .u16 (id : Int), .bool qr, .int .u16 (op : Int), .bool aa, .bool tc, .bool rd, .bool ra, .bool ad, .bool false, .int .u16 (code : Int)] : Array Value)[j]?)) (first | (with_reducible exact ⟨cpd, cqd⟩) | (with_reducible exact ⟨cp4, cq4⟩) | (with_reducible exact ⟨cp5, cq5⟩))
        (first
          | (go_at_call 17; have _t := tok1; refine (impl_BuildAsks_nil id op code qr aa tc rd ra ad _ _ h1 h3 hid).mono ?_; rintro e w4 ⟨g4, cap4, rfl, ho4, hb4, hg4⟩; have cp4 := fun (j : Nat) => (hb4.cell (p := ⟨p, j, none⟩) lpd).trans (cpd j); have cq4 := fun (j : Nat) => (hb4.cell (p := ⟨q, j, none⟩) lqd).trans (cqd j); have lp4 := Nat.lt_of_lt_of_le lpd hb4.size; have lq4 := Nat.lt_of_lt_of_le lqd hb4.size; clear tok1)
          | (go_at_call 17; refine (impl_BuildAsks_nil id op code qr aa tc rd ra ad _ _ h1 h3 hid).mono ?_; rintro e w5 ⟨g5, cap5, rfl, ho5, hb5, hg5⟩; have cp5 := fun (j : Nat) => (hb5.cell (p := ⟨p, j, none⟩) lp4).trans (cp4 j); have cq5 := fun (j : Nat) => (hb5.cell (p := ⟨q, j, none⟩) lq4).trans (cq4 j)))
      have l4 : g4 < w4.heap.size := (ho4.lt g4 rfl).2
      have o4 : Own w5 (.slice (some ⟨g4, 0, none⟩) 12 cap4) (hdr id (hsum op code qr aa tc rd ra ad true) 0 0 0 0) := World.ownsRow.kept ho4 (grownBy_of_below hb5 none) (.inr (by simp [Value.ownBlock]))
      have hne : ¬ g5 = g4 := by omega
      have hbit := bit_cd op code qr aa tc rd ra ad h3
      have k4 := o4.cell 3 (by rw [hdr_length]; omega)
      have k5 := ho5.cell 3 (by rw [hdr_length]; omega)
      have e4 : (((hdr id (hsum op code qr aa tc rd ra ad true) 0 0 0 0)[3]'(by rw [hdr_length]; omega)).toNat : Int) = (hsum op code qr aa tc rd ra ad true) % 256 := u8_of _ hbit.1 hbit.2.1
      have e5 : (((hdr id (hsum op code qr aa tc rd ra ad false) 0 0 0 0)[3]'(by rw [hdr_length]; omega)).toNat : Int) = (hsum op code qr aa tc rd ra ad false) % 256 := u8_of _ hbit.2.2.1 hbit.2.2.2.1
      rw [e4] at k4
      rw [e5] at k5
      have heq : (hdr id (hsum op code qr aa tc rd ra ad true) 0 0 0 0).set 3 (UInt8.ofNat ((hsum op code qr aa tc rd ra ad false) % 256).toNat) = hdr id (hsum op code qr aa tc rd ra ad false) 0 0 0 0 := by
        have := hbit.2.2.2.2.2.2.2
        simp only [hdr, two, List.cons_append, List.nil_append, List.set_cons_succ, List.set_cons_zero, this]
      have a1 : bits .and .u8 ((hsum op code qr aa tc rd ra ad true) % 256) 16 = 16 := by show bits .and .u8 ((hsum op code qr aa tc rd ra ad true) % 256) ((16 : Nat) : Int) = 16; rw [and_mask 16 (by omega) _ hbit.1 hbit.2.1]; have := hbit.2.2.2.2.1; omega
      have a2 : bits .and .u8 ((hsum op code qr aa tc rd ra ad false) % 256) 16 = 0 := by show bits .and .u8 ((hsum op code qr aa tc rd ra ad false) % 256) ((16 : Nat) : Int) = 0; rw [and_mask 16 (by omega) _ hbit.2.2.1 hbit.2.2.2.1]; have := hbit.2.2.2.2.2.1; omega
      have a3 : bits .andNot .u8 ((hsum op code qr aa tc rd ra ad true) % 256) 16 = (hsum op code qr aa tc rd ra ad false) % 256 := by show bits .andNot .u8 ((hsum op code qr aa tc rd ra ad true) % 256) ((16 : Nat) : Int) = (hsum op code qr aa tc rd ra ad false) % 256; rw [andNot_mask 16 (by omega) _ hbit.1 hbit.2.1]; have := hbit.2.2.2.2.1; have := hbit.2.2.2.2.2.2.1; omega
      have hy := hbit.2.2.1
      have hy2 := hbit.2.2.2.1
      have O4 := Lib.hid o4
      have O5 := Lib.hid ho5
      have HE := Lib.hid heq
      have HB5 : Hid (Below w.heap.size w w5) := (HB3.out.drew.trans (hb4.mono (by have := HB3.out.size; exact this))).trans (hb5.mono (by have := HB3.out.size; have := hb4.size; exact Nat.le_trans (by assumption) (by assumption)))
      have c41 := k4.1
      have f41 := k4.2
      have c51 := k5.1
      have hgw : w.heap.size ≤ g4 := Nat.le_trans HB3.out.size hg4
      clear hbit k4 k5 e4 e5 ho4 ho5 hb4 hb5 o4 heq cp cq cpd cqd cp4 cq4 cp5 cq5 hfd lp lq lpd lqd lp4 lq4 HB3 hg4 hg5 l4 _t z1 z2 hlt2
      generalize hx : (hsum op code qr aa tc rd ra ad true) % 256 = x at *
      generalize hy0 : (hsum op code qr aa tc rd ra ad false) % 256 = y at *
      have HX := Lib.hid hx
      have HY := Lib.hid hy0
      clear hx hy0
      go_wp2_with fail
      have o6 := O4.out.put1 3 y (UInt8.ofNat y.toNat) (u8_of y hy hy2).symm
      rw [HE.out] at o6
      have o7 := O5.out.setCell ⟨g4, 3, none⟩ (.int .u8 y) (by simpa [Value.ownBlock] using hne)
      refine (laws_same _ _ _ _ _ o6.reads o7.reads).mono ?_
      rintro e w6 ⟨rfl, rfl⟩
      clear o6 o7
      go_wp2_with fail
      go_ret
      exact ⟨by simp, HB5.out.setCell (by simpa using hgw) _⟩
  · go_enter Tryd.func8, Tryd.ntmps8
    go_wp2_with fail
    refine (laws_specHead id op code qr aa tc rd ra ad cd _).mono ?_
    rintro e w1 ⟨rfl, hb1⟩
    go_wp2_with fail
    refine (spec_HeadOk id op code qr aa tc rd ra ad cd _).mono ?_
    rintro e w2 ⟨rfl, hb2⟩
    have z1 := hb1.size
    simp only [World.size_alloc] at z1
    have hbb : Below w.heap.size w w2 := (((Below.refl _ w).alloc (Nat.le_refl _) _).trans (hb1.mono (by simp))).trans (hb2.mono (by omega))
    have hokb : (decide ((op : Int) < 16) && decide ((code : Int) < 16)) = false := by
      rw [Bool.and_eq_false_iff]
      simp only [decide_eq_false_iff_not]
      omega
    rw [hokb]
    have HBB := Lib.hid hbb
    clear hokb hbb hb1 hb2
    go_wp2_with fail
    go_ret
    exact ⟨rfl, HBB.out⟩
end Go.Proofs.YtkhghacfhlociaaDoor
