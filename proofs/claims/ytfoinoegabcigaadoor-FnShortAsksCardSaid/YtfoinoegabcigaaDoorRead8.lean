/- The reference's Read. Written by gen_read8.py. -/
import Derived.Test.YtfoinoegabcigaaDoorRead7
set_option linter.unusedVariables false
set_option linter.unusedSimpArgs false
namespace Go.Proofs.YtfoinoegabcigaaDoor
open Go.RowKit
set_option maxHeartbeats 8000000
set_option maxRecDepth 100000

section
variable {P : Program} {fn : Func} {R : Ending → World → Prop} {f : Env} {w : World}
theorem retc2 {p t : Tmp} {ty : TypeId} {g : Nat} {tt : TypeId} {cs : Array Value} {fr : Nat × Nat} {d : TypeDesc} {v : Value} (hr : fn.results = #[.cell p ty, .tmp t]) (hp : f p = .pointer (some ⟨g, 0, none⟩)) (hg : w.heap[g]? = some (.cells cs tt fr))
    (hu : P.underlying ty = some d) (hd : (match d with | .struct _ | .array _ _ => true | _ => false) = true) (hi : (P.info? ty).map (·.size) = some cs.size) (hv : f t = v) (h : R (.returned (.tuple #[.agg cs, v])) w) : RetQ P fn R .ret f w := by
  refine retP (fun tmps ht => ?_) h
  have hp' : tmps[p]?.getD undef = .pointer (some ⟨g, 0, none⟩) := by have := ht p; rw [hp] at this; simpa using this
  have hv' : tmps[t]?.getD undef = v := by have := ht t; rw [hv] at this; simpa using this
  simp [results, hr, hp', hv', asAddr, run_loadVar_row w g tt ty cs fr d hg hu hd hi]
end
theorem u16_and_pow (x : Int) (j : Nat) (h0 : 0 ≤ x) (h1 : x < 65536) (hj : j < 16) : bits .and .u16 x ((2 ^ j : Nat) : Int) = x / ((2 ^ j : Nat) : Int) % 2 * ((2 ^ j : Nat) : Int) := by
  obtain ⟨n, rfl⟩ := Int.eq_ofNat_of_zero_le h0
  have hp : (2 : Nat) ^ j < 65536 := by
    have := Nat.pow_lt_pow_right (a := 2) (by omega) hj
    simpa using this
  rw [u16_and_nat n (2 ^ j) (by omega) hp, nat_bit]
  push_cast
  rfl
theorem bi_ne (b : Bool) (m : Int) (hm : m ≠ 0) : (bi b * m != 0) = b := by cases b <;> simp [bi, hm]
/-- the bits of a header, one by one -/
structure BitsOf (h : HeadM) : Prop where
  qr : bits .and .u16 h.bits 32768 = bi h.qr * 32768
  aa : bits .and .u16 h.bits 1024 = bi h.aa * 1024
  tc : bits .and .u16 h.bits 512 = bi h.tc * 512
  rd : bits .and .u16 h.bits 256 = bi h.rd * 256
  ra : bits .and .u16 h.bits 128 = bi h.ra * 128
  ad : bits .and .u16 h.bits 32 = bi h.ad * 32
  cd : bits .and .u16 h.bits 16 = bi h.cd * 16
  z : bits .and .u16 h.bits 64 = 0
  code : bits .and .u16 h.bits 15 = h.code
  op : bits .and .u16 (h.bits / 2048) 15 = h.op
theorem and15 (x : Int) (h0 : 0 ≤ x) (h1 : x < 65536) : bits .and .u16 x 15 = x % 16 := by
  obtain ⟨n, rfl⟩ := Int.eq_ofNat_of_zero_le h0
  have e := u16_and_nat n 15 (by omega) (by omega)
  rw [show n &&& 15 = n % 16 from Nat.and_two_pow_sub_one_eq_mod n 4] at e
  have e' : bits .and .u16 (n : Int) 15 = ((n % 16 : Nat) : Int) := e
  rw [e']
  omega
theorem bit_of {x hi b lo m : Int} (hm : 0 < m) (hx : x = lo + (hi * 2 + b) * m) (h0 : 0 ≤ lo) (h1 : lo < m) (hb : 0 ≤ b ∧ b ≤ 1) : x / m % 2 = b := by
  have e : x / m = hi * 2 + b := by
    rw [hx, Int.add_mul_ediv_right _ _ (by omega), Int.ediv_eq_zero_of_lt h0 h1, Int.zero_add]
  rw [e]
  omega
theorem bitsOf (h : HeadM) (hop : h.op < 16) (hcode : h.code < 16) : BitsOf h := by
  have hb := bits_bd h hop hcode
  have b1 := bi_bd h.qr; have b2 := bi_bd h.aa; have b3 := bi_bd h.tc; have b4 := bi_bd h.rd; have b5 := bi_bd h.ra; have b6 := bi_bd h.ad; have b7 := bi_bd h.cd
  have key : ∀ (j : Nat) (v : Int), j < 16 → h.bits / ((2 ^ j : Nat) : Int) % 2 = v → bits .and .u16 h.bits ((2 ^ j : Nat) : Int) = v * ((2 ^ j : Nat) : Int) := fun j v hj hv => by rw [u16_and_pow _ j hb.1 hb.2 hj, hv]
  have hd : h.bits = h.op * 2048 + h.code + bi h.ra * 128 + bi h.rd * 256 + bi h.tc * 512 + bi h.aa * 1024 + bi h.qr * 32768 + bi h.ad * 32 + bi h.cd * 16 := rfl
  have e15 : h.bits / 32768 % 2 = bi h.qr := bit_of (hi := 0) (lo := h.op * 2048 + bi h.aa * 1024 + bi h.tc * 512 + bi h.rd * 256 + bi h.ra * 128 + bi h.ad * 32 + bi h.cd * 16 + h.code) (by omega) (by rw [hd]; omega) (by omega) (by omega) b1
  have e10 : h.bits / 1024 % 2 = bi h.aa := bit_of (hi := bi h.qr * 16 + h.op) (lo := bi h.tc * 512 + bi h.rd * 256 + bi h.ra * 128 + bi h.ad * 32 + bi h.cd * 16 + h.code) (by omega) (by rw [hd]; omega) (by omega) (by omega) b2
  have e9 : h.bits / 512 % 2 = bi h.tc := bit_of (hi := bi h.qr * 32 + h.op * 2 + bi h.aa) (lo := bi h.rd * 256 + bi h.ra * 128 + bi h.ad * 32 + bi h.cd * 16 + h.code) (by omega) (by rw [hd]; omega) (by omega) (by omega) b3
  have e8 : h.bits / 256 % 2 = bi h.rd := bit_of (hi := bi h.qr * 64 + h.op * 4 + bi h.aa * 2 + bi h.tc) (lo := bi h.ra * 128 + bi h.ad * 32 + bi h.cd * 16 + h.code) (by omega) (by rw [hd]; omega) (by omega) (by omega) b4
  have e7 : h.bits / 128 % 2 = bi h.ra := bit_of (hi := bi h.qr * 128 + h.op * 8 + bi h.aa * 4 + bi h.tc * 2 + bi h.rd) (lo := bi h.ad * 32 + bi h.cd * 16 + h.code) (by omega) (by rw [hd]; omega) (by omega) (by omega) b5
  have e6 : h.bits / 64 % 2 = 0 := bit_of (hi := bi h.qr * 256 + h.op * 16 + bi h.aa * 8 + bi h.tc * 4 + bi h.rd * 2 + bi h.ra) (lo := bi h.ad * 32 + bi h.cd * 16 + h.code) (by omega) (by rw [hd]; omega) (by omega) (by omega) (by omega)
  have e5 : h.bits / 32 % 2 = bi h.ad := bit_of (hi := bi h.qr * 512 + h.op * 32 + bi h.aa * 16 + bi h.tc * 8 + bi h.rd * 4 + bi h.ra * 2) (lo := bi h.cd * 16 + h.code) (by omega) (by rw [hd]; omega) (by omega) (by omega) b6
  have e4 : h.bits / 16 % 2 = bi h.cd := bit_of (hi := bi h.qr * 1024 + h.op * 64 + bi h.aa * 32 + bi h.tc * 16 + bi h.rd * 8 + bi h.ra * 4 + bi h.ad) (lo := (h.code : Int)) (by omega) (by rw [hd]; omega) (by omega) (by omega) b7
  have ecode : h.bits % 16 = h.code := by
    have hq : h.bits = h.code + (bi h.qr * 2048 + h.op * 128 + bi h.aa * 64 + bi h.tc * 32 + bi h.rd * 16 + bi h.ra * 8 + bi h.ad * 2 + bi h.cd) * 16 := by rw [hd]; omega
    rw [hq, Int.add_mul_emod_self_right]
    omega
  have eop : h.bits / 2048 % 16 = h.op := by
    have hq : h.bits = (bi h.aa * 1024 + bi h.tc * 512 + bi h.rd * 256 + bi h.ra * 128 + bi h.ad * 32 + bi h.cd * 16 + h.code) + (bi h.qr * 16 + h.op) * 2048 := by rw [hd]; omega
    rw [hq, Int.add_mul_ediv_right _ _ (by omega), Int.ediv_eq_zero_of_lt (by omega) (by omega), Int.zero_add]
    omega
  have h2 : 0 ≤ h.bits / 2048 ∧ h.bits / 2048 < 65536 := by omega
  clear hd b1 b2 b3 b4 b5 b6 b7
  refine ⟨key 15 _ (by omega) e15, key 10 _ (by omega) e10, key 9 _ (by omega) e9, key 8 _ (by omega) e8, key 7 _ (by omega) e7, key 5 _ (by omega) e5, key 4 _ (by omega) e4, ?_, ?_, ?_⟩
  · have h6 : bits .and .u16 h.bits ((2 ^ 6 : Nat) : Int) = 0 * ((2 ^ 6 : Nat) : Int) := key 6 0 (by omega) e6
    rw [Int.zero_mul] at h6
    exact h6
  · rw [and15 _ hb.1 hb.2, ecode]
  · rw [and15 _ h2.1 h2.2, eop]
theorem Grew.part {α : Type} {B : Nat} {w w' : World} {e : TypeId} {g : α → List Value} {k : Nat} {v v' : Value} {l : List α} {a : α} (hl : LAcc B w e g k v l) (hB : B ≤ w.heap.size) (hlen : (g a).length = k) (hgr : Grew w e k v l.length (l.flatMap g) w' v' (l.length + 1) (l.flatMap g ++ (g a).toArray.toList)) : LAcc B w' e g k v' (l ++ [a]) ∧ Chg (fun j => v.ownBlock = some j) w w' := by
  refine ⟨⟨?_, ?_⟩, Chg.of_grownBy hgr.by_ (fun k hk => hk) (fun k hk => ?_)⟩
  · have := hl.acc.grew hgr hB
    simpa using this
  · intro y hy
    rcases List.mem_append.1 hy with hy | hy
    · exact hl.len y hy
    · rw [List.mem_singleton.1 hy]; exact hlen
  · rcases hgr.old.2 with ⟨e0, _⟩ | ⟨g, cap, cur, e0, _, hg, _⟩
    · rw [e0] at hk; cases hk
    · rw [e0] at hk; cases hk; exact ⟨_, _, hg⟩
theorem cell_at {w : World} {b o : Nat} {cs : Array Value} {t : TypeId} {fr : Nat × Nat} {v : Value} (h : w.heap[b]? = some (.cells cs t fr)) (hv : cs.toList[o]? = some v) : w.cell? ⟨b, o, none⟩ = some v := by
  rw [cell_of_row w b o cs t fr h]
  simpa using hv
theorem head_in {F : Bytes} {id bits q an ns ar : Int} (h : F.take 12 = hdr id bits q an ns ar) : BytesIn F 0 (two id) ∧ BytesIn F 2 (two bits) ∧ BytesIn F 4 (two q) ∧ BytesIn F 6 (two an) ∧ BytesIn F 8 (two ns) ∧ BytesIn F 10 (two ar) := by
  have h0 : BytesIn F 0 (two id ++ two bits ++ two q ++ two an ++ two ns ++ two ar) := fun i x hx => by
    have hi : i < 12 := (List.getElem?_eq_some_iff.1 hx).1
    rw [Nat.zero_add, ← List.getElem?_take_of_lt hi, h]
    exact hx
  exact ⟨h0.left.left.left.left.left, h0.left.left.left.left.right, h0.left.left.left.right, h0.left.left.right, h0.left.right, h0.right⟩
/-- what Read returns of a message that can be read -/
structure ReadMsg (B : Nat) (w : World) (k : Nat) (M : MsgM) (vs : List Value) : Prop where
  at_ : ∃ va v1 v2 v3 l1 l2 l3, vs = msgCells M.head va v1 v2 v3 ∧ LAcc B w 78 askCells 3 va M.asks ∧ ReadRecs B w k v1 l1 M.one ∧ ReadRecs B w k v2 l2 M.two ∧ ReadRecs B w k v3 l3 M.three
theorem ReadMsg.grow {B : Nat} {w w' : World} {k : Nat} {M : MsgM} {vs : List Value} (h : ReadMsg B w k M vs) (hg : Grows w w') : ReadMsg B w' k M vs := by
  obtain ⟨va, v1, v2, v3, l1, l2, l3, e, h1, h2, h3, h4⟩ := h.at_
  exact ⟨va, v1, v2, v3, l1, l2, l3, e, h1.grow hg, h2.grow hg, h3.grow hg, h4.grow hg⟩
theorem spec_Read (w0 : World) (bv' : Value) (F : Bytes) (k : Nat) (M : MsgM) (hk : k < 14) (hB : BodyRd k) (hsrc : SrcAt w0 bv' F) (hR : RdMsg k M F) (hid : M.head.id < 65536) (hop : M.head.op < 16) (hcode : M.head.code < 16)
    (hna : M.asks.length < 60000) (hn1 : M.one.length < 60000) (hn2 : M.two.length < 60000) (hn3 : M.three.length < 60000) (hask : ∀ a ∈ M.asks, a.name.length ≤ 1000 ∧ a.type < 65536 ∧ a.cls < 65536) (h1 : ∀ r ∈ M.one, RecIn k r) (h2 : ∀ r ∈ M.two, RecIn k r) (h3 : ∀ r ∈ M.three, RecIn k r) :
    Calls Tryd.prog 41 #[bv'] w0 fun e w' => ∃ vs, e = .returned (.tuple #[.agg vs.toArray, .bool true]) ∧ ReadMsg w0.heap.size w' k M vs ∧ Grows w0 w' := by
  obtain ⟨p1, p2, p3, hp1, hp2, hp3, hp4⟩ := hR.parts
  obtain ⟨hi0, hi1, hi2, hi3, hi4, hi5⟩ := head_in hR.head
  have hbd := bits_bd M.head hop hcode
  have hf := bitsOf M.head hop hcode
  have hFl := hsrc.len
  obtain ⟨aos, caps, hsv, hscap⟩ := hsrc.cap
  subst hsv
  generalize hh : M.head = h at *
  refine calls_of_WC Tryd.func41 rfl Tryd.ntmps41 rfl ?_
  refine GO ?_
  refine WL_alloc ?_
  intro b2 wz hb2 hz2 gz
  refine GO ?_
  refine WL_build (vs := [(0, .slice aos F.length caps), (3, .bool true)]) (l := [.slice aos F.length caps, .int .i64 0, .bool false, .bool true]) (EvL.eq ⟨rfl, vv, rfl, vv, trivial⟩) ⟨⟨0, rfl⟩, ⟨_, rfl⟩, trivial⟩ (rfl) ?_
  refine WL_box vv ?_
  intro g wr hgb hg gr
  have hg : wr.heap[g]? = some (.cells #[.slice aos F.length caps, .int .i64 ((0 : Nat) : Int), .bool false, .bool true] 134 (0, 0)) := hg
  refine GO ?_
  refine WL_build (vs := []) (l := [.int .u16 0, .bool false, .int .u16 0, .bool false, .bool false, .bool false, .bool false, .bool false, .bool false, .int .u16 0, .slice none 0 0, .slice none 0 0, .slice none 0 0, .slice none 0 0]) rfl trivial (by kernel_rfl) ?_
  refine WL_alloc ?_
  intro b5 wm hb5n hm0 gm
  refine WL_storeRow (new := #[.int .u16 0, .bool false, .int .u16 0, .bool false, .bool false, .bool false, .bool false, .bool false, .bool false, .int .u16 0, .slice none 0 0, .slice none 0 0, .slice none 0 0, .slice none 0 0]) vv vv hm0 rfl rfl (by simp [Value.oneCell']) ?_
  intro wn hwn hm
  have gn : Grows wr wn := gm.wrote hwn hb5n
  have hgz : w0.heap.size ≤ g := Nat.le_trans gz.size hgb
  have hb5 : w0.heap.size ≤ b5 := Nat.le_trans (Nat.le_trans gz.size gr.size) hb5n
  have hg5 : g ≠ b5 := by have := (Array.getElem?_eq_some_iff.1 hg).1; omega
  have hRn : RdrAt w0 wn g (.slice aos F.length caps) F 0 true := ⟨gn.kept hg, (gz.trans gr).trans gn, hgz, hsrc, Nat.zero_le _⟩
  have hz2n : wn.heap[b2]? = some _ := gn.kept (gr.kept hz2)
  have hw0n : w0.heap.size ≤ wn.heap.size := hRn.grows.size
  have hb2g : b2 ≠ g := by have := (Array.getElem?_eq_some_iff.1 hz2).1; omega
  have hb25 : b2 ≠ b5 := by have := (Array.getElem?_eq_some_iff.1 hz2).1; have := gr.size; omega
  have hR := hRn
  have hC : Chg (fun j => j = g ∨ j = b5) wn wn := Chg.refl _ _
  refine GO ?_
  refine WL_fun rfl ((reader_two w0 _ g _ F 0 true h.id (by omega) (by omega) hR hi0).mono ?_)
  rintro e wa ⟨rfl, hRa, hCa⟩
  refine ⟨_, rfl, ?_⟩
  have hm := hCa.kept hm hg5.symm
  have hR := hRa
  have hC := hC.trans hCa (fun _ _ e => .inl e)
  refine GO ?_
  refine WL_store1 vv vv hm (by simp) rfl ?_
  intro ws0 hw hmx
  have hm : ws0.heap[b5]? = some (.cells #[.int .u16 (h.id : Int), .bool false, .int .u16 0, .bool false, .bool false, .bool false, .bool false, .bool false, .bool false, .int .u16 0, .slice none 0 0, .slice none 0 0, .slice none 0 0, .slice none 0 0] 34 (0, 0)) := hmx
  have hR := hR.to2 (S := (· = b5)) hw (fun k hk => by rw [hk]; exact hb5) (hw.kept hR.at_ hg5) hR.le
  have hC := hC.trans hw (fun _ _ e => .inr e)
  clear hw hmx
  refine GO ?_
  refine WL_fun rfl ((reader_two w0 _ g _ F 2 true h.bits hbd.1 hbd.2 hR hi1).mono ?_)
  rintro e wb ⟨rfl, hRb, hCb⟩
  refine ⟨_, rfl, ?_⟩
  have hm := hCb.kept hm hg5.symm
  have hR := hRb
  have hC := hC.trans hCb (fun _ _ e => .inl e)
  refine GO ?_
  refine WL_y (Y_and (c := bi h.qr * 32768) vv vv hf.qr) ?_
  refine GO ?_
  refine WL_y (Y_shr (c := h.bits / 2048) vv vv (by decide) (by rw [Int.fdiv_eq_ediv_of_nonneg _ (by decide)]; rfl)) ?_
  refine WL_y (Y_and (c := (h.op : Int)) vv vv hf.op) ?_
  refine GO ?_
  refine WL_y (Y_and (c := bi h.aa * 1024) vv vv hf.aa) ?_
  refine GO ?_
  refine WL_y (Y_and (c := bi h.tc * 512) vv vv hf.tc) ?_
  refine GO ?_
  refine WL_y (Y_and (c := bi h.rd * 256) vv vv hf.rd) ?_
  refine GO ?_
  rw [bi_ne h.qr 32768 (by decide), bi_ne h.aa 1024 (by decide), bi_ne h.tc 512 (by decide), bi_ne h.rd 256 (by decide)]
  refine WL_store1 vv vv hm (by simp) rfl ?_
  intro ws1 hw hmx
  have hm : ws1.heap[b5]? = some (.cells #[.int .u16 (h.id : Int), .bool h.qr, .int .u16 0, .bool false, .bool false, .bool false, .bool false, .bool false, .bool false, .int .u16 0, .slice none 0 0, .slice none 0 0, .slice none 0 0, .slice none 0 0] 34 (0, 0)) := hmx
  have hR := hR.to2 (S := (· = b5)) hw (fun k hk => by rw [hk]; exact hb5) (hw.kept hR.at_ hg5) hR.le
  have hC := hC.trans hw (fun _ _ e => .inr e)
  clear hw hmx
  refine GO ?_
  refine WL_store1 vv vv hm (by simp) rfl ?_
  intro ws2 hw hmx
  have hm : ws2.heap[b5]? = some (.cells #[.int .u16 (h.id : Int), .bool h.qr, .int .u16 (h.op : Int), .bool false, .bool false, .bool false, .bool false, .bool false, .bool false, .int .u16 0, .slice none 0 0, .slice none 0 0, .slice none 0 0, .slice none 0 0] 34 (0, 0)) := hmx
  have hR := hR.to2 (S := (· = b5)) hw (fun k hk => by rw [hk]; exact hb5) (hw.kept hR.at_ hg5) hR.le
  have hC := hC.trans hw (fun _ _ e => .inr e)
  clear hw hmx
  refine GO ?_
  refine WL_store1 vv vv hm (by simp) rfl ?_
  intro ws3 hw hmx
  have hm : ws3.heap[b5]? = some (.cells #[.int .u16 (h.id : Int), .bool h.qr, .int .u16 (h.op : Int), .bool h.aa, .bool false, .bool false, .bool false, .bool false, .bool false, .int .u16 0, .slice none 0 0, .slice none 0 0, .slice none 0 0, .slice none 0 0] 34 (0, 0)) := hmx
  have hR := hR.to2 (S := (· = b5)) hw (fun k hk => by rw [hk]; exact hb5) (hw.kept hR.at_ hg5) hR.le
  have hC := hC.trans hw (fun _ _ e => .inr e)
  clear hw hmx
  refine GO ?_
  refine WL_store1 vv vv hm (by simp) rfl ?_
  intro ws4 hw hmx
  have hm : ws4.heap[b5]? = some (.cells #[.int .u16 (h.id : Int), .bool h.qr, .int .u16 (h.op : Int), .bool h.aa, .bool h.tc, .bool false, .bool false, .bool false, .bool false, .int .u16 0, .slice none 0 0, .slice none 0 0, .slice none 0 0, .slice none 0 0] 34 (0, 0)) := hmx
  have hR := hR.to2 (S := (· = b5)) hw (fun k hk => by rw [hk]; exact hb5) (hw.kept hR.at_ hg5) hR.le
  have hC := hC.trans hw (fun _ _ e => .inr e)
  clear hw hmx
  refine GO ?_
  refine WL_store1 vv vv hm (by simp) rfl ?_
  intro ws5 hw hmx
  have hm : ws5.heap[b5]? = some (.cells #[.int .u16 (h.id : Int), .bool h.qr, .int .u16 (h.op : Int), .bool h.aa, .bool h.tc, .bool h.rd, .bool false, .bool false, .bool false, .int .u16 0, .slice none 0 0, .slice none 0 0, .slice none 0 0, .slice none 0 0] 34 (0, 0)) := hmx
  have hR := hR.to2 (S := (· = b5)) hw (fun k hk => by rw [hk]; exact hb5) (hw.kept hR.at_ hg5) hR.le
  have hC := hC.trans hw (fun _ _ e => .inr e)
  clear hw hmx
  refine GO ?_
  refine WL_y (Y_and (c := bi h.ra * 128) vv vv hf.ra) ?_
  refine GO ?_
  refine WL_y (Y_and (c := bi h.ad * 32) vv vv hf.ad) ?_
  refine GO ?_
  refine WL_y (Y_and (c := bi h.cd * 16) vv vv hf.cd) ?_
  refine GO ?_
  refine WL_y (Y_and (c := (h.code : Int)) vv vv hf.code) ?_
  refine GO ?_
  rw [bi_ne h.ra 128 (by decide), bi_ne h.ad 32 (by decide), bi_ne h.cd 16 (by decide)]
  refine WL_store1 vv vv hm (by simp) rfl ?_
  intro ws6 hw hmx
  have hm : ws6.heap[b5]? = some (.cells #[.int .u16 (h.id : Int), .bool h.qr, .int .u16 (h.op : Int), .bool h.aa, .bool h.tc, .bool h.rd, .bool h.ra, .bool false, .bool false, .int .u16 0, .slice none 0 0, .slice none 0 0, .slice none 0 0, .slice none 0 0] 34 (0, 0)) := hmx
  have hR := hR.to2 (S := (· = b5)) hw (fun k hk => by rw [hk]; exact hb5) (hw.kept hR.at_ hg5) hR.le
  have hC := hC.trans hw (fun _ _ e => .inr e)
  clear hw hmx
  refine GO ?_
  refine WL_store1 vv vv hm (by simp) rfl ?_
  intro ws7 hw hmx
  have hm : ws7.heap[b5]? = some (.cells #[.int .u16 (h.id : Int), .bool h.qr, .int .u16 (h.op : Int), .bool h.aa, .bool h.tc, .bool h.rd, .bool h.ra, .bool h.ad, .bool false, .int .u16 0, .slice none 0 0, .slice none 0 0, .slice none 0 0, .slice none 0 0] 34 (0, 0)) := hmx
  have hR := hR.to2 (S := (· = b5)) hw (fun k hk => by rw [hk]; exact hb5) (hw.kept hR.at_ hg5) hR.le
  have hC := hC.trans hw (fun _ _ e => .inr e)
  clear hw hmx
  refine GO ?_
  refine WL_store1 vv vv hm (by simp) rfl ?_
  intro ws8 hw hmx
  have hm : ws8.heap[b5]? = some (.cells #[.int .u16 (h.id : Int), .bool h.qr, .int .u16 (h.op : Int), .bool h.aa, .bool h.tc, .bool h.rd, .bool h.ra, .bool h.ad, .bool h.cd, .int .u16 0, .slice none 0 0, .slice none 0 0, .slice none 0 0, .slice none 0 0] 34 (0, 0)) := hmx
  have hR := hR.to2 (S := (· = b5)) hw (fun k hk => by rw [hk]; exact hb5) (hw.kept hR.at_ hg5) hR.le
  have hC := hC.trans hw (fun _ _ e => .inr e)
  clear hw hmx
  refine GO ?_
  refine WL_store1 vv vv hm (by simp) rfl ?_
  intro ws9 hw hmx
  have hm : ws9.heap[b5]? = some (.cells #[.int .u16 (h.id : Int), .bool h.qr, .int .u16 (h.op : Int), .bool h.aa, .bool h.tc, .bool h.rd, .bool h.ra, .bool h.ad, .bool h.cd, .int .u16 (h.code : Int), .slice none 0 0, .slice none 0 0, .slice none 0 0, .slice none 0 0] 34 (0, 0)) := hmx
  have hR := hR.to2 (S := (· = b5)) hw (fun k hk => by rw [hk]; exact hb5) (hw.kept hR.at_ hg5) hR.le
  have hC := hC.trans hw (fun _ _ e => .inr e)
  clear hw hmx
  refine GO ?_
  refine WL_fun rfl ((reader_two w0 _ g _ F 4 true (M.asks.length : Int) (by omega) (by omega) hR hi2).mono ?_)
  rintro e wc0 ⟨rfl, hRb, hCb⟩
  refine ⟨_, rfl, ?_⟩
  have hm := hCb.kept hm hg5.symm
  have hR := hRb
  have hC := hC.trans hCb (fun _ _ e => .inl e)
  refine WL_conv (c := (M.asks.length : Int)) vv (by rw [IntWalk.i64_in _ (by omega)]) ?_
  refine GO ?_
  refine WL_fun rfl ((reader_two w0 _ g _ F 6 true (M.one.length : Int) (by omega) (by omega) hR hi3).mono ?_)
  rintro e wc1 ⟨rfl, hRb, hCb⟩
  refine ⟨_, rfl, ?_⟩
  have hm := hCb.kept hm hg5.symm
  have hR := hRb
  have hC := hC.trans hCb (fun _ _ e => .inl e)
  refine WL_conv (c := (M.one.length : Int)) vv (by rw [IntWalk.i64_in _ (by omega)]) ?_
  refine GO ?_
  refine WL_fun rfl ((reader_two w0 _ g _ F 8 true (M.two.length : Int) (by omega) (by omega) hR hi4).mono ?_)
  rintro e wc2 ⟨rfl, hRb, hCb⟩
  refine ⟨_, rfl, ?_⟩
  have hm := hCb.kept hm hg5.symm
  have hR := hRb
  have hC := hC.trans hCb (fun _ _ e => .inl e)
  refine WL_conv (c := (M.two.length : Int)) vv (by rw [IntWalk.i64_in _ (by omega)]) ?_
  refine GO ?_
  refine WL_fun rfl ((reader_two w0 _ g _ F 10 true (M.three.length : Int) (by omega) (by omega) hR hi5).mono ?_)
  rintro e wc3 ⟨rfl, hRb, hCb⟩
  refine ⟨_, rfl, ?_⟩
  have hm := hCb.kept hm hg5.symm
  have hR := hRb
  have hC := hC.trans hCb (fun _ _ e => .inl e)
  refine WL_conv (c := (M.three.length : Int)) vv (by rw [IntWalk.i64_in _ (by omega)]) ?_
  refine WL_slice (vs := [.int .i64 (M.asks.length : Int), .int .i64 (M.one.length : Int), .int .i64 (M.two.length : Int), .int .i64 (M.three.length : Int)]) (EvL.eq ⟨rfl, vv, rfl, vv, rfl, vv, rfl, vv, trivial⟩) (by simp) rfl (by simp [Value.cells]) rfl ?_
  intro b8 wd hb8 h8 gd
  have h8 : wd.heap[b8]? = some (.cells #[.int .i64 (M.asks.length : Int), .int .i64 (M.one.length : Int), .int .i64 (M.two.length : Int), .int .i64 (M.three.length : Int)] 3 (0, 0)) := h8
  have hm5 := hm
  have hm := gd.kept hm
  have hg8 : b8 ≠ g := by have := (Array.getElem?_eq_some_iff.1 hR.at_).1; omega
  have hb58 : b5 ≠ b8 := by have := (Array.getElem?_eq_some_iff.1 hm).1; have := gd.size; intro e; rw [← e] at hb8; have h9 := (Array.getElem?_eq_some_iff.1 hm5).1; omega
  have hR := hR.grow gd
  have hC := hC.trans (Chg.of_below (S := fun j => j = g ∨ j = b5) gd) (fun _ _ e => e)
  refine GON ?_
  refine WC_stop (fun f w' => ∃ (va : Value) (wh : Bool), EnvHas f [(0, .slice aos F.length caps), (2, .pointer (some ⟨b2, 0, none⟩)), (4, .pointer (some ⟨g, 0, none⟩)), (5, .pointer (some ⟨b5, 0, none⟩)), (6, .int .u16 h.bits), (8, .slice (some ⟨b8, 0, none⟩) 4 4)] ∧ w'.heap[b5]? = some (.cells #[.int .u16 (h.id : Int), .bool h.qr, .int .u16 (h.op : Int), .bool h.aa, .bool h.tc, .bool h.rd, .bool h.ra, .bool h.ad, .bool h.cd, .int .u16 (h.code : Int), va, .slice none 0 0, .slice none 0 0, .slice none 0 0] 34 (0, 0)) ∧ w'.heap[b8]? = some (.cells #[.int .i64 (M.asks.length : Int), .int .i64 (M.one.length : Int), .int .i64 (M.two.length : Int), .int .i64 (M.three.length : Int)] 3 (0, 0)) ∧ RdrAt w0 w' g (.slice aos F.length caps) F p1 wh ∧ LAcc wn.heap.size w' 78 askCells 3 va M.asks ∧ Chg (fun j => j = g ∨ j = b5) wn w') ?_ ?_
  · refine GO ?_
    refine WC_loop (fun m f w' => ∃ (i p' : Nat) (va : Value) (wh : Bool), m = M.asks.length - i ∧ i ≤ M.asks.length ∧ EnvHas f [(0, .slice aos F.length caps), (2, .pointer (some ⟨b2, 0, none⟩)), (4, .pointer (some ⟨g, 0, none⟩)), (5, .pointer (some ⟨b5, 0, none⟩)), (6, .int .u16 h.bits), (8, .slice (some ⟨b8, 0, none⟩) 4 4), (9, .int .i64 (i : Int))] ∧ w'.heap[b5]? = some (.cells #[.int .u16 (h.id : Int), .bool h.qr, .int .u16 (h.op : Int), .bool h.aa, .bool h.tc, .bool h.rd, .bool h.ra, .bool h.ad, .bool h.cd, .int .u16 (h.code : Int), va, .slice none 0 0, .slice none 0 0, .slice none 0 0] 34 (0, 0)) ∧ w'.heap[b8]? = some (.cells #[.int .i64 (M.asks.length : Int), .int .i64 (M.one.length : Int), .int .i64 (M.two.length : Int), .int .i64 (M.three.length : Int)] 3 (0, 0)) ∧ RdrAt w0 w' g (.slice aos F.length caps) F p' wh ∧ RdAsks F p' (M.asks.drop i) p1 ∧ LAcc wn.heap.size w' 78 askCells 3 va (M.asks.take i) ∧ Chg (fun j => j = g ∨ j = b5) wn w') M.asks.length ?_ ?_
    · exact ⟨0, 12, .slice none 0 0, true, rfl, Nat.zero_le _, ⟨rfl, rfl, rfl, rfl, rfl, rfl, rfl, trivial⟩, hm, h8, hR, by simpa using hp1, ⟨Acc.nil _ _ _ _, by simp⟩, hC⟩
    clear hm hR hC h8
    rintro m f' w2 ⟨i, p', va, wh, rfl, hi, he, hm, h8, hR, hrd, hA, hC⟩
    obtain ⟨f, rfl⟩ := he.form
    have hat := hR.at_
    by_cases hlt : i < M.asks.length
    · rw [drop_head hlt] at hrd
      obtain ⟨p4, ⟨n4, e4, hn4, hb4, rfl⟩, hrd⟩ := hrd
      obtain ⟨hq1, hq2, hq3⟩ := hask M.asks[i] (by simp)
      obtain ⟨aoa, capa, hva⟩ := hA.reads.value
      refine RUN ?_
      refine WL_index (i := 0) vv (by rfl) (by decide) ?_
      refine WL_load_cell vv (cell_at h8 rfl) ?_
      refine GO ?_
      rw [show decide ((i : Int) < (M.asks.length : Int)) = true from decide_eq_true (by omega)]
      refine RUN ?_
      refine WC_draws (fun _ => True) (by kernel_rfl) (fun _ _ => trivial) ?_
      intro wq gq hS
      have hm := gq.kept hm
      have h8 := gq.kept h8
      have hA := hA.grow gq
      have hR := hR.grow gq
      have hC := hC.trans (Chg.of_below (S := fun j => j = g ∨ j = b5) gq) (fun _ _ e => e)
      refine WT 0 ?_
      refine WT 2 ?_
      refine WT 4 ?_
      refine WT 6 ?_
      refine WD_two (c := 1) (c' := 3) (by kernel_rfl) rfl rfl ?_ ?_
      · skip
        refine WL_load vv hm rfl ?_
        refine WL_nil ⟨trivial, ?_⟩
        refine WD_one (c := 3) (by kernel_rfl) rfl ?_
        refine WL_fun rfl ((reader_name w0 _ g _ F p' wh M.asks[i].name n4 e4 hR hn4 hq1).mono ?_)
        rintro e wx ⟨wh4, rfl, hRx, hCx⟩
        refine ⟨_, rfl, ?_⟩
        have hm := hCx.kept hm hg5.symm
        have h8 := hCx.kept h8 hg8
        have hA := hA.wrote hCx (own_ne hA.acc.own hR.at_ (by decide))
        have hR := hRx
        have hC := hC.trans hCx (fun _ _ e => .inl e)
        clear hCx hRx
        refine WL_nil ⟨trivial, ?_⟩
        refine WD_one (c := 5) (by kernel_rfl) rfl ?_
        refine WL_fun rfl ((reader_two w0 _ g _ F e4 wh4 (M.asks[i].type : Int) (by omega) (by omega) hR hb4.left).mono ?_)
        rintro e wx ⟨rfl, hRx, hCx⟩
        refine ⟨_, rfl, ?_⟩
        have hm := hCx.kept hm hg5.symm
        have h8 := hCx.kept h8 hg8
        have hA := hA.wrote hCx (own_ne hA.acc.own hR.at_ (by decide))
        have hR := hRx
        have hC := hC.trans hCx (fun _ _ e => .inl e)
        clear hCx hRx
        refine WL_nil ⟨trivial, ?_⟩
        refine WD_one (c := 7) (by kernel_rfl) rfl ?_
        refine WL_fun rfl ((reader_two w0 _ g _ F (e4 + 2) wh4 (M.asks[i].cls : Int) (by omega) (by omega) hR hb4.right).mono ?_)
        rintro e wx ⟨rfl, hRx, hCx⟩
        refine ⟨_, rfl, ?_⟩
        have hm := hCx.kept hm hg5.symm
        have h8 := hCx.kept h8 hg8
        have hA := hA.wrote hCx (own_ne hA.acc.own hR.at_ (by decide))
        have hR := hRx
        have hC := hC.trans hCx (fun _ _ e => .inl e)
        clear hCx hRx
        refine WL_nil ⟨trivial, ?_⟩
        refine WD_one (c := 8) (by kernel_rfl) rfl ?_
        refine WL_build (vs := [(0, strOf M.asks[i].name), (1, .int .u16 (M.asks[i].type : Int)), (2, .int .u16 (M.asks[i].cls : Int))]) (l := askCells M.asks[i]) (EvL.eq ⟨rfl, vv, rfl, vv, rfl, vv, trivial⟩) ⟨⟨_, rfl⟩, ⟨_, rfl⟩, ⟨_, rfl⟩, trivial⟩ (by rfl) ?_
        refine WL_nil ⟨trivial, ?_⟩
        refine WD_one (c := 9) (by kernel_rfl) rfl ?_
        refine WL_slice (vs := [.agg (askCells M.asks[i]).toArray]) (EvL.eq ⟨rfl, vv, trivial⟩) (by simp) rfl (by simp [Value.cells, askCells]) rfl ?_
        intro b110 wx hb110 h110 gx
        have h110 : wx.heap[b110]? = some (.cells (askCells M.asks[i]).toArray 78 (0, 0)) := h110
        have hm := gx.kept hm
        have h8 := gx.kept h8
        have hA := hA.grow gx
        have hR := hR.grow gx
        have hC := hC.trans (Chg.of_below (S := fun j => j = g ∨ j = b5) gx) (fun _ _ e => e)
        clear gx
        refine WL_nil ⟨trivial, ?_⟩
        refine WD_one (c := 10) (by kernel_rfl) rfl ?_
        refine WL_append vv hA.acc.own vv (reads_new h110 (by simp [askCells])) (by simp [askCells, Value.oneCell']) ⟨by rw [List.length_take]; omega, by omega, by omega⟩ ?_
        intro v' wx hgr
        have hown := own_ne hA.acc.own hm (by decide)
        have hown8 := own_ne hA.acc.own h8 (by decide)
        have howng := own_ne hA.acc.own hR.at_ (by decide)
        have hbs := hA.acc.base
        obtain ⟨hA', hch⟩ := Grew.part hA hC.size rfl hgr
        have hm := hch.kept hm (fun e => hown e)
        have h8 := hch.kept h8 (fun e => hown8 e)
        have hR := hR.to2 hch (fun j hj => Nat.le_trans hw0n (hbs j hj)) (hch.kept hR.at_ (fun e => howng e)) hR.le
        have hC := hC.trans hch (fun j hj e => by have := hbs j e; omega)
        clear hA hch hgr
        have hA := hA'
        refine WL_nil ⟨trivial, ?_⟩
        refine WT 11 ?_
        refine WD_one (c := 12) (by kernel_rfl) rfl ?_
        obtain ⟨ao', cap', hv'⟩ := hA.reads.value
        have hmo := hm
        refine WL_store1 vv vv hm (by simp) (by rw [hv']; rfl) ?_
        intro wy hw hmx
        have hm : wy.heap[b5]? = some (.cells #[.int .u16 (h.id : Int), .bool h.qr, .int .u16 (h.op : Int), .bool h.aa, .bool h.tc, .bool h.rd, .bool h.ra, .bool h.ad, .bool h.cd, .int .u16 (h.code : Int), v', .slice none 0 0, .slice none 0 0, .slice none 0 0] 34 (0, 0)) := hmx
        have h8 := hw.kept h8 hb58.symm
        have hA := hA.wrote hw (own_ne hA.acc.own hmo (by decide))
        have hR := hR.to2 (S := (· = b5)) hw (fun k hk => by rw [hk]; exact hb5) (hw.kept hR.at_ hg5) hR.le
        have hC := hC.trans hw (fun _ _ e => .inr e)
        refine WL_nil ⟨trivial, ?_⟩
        refine WD_done (by kernel_rfl) ?_
        refine GO ?_
        refine WL_inc vv (by omega) ?_
        refine GO ?_
        exact ⟨M.asks.length - (i + 1), by omega, i + 1, e4 + 4, v', wh4, rfl, hlt, ⟨rfl, rfl, rfl, rfl, rfl, rfl, rfl, trivial⟩, hm, h8, hR, hrd, by rw [List.take_succ_eq_append_getElem hlt]; exact hA, hC⟩
      · skip
        refine WL_fun rfl ((reader_name w0 _ g _ F p' wh M.asks[i].name n4 e4 hR hn4 hq1).mono ?_)
        rintro e wx ⟨wh4, rfl, hRx, hCx⟩
        refine ⟨_, rfl, ?_⟩
        have hm := hCx.kept hm hg5.symm
        have h8 := hCx.kept h8 hg8
        have hA := hA.wrote hCx (own_ne hA.acc.own hR.at_ (by decide))
        have hR := hRx
        have hC := hC.trans hCx (fun _ _ e => .inl e)
        clear hCx hRx
        refine WL_nil ⟨trivial, ?_⟩
        refine WD_two (c := 1) (c' := 5) (by kernel_rfl) rfl rfl ?_ ?_
        · skip
          refine WL_load vv hm rfl ?_
          refine WL_nil ⟨trivial, ?_⟩
          refine WD_one (c := 5) (by kernel_rfl) rfl ?_
          refine WL_fun rfl ((reader_two w0 _ g _ F e4 wh4 (M.asks[i].type : Int) (by omega) (by omega) hR hb4.left).mono ?_)
          rintro e wx ⟨rfl, hRx, hCx⟩
          refine ⟨_, rfl, ?_⟩
          have hm := hCx.kept hm hg5.symm
          have h8 := hCx.kept h8 hg8
          have hA := hA.wrote hCx (own_ne hA.acc.own hR.at_ (by decide))
          have hR := hRx
          have hC := hC.trans hCx (fun _ _ e => .inl e)
          clear hCx hRx
          refine WL_nil ⟨trivial, ?_⟩
          refine WD_one (c := 7) (by kernel_rfl) rfl ?_
          refine WL_fun rfl ((reader_two w0 _ g _ F (e4 + 2) wh4 (M.asks[i].cls : Int) (by omega) (by omega) hR hb4.right).mono ?_)
          rintro e wx ⟨rfl, hRx, hCx⟩
          refine ⟨_, rfl, ?_⟩
          have hm := hCx.kept hm hg5.symm
          have h8 := hCx.kept h8 hg8
          have hA := hA.wrote hCx (own_ne hA.acc.own hR.at_ (by decide))
          have hR := hRx
          have hC := hC.trans hCx (fun _ _ e => .inl e)
          clear hCx hRx
          refine WL_nil ⟨trivial, ?_⟩
          refine WD_one (c := 8) (by kernel_rfl) rfl ?_
          refine WL_build (vs := [(0, strOf M.asks[i].name), (1, .int .u16 (M.asks[i].type : Int)), (2, .int .u16 (M.asks[i].cls : Int))]) (l := askCells M.asks[i]) (EvL.eq ⟨rfl, vv, rfl, vv, rfl, vv, trivial⟩) ⟨⟨_, rfl⟩, ⟨_, rfl⟩, ⟨_, rfl⟩, trivial⟩ (by rfl) ?_
          refine WL_nil ⟨trivial, ?_⟩
          refine WD_one (c := 9) (by kernel_rfl) rfl ?_
          refine WL_slice (vs := [.agg (askCells M.asks[i]).toArray]) (EvL.eq ⟨rfl, vv, trivial⟩) (by simp) rfl (by simp [Value.cells, askCells]) rfl ?_
          intro b110 wx hb110 h110 gx
          have h110 : wx.heap[b110]? = some (.cells (askCells M.asks[i]).toArray 78 (0, 0)) := h110
          have hm := gx.kept hm
          have h8 := gx.kept h8
          have hA := hA.grow gx
          have hR := hR.grow gx
          have hC := hC.trans (Chg.of_below (S := fun j => j = g ∨ j = b5) gx) (fun _ _ e => e)
          clear gx
          refine WL_nil ⟨trivial, ?_⟩
          refine WD_one (c := 10) (by kernel_rfl) rfl ?_
          refine WL_append vv hA.acc.own vv (reads_new h110 (by simp [askCells])) (by simp [askCells, Value.oneCell']) ⟨by rw [List.length_take]; omega, by omega, by omega⟩ ?_
          intro v' wx hgr
          have hown := own_ne hA.acc.own hm (by decide)
          have hown8 := own_ne hA.acc.own h8 (by decide)
          have howng := own_ne hA.acc.own hR.at_ (by decide)
          have hbs := hA.acc.base
          obtain ⟨hA', hch⟩ := Grew.part hA hC.size rfl hgr
          have hm := hch.kept hm (fun e => hown e)
          have h8 := hch.kept h8 (fun e => hown8 e)
          have hR := hR.to2 hch (fun j hj => Nat.le_trans hw0n (hbs j hj)) (hch.kept hR.at_ (fun e => howng e)) hR.le
          have hC := hC.trans hch (fun j hj e => by have := hbs j e; omega)
          clear hA hch hgr
          have hA := hA'
          refine WL_nil ⟨trivial, ?_⟩
          refine WT 11 ?_
          refine WD_one (c := 12) (by kernel_rfl) rfl ?_
          obtain ⟨ao', cap', hv'⟩ := hA.reads.value
          have hmo := hm
          refine WL_store1 vv vv hm (by simp) (by rw [hv']; rfl) ?_
          intro wy hw hmx
          have hm : wy.heap[b5]? = some (.cells #[.int .u16 (h.id : Int), .bool h.qr, .int .u16 (h.op : Int), .bool h.aa, .bool h.tc, .bool h.rd, .bool h.ra, .bool h.ad, .bool h.cd, .int .u16 (h.code : Int), v', .slice none 0 0, .slice none 0 0, .slice none 0 0] 34 (0, 0)) := hmx
          have h8 := hw.kept h8 hb58.symm
          have hA := hA.wrote hw (own_ne hA.acc.own hmo (by decide))
          have hR := hR.to2 (S := (· = b5)) hw (fun k hk => by rw [hk]; exact hb5) (hw.kept hR.at_ hg5) hR.le
          have hC := hC.trans hw (fun _ _ e => .inr e)
          refine WL_nil ⟨trivial, ?_⟩
          refine WD_done (by kernel_rfl) ?_
          refine GO ?_
          refine WL_inc vv (by omega) ?_
          refine GO ?_
          exact ⟨M.asks.length - (i + 1), by omega, i + 1, e4 + 4, v', wh4, rfl, hlt, ⟨rfl, rfl, rfl, rfl, rfl, rfl, rfl, trivial⟩, hm, h8, hR, hrd, by rw [List.take_succ_eq_append_getElem hlt]; exact hA, hC⟩
        · skip
          refine WL_fun rfl ((reader_two w0 _ g _ F e4 wh4 (M.asks[i].type : Int) (by omega) (by omega) hR hb4.left).mono ?_)
          rintro e wx ⟨rfl, hRx, hCx⟩
          refine ⟨_, rfl, ?_⟩
          have hm := hCx.kept hm hg5.symm
          have h8 := hCx.kept h8 hg8
          have hA := hA.wrote hCx (own_ne hA.acc.own hR.at_ (by decide))
          have hR := hRx
          have hC := hC.trans hCx (fun _ _ e => .inl e)
          clear hCx hRx
          refine WL_nil ⟨trivial, ?_⟩
          refine WD_two (c := 1) (c' := 7) (by kernel_rfl) rfl rfl ?_ ?_
          · skip
            refine WL_load vv hm rfl ?_
            refine WL_nil ⟨trivial, ?_⟩
            refine WD_one (c := 7) (by kernel_rfl) rfl ?_
            refine WL_fun rfl ((reader_two w0 _ g _ F (e4 + 2) wh4 (M.asks[i].cls : Int) (by omega) (by omega) hR hb4.right).mono ?_)
            rintro e wx ⟨rfl, hRx, hCx⟩
            refine ⟨_, rfl, ?_⟩
            have hm := hCx.kept hm hg5.symm
            have h8 := hCx.kept h8 hg8
            have hA := hA.wrote hCx (own_ne hA.acc.own hR.at_ (by decide))
            have hR := hRx
            have hC := hC.trans hCx (fun _ _ e => .inl e)
            clear hCx hRx
            refine WL_nil ⟨trivial, ?_⟩
            refine WD_one (c := 8) (by kernel_rfl) rfl ?_
            refine WL_build (vs := [(0, strOf M.asks[i].name), (1, .int .u16 (M.asks[i].type : Int)), (2, .int .u16 (M.asks[i].cls : Int))]) (l := askCells M.asks[i]) (EvL.eq ⟨rfl, vv, rfl, vv, rfl, vv, trivial⟩) ⟨⟨_, rfl⟩, ⟨_, rfl⟩, ⟨_, rfl⟩, trivial⟩ (by rfl) ?_
            refine WL_nil ⟨trivial, ?_⟩
            refine WD_one (c := 9) (by kernel_rfl) rfl ?_
            refine WL_slice (vs := [.agg (askCells M.asks[i]).toArray]) (EvL.eq ⟨rfl, vv, trivial⟩) (by simp) rfl (by simp [Value.cells, askCells]) rfl ?_
            intro b110 wx hb110 h110 gx
            have h110 : wx.heap[b110]? = some (.cells (askCells M.asks[i]).toArray 78 (0, 0)) := h110
            have hm := gx.kept hm
            have h8 := gx.kept h8
            have hA := hA.grow gx
            have hR := hR.grow gx
            have hC := hC.trans (Chg.of_below (S := fun j => j = g ∨ j = b5) gx) (fun _ _ e => e)
            clear gx
            refine WL_nil ⟨trivial, ?_⟩
            refine WD_one (c := 10) (by kernel_rfl) rfl ?_
            refine WL_append vv hA.acc.own vv (reads_new h110 (by simp [askCells])) (by simp [askCells, Value.oneCell']) ⟨by rw [List.length_take]; omega, by omega, by omega⟩ ?_
            intro v' wx hgr
            have hown := own_ne hA.acc.own hm (by decide)
            have hown8 := own_ne hA.acc.own h8 (by decide)
            have howng := own_ne hA.acc.own hR.at_ (by decide)
            have hbs := hA.acc.base
            obtain ⟨hA', hch⟩ := Grew.part hA hC.size rfl hgr
            have hm := hch.kept hm (fun e => hown e)
            have h8 := hch.kept h8 (fun e => hown8 e)
            have hR := hR.to2 hch (fun j hj => Nat.le_trans hw0n (hbs j hj)) (hch.kept hR.at_ (fun e => howng e)) hR.le
            have hC := hC.trans hch (fun j hj e => by have := hbs j e; omega)
            clear hA hch hgr
            have hA := hA'
            refine WL_nil ⟨trivial, ?_⟩
            refine WT 11 ?_
            refine WD_one (c := 12) (by kernel_rfl) rfl ?_
            obtain ⟨ao', cap', hv'⟩ := hA.reads.value
            have hmo := hm
            refine WL_store1 vv vv hm (by simp) (by rw [hv']; rfl) ?_
            intro wy hw hmx
            have hm : wy.heap[b5]? = some (.cells #[.int .u16 (h.id : Int), .bool h.qr, .int .u16 (h.op : Int), .bool h.aa, .bool h.tc, .bool h.rd, .bool h.ra, .bool h.ad, .bool h.cd, .int .u16 (h.code : Int), v', .slice none 0 0, .slice none 0 0, .slice none 0 0] 34 (0, 0)) := hmx
            have h8 := hw.kept h8 hb58.symm
            have hA := hA.wrote hw (own_ne hA.acc.own hmo (by decide))
            have hR := hR.to2 (S := (· = b5)) hw (fun k hk => by rw [hk]; exact hb5) (hw.kept hR.at_ hg5) hR.le
            have hC := hC.trans hw (fun _ _ e => .inr e)
            refine WL_nil ⟨trivial, ?_⟩
            refine WD_done (by kernel_rfl) ?_
            refine GO ?_
            refine WL_inc vv (by omega) ?_
            refine GO ?_
            exact ⟨M.asks.length - (i + 1), by omega, i + 1, e4 + 4, v', wh4, rfl, hlt, ⟨rfl, rfl, rfl, rfl, rfl, rfl, rfl, trivial⟩, hm, h8, hR, hrd, by rw [List.take_succ_eq_append_getElem hlt]; exact hA, hC⟩
          · skip
            refine WL_fun rfl ((reader_two w0 _ g _ F (e4 + 2) wh4 (M.asks[i].cls : Int) (by omega) (by omega) hR hb4.right).mono ?_)
            rintro e wx ⟨rfl, hRx, hCx⟩
            refine ⟨_, rfl, ?_⟩
            have hm := hCx.kept hm hg5.symm
            have h8 := hCx.kept h8 hg8
            have hA := hA.wrote hCx (own_ne hA.acc.own hR.at_ (by decide))
            have hR := hRx
            have hC := hC.trans hCx (fun _ _ e => .inl e)
            clear hCx hRx
            refine WL_nil ⟨trivial, ?_⟩
            refine WD_two (c := 1) (c' := 8) (by kernel_rfl) rfl rfl ?_ ?_
            · skip
              refine WL_load vv hm rfl ?_
              refine WL_nil ⟨trivial, ?_⟩
              refine WD_one (c := 8) (by kernel_rfl) rfl ?_
              refine WL_build (vs := [(0, strOf M.asks[i].name), (1, .int .u16 (M.asks[i].type : Int)), (2, .int .u16 (M.asks[i].cls : Int))]) (l := askCells M.asks[i]) (EvL.eq ⟨rfl, vv, rfl, vv, rfl, vv, trivial⟩) ⟨⟨_, rfl⟩, ⟨_, rfl⟩, ⟨_, rfl⟩, trivial⟩ (by rfl) ?_
              refine WL_nil ⟨trivial, ?_⟩
              refine WD_one (c := 9) (by kernel_rfl) rfl ?_
              refine WL_slice (vs := [.agg (askCells M.asks[i]).toArray]) (EvL.eq ⟨rfl, vv, trivial⟩) (by simp) rfl (by simp [Value.cells, askCells]) rfl ?_
              intro b110 wx hb110 h110 gx
              have h110 : wx.heap[b110]? = some (.cells (askCells M.asks[i]).toArray 78 (0, 0)) := h110
              have hm := gx.kept hm
              have h8 := gx.kept h8
              have hA := hA.grow gx
              have hR := hR.grow gx
              have hC := hC.trans (Chg.of_below (S := fun j => j = g ∨ j = b5) gx) (fun _ _ e => e)
              clear gx
              refine WL_nil ⟨trivial, ?_⟩
              refine WD_one (c := 10) (by kernel_rfl) rfl ?_
              refine WL_append vv hA.acc.own vv (reads_new h110 (by simp [askCells])) (by simp [askCells, Value.oneCell']) ⟨by rw [List.length_take]; omega, by omega, by omega⟩ ?_
              intro v' wx hgr
              have hown := own_ne hA.acc.own hm (by decide)
              have hown8 := own_ne hA.acc.own h8 (by decide)
              have howng := own_ne hA.acc.own hR.at_ (by decide)
              have hbs := hA.acc.base
              obtain ⟨hA', hch⟩ := Grew.part hA hC.size rfl hgr
              have hm := hch.kept hm (fun e => hown e)
              have h8 := hch.kept h8 (fun e => hown8 e)
              have hR := hR.to2 hch (fun j hj => Nat.le_trans hw0n (hbs j hj)) (hch.kept hR.at_ (fun e => howng e)) hR.le
              have hC := hC.trans hch (fun j hj e => by have := hbs j e; omega)
              clear hA hch hgr
              have hA := hA'
              refine WL_nil ⟨trivial, ?_⟩
              refine WT 11 ?_
              refine WD_one (c := 12) (by kernel_rfl) rfl ?_
              obtain ⟨ao', cap', hv'⟩ := hA.reads.value
              have hmo := hm
              refine WL_store1 vv vv hm (by simp) (by rw [hv']; rfl) ?_
              intro wy hw hmx
              have hm : wy.heap[b5]? = some (.cells #[.int .u16 (h.id : Int), .bool h.qr, .int .u16 (h.op : Int), .bool h.aa, .bool h.tc, .bool h.rd, .bool h.ra, .bool h.ad, .bool h.cd, .int .u16 (h.code : Int), v', .slice none 0 0, .slice none 0 0, .slice none 0 0] 34 (0, 0)) := hmx
              have h8 := hw.kept h8 hb58.symm
              have hA := hA.wrote hw (own_ne hA.acc.own hmo (by decide))
              have hR := hR.to2 (S := (· = b5)) hw (fun k hk => by rw [hk]; exact hb5) (hw.kept hR.at_ hg5) hR.le
              have hC := hC.trans hw (fun _ _ e => .inr e)
              refine WL_nil ⟨trivial, ?_⟩
              refine WD_done (by kernel_rfl) ?_
              refine GO ?_
              refine WL_inc vv (by omega) ?_
              refine GO ?_
              exact ⟨M.asks.length - (i + 1), by omega, i + 1, e4 + 4, v', wh4, rfl, hlt, ⟨rfl, rfl, rfl, rfl, rfl, rfl, rfl, trivial⟩, hm, h8, hR, hrd, by rw [List.take_succ_eq_append_getElem hlt]; exact hA, hC⟩
            · skip
              refine WL_build (vs := [(0, strOf M.asks[i].name), (1, .int .u16 (M.asks[i].type : Int)), (2, .int .u16 (M.asks[i].cls : Int))]) (l := askCells M.asks[i]) (EvL.eq ⟨rfl, vv, rfl, vv, rfl, vv, trivial⟩) ⟨⟨_, rfl⟩, ⟨_, rfl⟩, ⟨_, rfl⟩, trivial⟩ (by rfl) ?_
              refine WL_nil ⟨trivial, ?_⟩
              refine WD_two (c := 1) (c' := 9) (by kernel_rfl) rfl rfl ?_ ?_
              · skip
                refine WL_load vv hm rfl ?_
                refine WL_nil ⟨trivial, ?_⟩
                refine WD_one (c := 9) (by kernel_rfl) rfl ?_
                refine WL_slice (vs := [.agg (askCells M.asks[i]).toArray]) (EvL.eq ⟨rfl, vv, trivial⟩) (by simp) rfl (by simp [Value.cells, askCells]) rfl ?_
                intro b110 wx hb110 h110 gx
                have h110 : wx.heap[b110]? = some (.cells (askCells M.asks[i]).toArray 78 (0, 0)) := h110
                have hm := gx.kept hm
                have h8 := gx.kept h8
                have hA := hA.grow gx
                have hR := hR.grow gx
                have hC := hC.trans (Chg.of_below (S := fun j => j = g ∨ j = b5) gx) (fun _ _ e => e)
                clear gx
                refine WL_nil ⟨trivial, ?_⟩
                refine WD_one (c := 10) (by kernel_rfl) rfl ?_
                refine WL_append vv hA.acc.own vv (reads_new h110 (by simp [askCells])) (by simp [askCells, Value.oneCell']) ⟨by rw [List.length_take]; omega, by omega, by omega⟩ ?_
                intro v' wx hgr
                have hown := own_ne hA.acc.own hm (by decide)
                have hown8 := own_ne hA.acc.own h8 (by decide)
                have howng := own_ne hA.acc.own hR.at_ (by decide)
                have hbs := hA.acc.base
                obtain ⟨hA', hch⟩ := Grew.part hA hC.size rfl hgr
                have hm := hch.kept hm (fun e => hown e)
                have h8 := hch.kept h8 (fun e => hown8 e)
                have hR := hR.to2 hch (fun j hj => Nat.le_trans hw0n (hbs j hj)) (hch.kept hR.at_ (fun e => howng e)) hR.le
                have hC := hC.trans hch (fun j hj e => by have := hbs j e; omega)
                clear hA hch hgr
                have hA := hA'
                refine WL_nil ⟨trivial, ?_⟩
                refine WT 11 ?_
                refine WD_one (c := 12) (by kernel_rfl) rfl ?_
                obtain ⟨ao', cap', hv'⟩ := hA.reads.value
                have hmo := hm
                refine WL_store1 vv vv hm (by simp) (by rw [hv']; rfl) ?_
                intro wy hw hmx
                have hm : wy.heap[b5]? = some (.cells #[.int .u16 (h.id : Int), .bool h.qr, .int .u16 (h.op : Int), .bool h.aa, .bool h.tc, .bool h.rd, .bool h.ra, .bool h.ad, .bool h.cd, .int .u16 (h.code : Int), v', .slice none 0 0, .slice none 0 0, .slice none 0 0] 34 (0, 0)) := hmx
                have h8 := hw.kept h8 hb58.symm
                have hA := hA.wrote hw (own_ne hA.acc.own hmo (by decide))
                have hR := hR.to2 (S := (· = b5)) hw (fun k hk => by rw [hk]; exact hb5) (hw.kept hR.at_ hg5) hR.le
                have hC := hC.trans hw (fun _ _ e => .inr e)
                refine WL_nil ⟨trivial, ?_⟩
                refine WD_done (by kernel_rfl) ?_
                refine GO ?_
                refine WL_inc vv (by omega) ?_
                refine GO ?_
                exact ⟨M.asks.length - (i + 1), by omega, i + 1, e4 + 4, v', wh4, rfl, hlt, ⟨rfl, rfl, rfl, rfl, rfl, rfl, rfl, trivial⟩, hm, h8, hR, hrd, by rw [List.take_succ_eq_append_getElem hlt]; exact hA, hC⟩
              · skip
                refine WL_slice (vs := [.agg (askCells M.asks[i]).toArray]) (EvL.eq ⟨rfl, vv, trivial⟩) (by simp) rfl (by simp [Value.cells, askCells]) rfl ?_
                intro b110 wx hb110 h110 gx
                have h110 : wx.heap[b110]? = some (.cells (askCells M.asks[i]).toArray 78 (0, 0)) := h110
                have hm := gx.kept hm
                have h8 := gx.kept h8
                have hA := hA.grow gx
                have hR := hR.grow gx
                have hC := hC.trans (Chg.of_below (S := fun j => j = g ∨ j = b5) gx) (fun _ _ e => e)
                clear gx
                refine WL_nil ⟨trivial, ?_⟩
                refine WD_one (c := 1) (by kernel_rfl) rfl ?_
                refine WL_load vv hm rfl ?_
                refine WL_nil ⟨trivial, ?_⟩
                refine WD_one (c := 10) (by kernel_rfl) rfl ?_
                refine WL_append vv hA.acc.own vv (reads_new h110 (by simp [askCells])) (by simp [askCells, Value.oneCell']) ⟨by rw [List.length_take]; omega, by omega, by omega⟩ ?_
                intro v' wx hgr
                have hown := own_ne hA.acc.own hm (by decide)
                have hown8 := own_ne hA.acc.own h8 (by decide)
                have howng := own_ne hA.acc.own hR.at_ (by decide)
                have hbs := hA.acc.base
                obtain ⟨hA', hch⟩ := Grew.part hA hC.size rfl hgr
                have hm := hch.kept hm (fun e => hown e)
                have h8 := hch.kept h8 (fun e => hown8 e)
                have hR := hR.to2 hch (fun j hj => Nat.le_trans hw0n (hbs j hj)) (hch.kept hR.at_ (fun e => howng e)) hR.le
                have hC := hC.trans hch (fun j hj e => by have := hbs j e; omega)
                clear hA hch hgr
                have hA := hA'
                refine WL_nil ⟨trivial, ?_⟩
                refine WT 11 ?_
                refine WD_one (c := 12) (by kernel_rfl) rfl ?_
                obtain ⟨ao', cap', hv'⟩ := hA.reads.value
                have hmo := hm
                refine WL_store1 vv vv hm (by simp) (by rw [hv']; rfl) ?_
                intro wy hw hmx
                have hm : wy.heap[b5]? = some (.cells #[.int .u16 (h.id : Int), .bool h.qr, .int .u16 (h.op : Int), .bool h.aa, .bool h.tc, .bool h.rd, .bool h.ra, .bool h.ad, .bool h.cd, .int .u16 (h.code : Int), v', .slice none 0 0, .slice none 0 0, .slice none 0 0] 34 (0, 0)) := hmx
                have h8 := hw.kept h8 hb58.symm
                have hA := hA.wrote hw (own_ne hA.acc.own hmo (by decide))
                have hR := hR.to2 (S := (· = b5)) hw (fun k hk => by rw [hk]; exact hb5) (hw.kept hR.at_ hg5) hR.le
                have hC := hC.trans hw (fun _ _ e => .inr e)
                refine WL_nil ⟨trivial, ?_⟩
                refine WD_done (by kernel_rfl) ?_
                refine GO ?_
                refine WL_inc vv (by omega) ?_
                refine GO ?_
                exact ⟨M.asks.length - (i + 1), by omega, i + 1, e4 + 4, v', wh4, rfl, hlt, ⟨rfl, rfl, rfl, rfl, rfl, rfl, rfl, trivial⟩, hm, h8, hR, hrd, by rw [List.take_succ_eq_append_getElem hlt]; exact hA, hC⟩
    · have hge : i = M.asks.length := by omega
      subst hge
      rw [List.take_length] at hA
      rw [List.drop_length] at hrd
      obtain rfl : p1 = p' := hrd
      refine RUN ?_
      refine WL_index (i := 0) vv (by rfl) (by decide) ?_
      refine WL_load_cell vv (cell_at h8 rfl) ?_
      refine GO ?_
      rw [show decide ((M.asks.length : Int) < (M.asks.length : Int)) = false from decide_eq_false (by omega)]
      refine RUN ?_
      exact ⟨va, wh, ⟨rfl, rfl, rfl, rfl, rfl, rfl, trivial⟩, hm, h8, hR, hA, hC⟩
  clear hm hR hC h8
  rintro f2 w2 ⟨va, wh, he, hm, h8, hR, hA, hC⟩
  obtain ⟨f, rfl⟩ := he.form
  obtain ⟨aoa, capa, hva⟩ := hA.reads.value
  have hle3 := RdRecs.le hp4
  have hle2 := RdRecs.le hp3
  refine GO ?_
  refine WC_cut (fun f w' => ∃ (v1 v2 v3 : Value) (l1 l2 l3 : List (RecM × RecV)) (wh : Bool), EnvHas f [(0, .slice aos F.length caps), (2, .pointer (some ⟨b2, 0, none⟩)), (4, .pointer (some ⟨g, 0, none⟩)), (5, .pointer (some ⟨b5, 0, none⟩)), (6, .int .u16 h.bits)] ∧ w'.heap[b5]? = some (.cells #[.int .u16 (h.id : Int), .bool h.qr, .int .u16 (h.op : Int), .bool h.aa, .bool h.tc, .bool h.rd, .bool h.ra, .bool h.ad, .bool h.cd, .int .u16 (h.code : Int), va, v1, v2, v3] 34 (0, 0)) ∧ RdrAt w0 w' g (.slice aos F.length caps) F F.length wh ∧ LAcc wn.heap.size w' 78 askCells 3 va M.asks ∧ ReadRecs wn.heap.size w' k v1 l1 M.one ∧ ReadRecs wn.heap.size w' k v2 l2 M.two ∧ ReadRecs wn.heap.size w' k v3 l3 M.three ∧ Chg (fun j => j = g ∨ j = b5) wn w') ?_ ?_
  · refine WC_draws (fun w' => w'.heap[b8]? = some (.cells #[.int .i64 (M.asks.length : Int), .int .i64 (M.one.length : Int), .int .i64 (M.two.length : Int), .int .i64 (M.three.length : Int)] 3 (0, 0))) (by kernel_rfl) (fun w1 g => g.kept h8) ?_
    intro w3 g3 hS
    have hm := g3.kept hm
    have hR := hR.grow g3
    have hA := hA.grow g3
    have hC := hC.trans (Chg.of_below (S := fun j => j = g ∨ j = b5) g3) (fun _ _ e => e)
    have hz3 := hC.size
    refine WT 0 ?_
    refine WT 1 ?_
    refine WD_take (i := 2) rfl rfl rfl rfl (by kernel_rfl) (by assumption) (fun w' hS => by exact Y_index (i := 1) vv (by rfl) (by decide)) ?_
    refine WD_take (i := 3) rfl rfl rfl rfl (by kernel_rfl) (by assumption) (fun w' hS => by exact Y_load_cell vv (cell_at hS rfl)) ?_
    refine WT 5 ?_
    refine WT 6 ?_
    refine WD_take (i := 7) rfl rfl rfl rfl (by kernel_rfl) (by assumption) (fun w' hS => by exact Y_index (i := 2) vv (by rfl) (by decide)) ?_
    refine WD_take (i := 8) rfl rfl rfl rfl (by kernel_rfl) (by assumption) (fun w' hS => by exact Y_load_cell vv (cell_at hS rfl)) ?_
    refine WT 10 ?_
    refine WT 11 ?_
    refine WD_take (i := 12) rfl rfl rfl rfl (by kernel_rfl) (by assumption) (fun w' hS => by exact Y_index (i := 3) vv (by rfl) (by decide)) ?_
    refine WD_take (i := 13) rfl rfl rfl rfl (by kernel_rfl) (by assumption) (fun w' hS => by exact Y_load_cell vv (cell_at hS rfl)) ?_
    refine WD_one (c := 4) (by kernel_rfl) rfl ?_
    refine WL_fun rfl ((reader_records w0 w3 g _ F p1 p2 k wh M.one hk hB hR hp2 (by omega) h1 (by omega)).mono ?_)
    rintro e w4 ⟨wh4, v1, l1, rfl, hL1, hRx, hCx⟩
    refine ⟨_, rfl, ?_⟩
    have hS := hCx.kept hS hg8
    have hm := hCx.kept hm hg5.symm
    have hA := hA.wrote hCx (own_ne hA.acc.own hR.at_ (by decide))
    have hL1 := hL1.mono hz3
    have hR := hRx
    have hC := hC.trans hCx (fun _ _ e => .inl e)
    have hz3 := hC.size
    clear hCx hRx
    refine WL_nil ⟨hS, ?_⟩
    refine WD_one (c := 9) (by kernel_rfl) rfl ?_
    refine WL_fun rfl ((reader_records w0 w4 g _ F p2 p3 k wh4 M.two hk hB hR hp3 (by omega) h2 (by omega)).mono ?_)
    rintro e w5 ⟨wh5, v2, l2, rfl, hL2, hRx, hCx⟩
    refine ⟨_, rfl, ?_⟩
    have hS := hCx.kept hS hg8
    have hm := hCx.kept hm hg5.symm
    have hA := hA.wrote hCx (own_ne hA.acc.own hR.at_ (by decide))
    have hL1 := hL1.wrote hCx hR.at_ (by decide) (by decide)
    have hL2 := hL2.mono hz3
    have hR := hRx
    have hC := hC.trans hCx (fun _ _ e => .inl e)
    have hz3 := hC.size
    clear hCx hRx
    refine WL_nil ⟨hS, ?_⟩
    refine WD_one (c := 14) (by kernel_rfl) rfl ?_
    refine WL_fun rfl ((reader_records w0 w5 g _ F p3 F.length k wh5 M.three hk hB hR hp4 (Nat.le_refl _) h3 (by omega)).mono ?_)
    rintro e w6 ⟨wh6, v3, l3, rfl, hL3, hRx, hCx⟩
    refine ⟨_, rfl, ?_⟩
    have hS := hCx.kept hS hg8
    have hm := hCx.kept hm hg5.symm
    have hA := hA.wrote hCx (own_ne hA.acc.own hR.at_ (by decide))
    have hL1 := hL1.wrote hCx hR.at_ (by decide) (by decide)
    have hL2 := hL2.wrote hCx hR.at_ (by decide) (by decide)
    have hL3 := hL3.mono hz3
    have hR := hRx
    have hC := hC.trans hCx (fun _ _ e => .inl e)
    clear hCx hRx
    refine WL_nil ⟨hS, ?_⟩
    obtain ⟨ao1, cap1, hv1⟩ := hL1.acc.reads.value
    obtain ⟨ao2, cap2, hv2⟩ := hL2.acc.reads.value
    obtain ⟨ao3, cap3, hv3⟩ := hL3.acc.reads.value
    refine WT 15 ?_
    refine WD_one (c := 16) (by kernel_rfl) rfl ?_
    have hmo := hm
    refine WL_store1 vv vv hm (by simp) (by rw [hv1]; rfl) ?_
    intro wy0 hw hmx
    have hm : wy0.heap[b5]? = some (.cells #[.int .u16 (h.id : Int), .bool h.qr, .int .u16 (h.op : Int), .bool h.aa, .bool h.tc, .bool h.rd, .bool h.ra, .bool h.ad, .bool h.cd, .int .u16 (h.code : Int), va, v1, .slice none 0 0, .slice none 0 0] 34 (0, 0)) := hmx
    have hS := hw.kept hS (fun e => hb58 e.symm)
    have hR := hR.to2 (S := (· = b5)) hw (fun k hk => by rw [hk]; exact hb5) (hw.kept hR.at_ hg5) hR.le
    have hA := hA.wrote hw (own_ne hA.acc.own hmo (by decide))
    have hL1 := hL1.wrote hw hmo (by decide) (by decide)
    have hL2 := hL2.wrote hw hmo (by decide) (by decide)
    have hL3 := hL3.wrote hw hmo (by decide) (by decide)
    have hC := hC.trans hw (fun _ _ e => .inr e)
    clear hw hmx hmo
    refine WL_nil ⟨hS, ?_⟩
    refine WT 17 ?_
    refine WD_one (c := 18) (by kernel_rfl) rfl ?_
    have hmo := hm
    refine WL_store1 vv vv hm (by simp) (by rw [hv2]; rfl) ?_
    intro wy1 hw hmx
    have hm : wy1.heap[b5]? = some (.cells #[.int .u16 (h.id : Int), .bool h.qr, .int .u16 (h.op : Int), .bool h.aa, .bool h.tc, .bool h.rd, .bool h.ra, .bool h.ad, .bool h.cd, .int .u16 (h.code : Int), va, v1, v2, .slice none 0 0] 34 (0, 0)) := hmx
    have hS := hw.kept hS (fun e => hb58 e.symm)
    have hR := hR.to2 (S := (· = b5)) hw (fun k hk => by rw [hk]; exact hb5) (hw.kept hR.at_ hg5) hR.le
    have hA := hA.wrote hw (own_ne hA.acc.own hmo (by decide))
    have hL1 := hL1.wrote hw hmo (by decide) (by decide)
    have hL2 := hL2.wrote hw hmo (by decide) (by decide)
    have hL3 := hL3.wrote hw hmo (by decide) (by decide)
    have hC := hC.trans hw (fun _ _ e => .inr e)
    clear hw hmx hmo
    refine WL_nil ⟨hS, ?_⟩
    refine WT 19 ?_
    refine WD_one (c := 20) (by kernel_rfl) rfl ?_
    have hmo := hm
    refine WL_store1 vv vv hm (by simp) (by rw [hv3]; rfl) ?_
    intro wy2 hw hmx
    have hm : wy2.heap[b5]? = some (.cells #[.int .u16 (h.id : Int), .bool h.qr, .int .u16 (h.op : Int), .bool h.aa, .bool h.tc, .bool h.rd, .bool h.ra, .bool h.ad, .bool h.cd, .int .u16 (h.code : Int), va, v1, v2, v3] 34 (0, 0)) := hmx
    have hS := hw.kept hS (fun e => hb58 e.symm)
    have hR := hR.to2 (S := (· = b5)) hw (fun k hk => by rw [hk]; exact hb5) (hw.kept hR.at_ hg5) hR.le
    have hA := hA.wrote hw (own_ne hA.acc.own hmo (by decide))
    have hL1 := hL1.wrote hw hmo (by decide) (by decide)
    have hL2 := hL2.wrote hw hmo (by decide) (by decide)
    have hL3 := hL3.wrote hw hmo (by decide) (by decide)
    have hC := hC.trans hw (fun _ _ e => .inr e)
    clear hw hmx hmo
    refine WL_nil ⟨hS, ?_⟩
    refine WD_done (by kernel_rfl) ?_
    exact then_norm ⟨v1, v2, v3, l1, l2, l3, wh6, ⟨rfl, rfl, rfl, rfl, rfl, trivial⟩, hm, hR, hA, hL1, hL2, hL3, hC⟩
  clear hm hR hC hA h8
  rintro f2 w7 ⟨v1, v2, v3, l1, l2, l3, wh, he, hm, hR, hA, hL1, hL2, hL3, hC⟩
  obtain ⟨f, rfl⟩ := he.form
  have hat := hR.at_
  have h2c := hC.kept hz2n (fun e => by rcases e with e | e; (exact hb2g e); (exact hb25 e))
  refine GO ?_
  refine WC_seq (WC_draws (fun w' => w'.heap[b5]? = some (.cells #[.int .u16 (h.id : Int), .bool h.qr, .int .u16 (h.op : Int), .bool h.aa, .bool h.tc, .bool h.rd, .bool h.ra, .bool h.ad, .bool h.cd, .int .u16 (h.code : Int), va, v1, v2, v3] 34 (0, 0)) ∧ w'.heap[g]? = some (.cells #[.slice aos F.length caps, .int .i64 (F.length : Int), .bool false, .bool wh] 134 (0, 0))) (by kernel_rfl) (fun w1 g => ⟨g.kept hm, g.kept hat⟩) ?_)
  intro w8 g8 hS
  refine WD_take (i := 0) rfl rfl rfl rfl (by kernel_rfl) (by assumption) (fun w' hS => by exact Y_loadRow vv hS.1 rfl) ?_
  refine WT 1 ?_
  refine WT 2 ?_
  refine WT 3 ?_
  refine WT 4 ?_
  refine WT 5 ?_
  refine WT 6 ?_
  refine WD_takeG (i := 7) (c := true) rfl rfl rfl rfl (by rfl) rfl rfl (by kernel_rfl) (by assumption) (fun _ w' hS => by first | exact Y_move vv | exact Y_assign vv | exact Y_nilCheck vv | exact Y_field vv | exact Y_load vv (by first | assumption | exact hS | exact hS.1 | exact hS.2 | exact hS.2.1 | exact hS.2.2) (by rfl) | exact Y_extract vv (by rfl) | exact Y_len vv | exact Y_lss vv vv | exact Y_leq vv vv | exact Y_gtr vv vv | exact Y_geq vv vv | exact Y_eql vv vv | exact Y_neq vv vv | exact Y_pick vv vv vv | exact Y_not vv) (fun h => absurd rfl h) ?_
  refine WD_takeG (i := 8) (c := true) rfl rfl rfl rfl (by rfl) rfl rfl (by kernel_rfl) (by assumption) (fun _ w' hS => by first | exact Y_move vv | exact Y_assign vv | exact Y_nilCheck vv | exact Y_field vv | exact Y_load vv (by first | assumption | exact hS | exact hS.1 | exact hS.2 | exact hS.2.1 | exact hS.2.2) (by rfl) | exact Y_extract vv (by rfl) | exact Y_len vv | exact Y_lss vv vv | exact Y_leq vv vv | exact Y_gtr vv vv | exact Y_geq vv vv | exact Y_eql vv vv | exact Y_neq vv vv | exact Y_pick vv vv vv | exact Y_not vv) (fun h => absurd rfl h) ?_
  refine WD_takeG (i := 9) (c := true) rfl rfl rfl rfl (by rfl) rfl rfl (by kernel_rfl) (by assumption) (fun _ w' hS => by first | exact Y_move vv | exact Y_assign vv | exact Y_nilCheck vv | exact Y_field vv | exact Y_load vv (by first | assumption | exact hS | exact hS.1 | exact hS.2 | exact hS.2.1 | exact hS.2.2) (by rfl) | exact Y_extract vv (by rfl) | exact Y_len vv | exact Y_lss vv vv | exact Y_leq vv vv | exact Y_gtr vv vv | exact Y_geq vv vv | exact Y_eql vv vv | exact Y_neq vv vv | exact Y_pick vv vv vv | exact Y_not vv) (fun h => absurd rfl h) ?_
  refine WD_takeG (i := 10) (c := true) rfl rfl rfl rfl (by rfl) rfl rfl (by kernel_rfl) (by assumption) (fun _ w' hS => by first | exact Y_move vv | exact Y_assign vv | exact Y_nilCheck vv | exact Y_field vv | exact Y_load vv (by first | assumption | exact hS | exact hS.1 | exact hS.2 | exact hS.2.1 | exact hS.2.2) (by rfl) | exact Y_extract vv (by rfl) | exact Y_len vv | exact Y_lss vv vv | exact Y_leq vv vv | exact Y_gtr vv vv | exact Y_geq vv vv | exact Y_eql vv vv | exact Y_neq vv vv | exact Y_pick vv vv vv | exact Y_not vv) (fun h => absurd rfl h) ?_
  refine WD_takeG (i := 11) (c := true) rfl rfl rfl rfl (by rfl) rfl rfl (by kernel_rfl) (by assumption) (fun _ w' hS => by first | exact Y_move vv | exact Y_assign vv | exact Y_nilCheck vv | exact Y_field vv | exact Y_load vv (by first | assumption | exact hS | exact hS.1 | exact hS.2 | exact hS.2.1 | exact hS.2.2) (by rfl) | exact Y_extract vv (by rfl) | exact Y_len vv | exact Y_lss vv vv | exact Y_leq vv vv | exact Y_gtr vv vv | exact Y_geq vv vv | exact Y_eql vv vv | exact Y_neq vv vv | exact Y_pick vv vv vv | exact Y_not vv) (fun h => absurd rfl h) ?_
  refine WD_takeG (i := 12) (c := true) rfl rfl rfl rfl (by rfl) rfl rfl (by kernel_rfl) (by assumption) (fun _ w' hS => by first | exact Y_move vv | exact Y_assign vv | exact Y_nilCheck vv | exact Y_field vv | exact Y_load vv (by first | assumption | exact hS | exact hS.1 | exact hS.2 | exact hS.2.1 | exact hS.2.2) (by rfl) | exact Y_extract vv (by rfl) | exact Y_len vv | exact Y_lss vv vv | exact Y_leq vv vv | exact Y_gtr vv vv | exact Y_geq vv vv | exact Y_eql vv vv | exact Y_neq vv vv | exact Y_pick vv vv vv | exact Y_not vv) (fun h => absurd rfl h) ?_
  refine WD_takeG (i := 13) (c := true) rfl rfl rfl rfl (by rfl) rfl rfl (by kernel_rfl) (by assumption) (fun _ w' hS => by first | exact Y_move vv | exact Y_assign vv | exact Y_nilCheck vv | exact Y_field vv | exact Y_load vv (by first | assumption | exact hS | exact hS.1 | exact hS.2 | exact hS.2.1 | exact hS.2.2) (by rfl) | exact Y_extract vv (by rfl) | exact Y_len vv | exact Y_lss vv vv | exact Y_leq vv vv | exact Y_gtr vv vv | exact Y_geq vv vv | exact Y_eql vv vv | exact Y_neq vv vv | exact Y_pick vv vv vv | exact Y_not vv) (fun h => absurd rfl h) ?_
  rw [show ((F.length : Int) == (F.length : Int)) = true by simp]
  refine WT 14 ?_
  refine WT 15 ?_
  refine WD_takeG (i := 16) (c := true) rfl rfl rfl rfl (by rfl) rfl rfl (by kernel_rfl) (by assumption) (fun _ w' hS => by first | exact Y_move vv | exact Y_assign vv | exact Y_nilCheck vv | exact Y_field vv | exact Y_load vv (by first | assumption | exact hS | exact hS.1 | exact hS.2 | exact hS.2.1 | exact hS.2.2) (by rfl) | exact Y_extract vv (by rfl) | exact Y_len vv | exact Y_lss vv vv | exact Y_leq vv vv | exact Y_gtr vv vv | exact Y_geq vv vv | exact Y_eql vv vv | exact Y_neq vv vv | exact Y_pick vv vv vv | exact Y_not vv) (fun h => absurd rfl h) ?_
  refine WD_takeG (i := 17) (c := true) rfl rfl rfl rfl (by rfl) rfl rfl (by kernel_rfl) (by assumption) (fun _ w' hS => by exact Y_and (c := 0) vv vv hf.z) (fun h => absurd rfl h) ?_
  refine WD_takeG (i := 18) (c := true) rfl rfl rfl rfl (by rfl) rfl rfl (by kernel_rfl) (by assumption) (fun _ w' hS => by first | exact Y_move vv | exact Y_assign vv | exact Y_nilCheck vv | exact Y_field vv | exact Y_load vv (by first | assumption | exact hS | exact hS.1 | exact hS.2 | exact hS.2.1 | exact hS.2.2) (by rfl) | exact Y_extract vv (by rfl) | exact Y_len vv | exact Y_lss vv vv | exact Y_leq vv vv | exact Y_gtr vv vv | exact Y_geq vv vv | exact Y_eql vv vv | exact Y_neq vv vv | exact Y_pick vv vv vv | exact Y_not vv) (fun h => absurd rfl h) ?_
  refine WT 19 ?_
  refine WD_one (c := 20) (by kernel_rfl) rfl ?_
  have hm8 := g8.kept hm
  refine WL_storeRow (new := #[.int .u16 (h.id : Int), .bool h.qr, .int .u16 (h.op : Int), .bool h.aa, .bool h.tc, .bool h.rd, .bool h.ra, .bool h.ad, .bool h.cd, .int .u16 (h.code : Int), va, v1, v2, v3]) vv vv (g8.kept h2c) rfl rfl (by
    obtain ⟨ao1, cap1, hv1⟩ := hL1.acc.reads.value
    obtain ⟨ao2, cap2, hv2⟩ := hL2.acc.reads.value
    obtain ⟨ao3, cap3, hv3⟩ := hL3.acc.reads.value
    rw [hva, hv1, hv2, hv3]
    simp [Value.oneCell']) ?_
  intro w9 hw9 h9
  have hS := And.intro (hw9.kept hS.1 (fun e => hb25 e.symm)) (hw9.kept hS.2 (fun e => hb2g e.symm))
  refine WL_nil ⟨hS, ?_⟩
  refine WD_one (c := 21) (by kernel_rfl) rfl ?_
  refine WL_assign vv (WL_nil ⟨hS, ?_⟩)
  refine WD_done (by kernel_rfl) ?_
  refine GO ?_
  have h2c8 := g8.kept h2c
  have hG7 : Grows w0 w7 := Below.trans hRn.grows (hC.below hRn.grows.size (fun k hk => by rcases hk with e | e; (rw [e]; exact hgz); (rw [e]; exact hb5)))
  have hG : Grows w0 w9 := (hG7.trans g8).wrote hw9 hb2
  exact retc2 (v := .bool true) Tryd.results41 rfl h9 Tryd.underlying34 rfl (by kernel_rfl) (by rfl) ⟨_, rfl, ⟨va, v1, v2, v3, l1, l2, l3, by rw [hh]; rfl, ((hA.grow g8).wrote hw9 (own_ne (hA.grow g8).acc.own h2c8 (by decide))).mono hw0n, ((hL1.grow g8).wrote hw9 h2c8 (by decide) (by decide)).mono hw0n, ((hL2.grow g8).wrote hw9 h2c8 (by decide) (by decide)).mono hw0n, ((hL3.grow g8).wrote hw9 h2c8 (by decide) (by decide)).mono hw0n⟩, hG⟩
end Go.Proofs.YtfoinoegabcigaaDoor
