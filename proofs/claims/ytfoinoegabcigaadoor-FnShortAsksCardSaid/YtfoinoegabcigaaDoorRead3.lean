/- The reference's reader: names. -/
import Derived.Test.YtfoinoegabcigaaDoorRead2
set_option linter.unusedVariables false
set_option linter.unusedSimpArgs false
namespace Go.Proofs.YtfoinoegabcigaaDoor
open Go.RowKit
set_option maxHeartbeats 4000000
set_option maxRecDepth 100000

theorem bits_or_i64_nat (a b : Nat) (ha : a < 9223372036854775808) (hb : b < 9223372036854775808) : bits .or .i64 (a : Int) (b : Int) = ((a ||| b : Nat) : Int) := by
  have hx : a ||| b < 2 ^ 63 := Nat.or_lt_two_pow (by omega) (by omega)
  have h1 : (BitVec.ofInt 64 (a : Int)).toNat = a := by
    rw [BitVec.ofInt_natCast, BitVec.toNat_ofNat]; exact Nat.mod_eq_of_lt (by omega)
  have h2 : (BitVec.ofInt 64 (b : Int)).toNat = b := by
    rw [BitVec.ofInt_natCast, BitVec.toNat_ofNat]; exact Nat.mod_eq_of_lt (by omega)
  show IntKind.i64.wrap ((BitVec.ofInt 64 (a : Int) ||| BitVec.ofInt 64 (b : Int)).toNat : Int) = _
  rw [BitVec.toNat_or, h1, h2, IntWalk.i64_in _ (by omega)]
theorem bytes_append (a b : Bytes) : (⟨a.toArray⟩ : ByteArray) ++ ⟨b.toArray⟩ = ⟨(a ++ b).toArray⟩ := by
  apply ByteArray.ext
  rw [ByteArray.data_append]
  simp
section
variable {n : Nat} {P : Program} {f : Env} {w : World} {d : Option Nat} {ty : TypeId} {pos : String} {af : Array Edge} {gd : Option (Nat × Bool)}
theorem Y_addS {t u : TypeId} {x y : Operand} {a b : Bytes} (hx : ev f x = strOf a) (hy : ev f y = strOf b) (hl : a.length + b.length ≤ 1000000000000000000) : (execOp (ev f) ⟨d, .binOp .add t x y u, ty, pos, af, gd⟩).run P w = .ok (.value (strOf (a ++ b))) w := by
  have h1 : ¬ ((((⟨a.toArray⟩ : ByteArray).size + (⟨b.toArray⟩ : ByteArray).size : Nat) : Int) > IntKind.i64.max) := by
    have e1 : (⟨a.toArray⟩ : ByteArray).size = a.length := by simp [ByteArray.size]
    have e2 : (⟨b.toArray⟩ : ByteArray).size = b.length := by simp [ByteArray.size]
    have e3 : IntKind.i64.max = 9223372036854775807 := by decide
    rw [e1, e2, e3]
    omega
  simp only [execOp, hx, hy, eqGuard, binOp, Op.stringOp, strOf, if_neg h1, bytes_append]
  rfl
end
theorem spec_dotted (w : World) (v : Value) (bs : Bytes) (h : BytesAt w v bs) (hn : (46 : UInt8) ∉ bs) (hl : bs.length ≤ 1000) : Calls Tryd.prog 72 #[v] w fun e w' => e = .returned (.bool false) ∧ w = w' := by
  obtain ⟨ao, cap, rfl⟩ := ReadsAt.value h
  refine calls_of_WC Tryd.func72 rfl Tryd.ntmps72 rfl ?_
  refine GO ?_
  refine WC_loop (fun m f w' => ∃ (i : Nat), m = bs.length - i ∧ i ≤ bs.length ∧ EnvHas f [(5, .slice ao bs.length cap), (6, .int .i64 (bs.length : Int)), (7, .int .i64 (i : Int))] ∧ w = w') bs.length ?_ ?_
  · exact ⟨0, rfl, Nat.zero_le _, ⟨rfl, rfl, rfl, trivial⟩, rfl⟩
  rintro m f' w2 ⟨i, rfl, hi, he, rfl⟩
  obtain ⟨f, rfl⟩ := he.form
  refine GO ?_
  first | refine WC_sif vv (fun hc => ?_) (fun hc => ?_) | refine WC_if vv (fun hc => ?_) (fun hc => ?_)
  · have hlt : i < bs.length := by simpa using hc
    refine GO ?_
    obtain ⟨b, o, cap', hv, _⟩ := ReadsAt.form h (by rw [bv_length]; omega)
    cases hv
    refine WL_index vv vv hlt ?_
    refine WL_load_cell vv (rd_cell h (j := i) (x := bs[i]) (by simp [hlt])) ?_
    refine GO ?_
    have hne : ((bs[i].toNat : Int) == 46) = false := by
      refine beq_eq_false_iff_ne.2 fun e => hn ?_
      have : bs[i] = 46 := by
        apply UInt8.toNat_inj.1
        have e' : (bs[i].toNat : Int) = ((46 : Nat) : Int) := e
        exact Int.ofNat.inj e'
      rw [← this]
      simp
    rw [hne]
    refine RUN ?_
    refine WL_inc vv (by omega) ?_
    refine GO ?_
    exact ⟨bs.length - (i + 1), by omega, i + 1, rfl, hlt, ⟨rfl, rfl, rfl, trivial⟩, rfl⟩
  · refine GO ?_
    exact ret1 (v := .bool false) Tryd.results72 rfl ⟨rfl, rfl⟩
theorem Rd.acc_le {F : Bytes} {n p start : Nat} {acc : Bytes} {j : Bool} {res : Bytes} {e : Nat} (h : Rd F n p start acc j res e) : acc.length ≤ res.length := by
  induction h with
  | zero h1 h2 => split <;> simp_all
  | label lab h1 h2 h3 h4 h5 _ ih => simp at ih; omega
  | ptr q h1 h2 h3 h4 h5 h6 _ ih => exact ih
theorem Rd.at_ {F : Bytes} {n p start : Nat} {acc : Bytes} {j : Bool} {res : Bytes} {e : Nat} (h : Rd F n p start acc j res e) : ∃ x, F[p]? = some x := by
  cases h with
  | zero h1 _ => exact ⟨_, h1⟩
  | label lab h1 _ _ _ _ _ => exact ⟨_, h1⟩
  | ptr q h1 _ _ _ _ _ _ => exact ⟨_, h1⟩
theorem u8_eq {x y : UInt8} {F : Bytes} {p : Nat} (h1 : F[p]? = some x) (h2 : F[p]? = some y) : x = y := Option.some.inj (h1.symm.trans h2)
end Go.Proofs.YtfoinoegabcigaaDoor
