/- Pairs of the call's own: a row of keys and bytes, each with bytes of its own; what a packing leaves of them. -/
import Derived.Test.YtgkhfpkfjajdjaaDoorPackB
import Derived.Test.YtgkhfpkfjajdjaaDoorPairs
import Derived.Test.YtgkhfpkfjajdjaaDoorG4
import Derived.Test.YtgkhfpkfjajdjaaDoorRes2
set_option linter.unusedVariables false
set_option linter.unusedSimpArgs false
namespace Go.Proofs.YtgkhfpkfjajdjaaDoor
open Go.RowKit
set_option maxHeartbeats 2000000
set_option maxRecDepth 100000

theorem own_pk {w w1 : World} {mv cv mv1 : Value} {msg msg1 : Bytes} {c1 c : Option CMap} (h : Pk w mv cv msg w1 mv1 msg1 c1) (hc : CompAt w cv c) {e size n : Nat} {v : Value} {xs : List Value} (ho : w.ownsRow 0 e size v n xs) (he : e ≠ 5) : w1.ownsRow 0 e size v n xs := by
  refine ⟨ho.1, ?_⟩
  rcases ho.2 with h0 | ⟨g, cap, cur, rfl, hb, hg, hr⟩
  · exact .inl h0
  · exact .inr ⟨g, cap, cur, rfl, hb, h.kept hc hg he, hr⟩
theorem own_away {B : Nat} {w w' : World} {e size n : Nat} {v : Value} {xs : List Value} (h : Acc B w e size v n xs) {S : Nat → Prop} (hc : Chg S w w') (hS : ∀ k, S k → k < B) : w'.ownsRow 0 e size v n xs :=
  (Acc.bkept h fun j o hj hb => hc.kept hj fun hs => by have := h.base j hb; have := hS j hs; omega).own
/-- a row of another type that grows leaves it alone -/
theorem Acc.kept_t {B : Nat} {w w' : World} {e size n : Nat} {v : Value} {xs : List Value} (h : Acc B w e size v n xs) {v2 : Value} {e2 size2 n2 : Nat} {xs2 : List Value} (ho : w.ownsRow 0 e2 size2 v2 n2 xs2) (he : e ≠ e2) (hk : ∀ j o, w.heap[j]? = some o → v2.ownBlock ≠ some j → w'.heap[j]? = some o) : Acc B w' e size v n xs := by
  refine ⟨⟨h.own.1, ?_⟩, h.base⟩
  rcases h.own.2 with h0 | ⟨g, cap, cur, rfl, hb, hg, hr⟩
  · exact .inl h0
  · exact .inr ⟨g, cap, cur, rfl, hb, hk g _ hg (own_ne ho hg he), hr⟩
/-- pairs that the call has made -/
structure OwnPairs (B : Nat) (w : World) (e : TypeId) (v : Value) (l : List (PairM × Value)) : Prop where
  acc : LAcc B w e pairCells 2 v l
  data : ∀ x ∈ l, AccB B w x.2 x.1.data
theorem OwnPairs.grow {B : Nat} {w w' : World} {e : TypeId} {v : Value} {l : List (PairM × Value)} (h : OwnPairs B w e v l) (hg : Grows w w') : OwnPairs B w' e v l := ⟨h.acc.grow hg, fun x hx => (h.data x hx).grow hg⟩
theorem OwnPairs.mono {B B' : Nat} {w : World} {e : TypeId} {v : Value} {l : List (PairM × Value)} (h : OwnPairs B w e v l) (hB : B' ≤ B) : OwnPairs B' w e v l := ⟨h.acc.mono hB, fun x hx => Acc.mono (h.data x hx) hB⟩
theorem OwnPairs.wrote {B : Nat} {w w' : World} {e : TypeId} {v : Value} {l : List (PairM × Value)} (h : OwnPairs B w e v l) {b : Nat} {cs : Array Value} {t : TypeId} {fr : Nat × Nat} (hb : w.heap[b]? = some (.cells cs t fr)) (h1 : t ≠ e) (h2 : t ≠ 5) (hw : Wrote b w w') : OwnPairs B w' e v l :=
  ⟨h.acc.wrote hw (own_ne h.acc.acc.own hb h1), fun x hx => Acc.wrote (h.data x hx) hw (own_ne (h.data x hx).own hb h2)⟩
/-- what the pack of a body asks of them: their bytes lie beside those that grow -/
def PairsIn (e : TypeId) (pv : Value) (l : List (PairM × Value)) (w : World) (mv : Value) : Prop := w.ownsRow 0 e 2 pv l.length (l.flatMap pairCells) ∧ ∀ x ∈ l, w.ownsRow 0 5 1 x.2 x.1.data.length (bv x.1.data) ∧ ∀ k, x.2.ownBlock = some k → mv.ownBlock ≠ some k
theorem PairsIn.pk {e : TypeId} {pv : Value} {l : List (PairM × Value)} {w w1 : World} {mv cv mv1 : Value} {msg msg1 : Bytes} {c1 c : Option CMap} (h : PairsIn e pv l w mv) (he : e ≠ 5) (P : Pk w mv cv msg w1 mv1 msg1 c1) (hc : CompAt w cv c) : w1.ownsRow 0 e 2 pv l.length (l.flatMap pairCells) ∧ ∀ x ∈ l, BytesAt w1 x.2 x.1.data := by
  refine ⟨own_pk P hc h.1 he, fun x hx => ?_⟩
  obtain ⟨ho, hne⟩ := h.2 x hx
  refine ReadsAt.of_own (base := 0) (e := 5) ⟨ho.1, ?_⟩
  rcases ho.2 with h0 | ⟨g, cap, cur, e0, hb, hg, hr⟩
  · exact .inl h0
  · refine .inr ⟨g, cap, cur, e0, hb, P.chg.kept hg ?_, hr⟩
    rintro (e1 | e1)
    · exact hne g (by rw [e0]; rfl) e1
    · exact hc.ne hg e1
theorem OwnPairs.pairsIn {B : Nat} {w w' : World} {e : TypeId} {pv : Value} {l : List (PairM × Value)} (h : OwnPairs B w e pv l) {mv mv' : Value} {S : Nat → Prop} (hc : Chg S w w') (hS : ∀ k, S k → k < B) (hm : ∀ k, mv.ownBlock = some k → k < B) (ha : AtOld w mv mv') : PairsIn e pv l w' mv' := by
  refine ⟨own_away h.acc.acc hc hS, fun x hx => ⟨own_away (h.data x hx) hc hS, fun k hk e1 => ?_⟩⟩
  have hb := (h.data x hx).base k hk
  rcases ha with ha | ⟨j, hj, ha⟩
  · rw [ha] at e1
    have := hm k e1
    omega
  · rw [ha] at e1
    simp only [Option.some.injEq] at e1
    rcases (h.data x hx).own.2 with ⟨e2, _⟩ | ⟨g, cap, cur, e2, _, hg, _⟩
    · rw [e2] at hk
      simp [Value.ownBlock] at hk
    · rw [e2] at hk
      simp only [Value.ownBlock, Option.some.injEq] at hk
      have := (Array.getElem?_eq_some_iff.1 hg).1
      omega
end Go.Proofs.YtgkhfpkfjajdjaaDoor
