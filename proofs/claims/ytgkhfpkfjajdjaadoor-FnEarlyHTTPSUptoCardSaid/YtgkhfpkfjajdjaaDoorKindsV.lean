/- SVCB and HTTPS records as the program packs them: it asks of the keys behind the first that they are not zero, not that they ascend. -/
import Derived.Test.YtgkhfpkfjajdjaaDoorG1
import Derived.Test.YtgkhfpkfjajdjaaDoorPairs
set_option linter.unusedVariables false
set_option linter.unusedSimpArgs false
namespace Go.Proofs.YtgkhfpkfjajdjaaDoor
open Go.RowKit
set_option maxRecDepth 100000

def svcbOrd (ps : List PairM) : Bool := ps.tail.all fun p => decide (0 < p.key)
def svcbBodyV (r : RecM) (pos : Nat) (c : Option CMap) : PR := match packW (r.host.take 255) (pos + 2) c with
  | .bad c => .bad c
  | .ok o c => if (svcbOrd r.pairs && r.pairs.all fun p => decide (p.data.length ≤ 65535)) = true then .ok (two (low r.n1) ++ o ++ pairsB r.pairs) c else .bad c
def kSVCBv : KindM := ⟨fun _ => 64, svcbBodyV⟩
def kHTTPSv : KindM := ⟨fun _ => 65, svcbBodyV⟩
theorem svcbOrd_iff (ps : List PairM) : svcbOrd ps = true ↔ ∀ (j : Nat) (h : j < ps.length), 0 < j → 0 < ps[j].key := by
  unfold svcbOrd
  rw [List.all_eq_true]
  cases ps with
  | nil => simp
  | cons p ps =>
    constructor
    · intro h j hj h0
      obtain ⟨j, rfl⟩ : ∃ i, j = i + 1 := ⟨j - 1, by omega⟩
      have hjl : j < ps.length := by simpa using hj
      have := of_decide_eq_true (h ps[j] (List.getElem_mem hjl))
      rw [List.getElem_cons_succ]
      exact this
    · intro h q hq
      obtain ⟨j, hj⟩ := List.mem_iff_getElem?.1 hq
      have hl := (List.getElem?_eq_some_iff.1 hj).1
      have e := (List.getElem?_eq_some_iff.1 hj).2
      have := h (j + 1) (by simp at hl ⊢; omega) (by omega)
      rw [List.getElem_cons_succ] at this
      simp only [List.tail_cons] at e
      rw [e] at this
      exact decide_eq_true this
theorem svcbOrd_of {ps : List PairM} (h : ascends ps = true) : svcbOrd ps = true :=
  (svcbOrd_iff ps).2 fun j hj h0 => by
    obtain ⟨j, rfl⟩ : ∃ i, j = i + 1 := ⟨j - 1, by omega⟩
    have := (ascends_iff ps).1 h j hj
    omega
theorem svcbv_body {k : Nat} (hk : k = 11 ∨ k = 12) {r : RecM} (h : recOk k r = true) (pos : Nat) (c : Option CMap) : svcbBodyV r pos c = .ok (body k r) c := by
  have hh : nameOk r.host = true := by rcases hk with rfl | rfl <;> simpa [hostOk] using (recOk_parts h).2.1
  have hb : body k r = two (low r.n1) ++ wire r.host ++ pairsB r.pairs := by rcases hk with rfl | rfl <;> rfl
  have hl := (recOk_parts h).2.2.1
  rw [hb] at hl
  have hs := pairs_small r.pairs (by simp at hl; omega)
  unfold svcbBodyV
  rw [take255 hh, packW_wire hh]
  simp only [svcbOrd_of ((recOk_parts h).2.2.2.2 hk), hs, Bool.and_self, if_true, hb]
theorem okSVCBv : KindOk kSVCBv 11 := ⟨fun _ => rfl, fun _ h pos => svcbv_body (.inl rfl) h pos none, fun _ h pos m => ⟨_, _, svcbv_body (.inl rfl) h pos (some m), Nat.le_refl _, Ext.refl _⟩⟩
theorem okHTTPSv : KindOk kHTTPSv 12 := ⟨fun _ => rfl, fun _ h pos => svcbv_body (.inr rfl) h pos none, fun _ h pos m => ⟨_, _, svcbv_body (.inr rfl) h pos (some m), Nat.le_refl _, Ext.refl _⟩⟩
theorem badSVCBv {r : RecM} (hn : nameOk r.name = true) (h : longLabel r.host = true) : RecBad kSVCBv r :=
  recBad_body hn fun pos => by
    show svcbBodyV _ _ _ = _
    unfold svcbBodyV packW
    rw [long255 h, packN_long h]
/-- without a map the place does not matter -/
theorem scan_place (p q : Nat) : ∀ (rest part out : Bytes), scan p rest part out none = scan q rest part out none
  | [], _, _ => rfl
  | b :: rest, part, out => by
    unfold scan
    simp only [scan_place p q rest]
theorem packN_place (nm : Bytes) (p q : Nat) : packN nm p none = packN nm q none := by
  unfold packN
  rw [scan_place p q]
theorem packWv_comp (nm : Bytes) (pos : Nat) (c : Option CMap) : (packW nm pos c).comp = c := by
  unfold packW
  cases packN nm pos none <;> rfl
theorem packWv_ok {nm o : Bytes} {pos : Nat} {c c' : Option CMap} (h : packW nm pos c = .ok o c') : ∃ c1, packN nm pos none = .ok o c1 := by
  unfold packW at h
  cases e : packN nm pos none with
  | bad _ => rw [e] at h; cases h
  | ok o' c1 => rw [e] at h; cases h; exact ⟨c1, rfl⟩
theorem svcbV_len {r : RecM} {pos : Nat} {c c' : Option CMap} {o : Bytes} (e : svcbBodyV r pos c = .ok o c') : o.length ≤ 700 + (pairsB r.pairs).length := by
  unfold svcbBodyV at e
  cases hp : packW (r.host.take 255) (pos + 2) c with
  | bad c1 => rw [hp] at e; cases e
  | ok o1 c1 =>
    rw [hp] at e
    simp only at e
    split at e
    · obtain ⟨c2, hp2⟩ := packWv_ok hp
      have hl := packN_length _ _ _ _ _ hp2
      simp only [PR.ok.injEq] at e
      rw [← e.1]
      simp only [List.length_append, two_length]
      omega
    · cases e
theorem svcbV_comp (r : RecM) (pos : Nat) (c : Option CMap) (h : CompOk c) : CompOk (svcbBodyV r pos c).comp := by
  unfold svcbBodyV
  have hp := packWv_comp (r.host.take 255) (pos + 2) c
  cases e : packW (r.host.take 255) (pos + 2) c with
  | bad c1 => rw [e] at hp; have hp : c1 = c := hp; rw [hp]; exact h
  | ok o c1 =>
    rw [e] at hp
    have hp : c1 = c := hp
    subst hp
    simp only
    split <;> exact h
end Go.Proofs.YtgkhfpkfjajdjaaDoor
