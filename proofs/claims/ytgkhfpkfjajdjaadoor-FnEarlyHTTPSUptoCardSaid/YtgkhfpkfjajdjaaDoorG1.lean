/- Messages as plain data: how the Builder packs them and how the reference writes them. No program is in sight. -/
set_option linter.unusedVariables false
set_option linter.unusedSimpArgs false
namespace Go.Proofs.YtgkhfpkfjajdjaaDoor

abbrev Bytes := List UInt8
/-- numbers as bytes, the high byte first -/
def two (n : Int) : Bytes := [UInt8.ofNat (n / 256).toNat, UInt8.ofNat (n % 256).toNat]
def four (n : Int) : Bytes := two (n / 65536) ++ two (n % 65536)
theorem two_length (k : Int) : (two k).length = 2 := rfl
theorem four_length (k : Int) : (four k).length = 4 := rfl
/-- bytes put in the place of others -/
def put (bs : Bytes) (o : Nat) (cs : Bytes) : Bytes := bs.take o ++ cs ++ bs.drop (o + cs.length)
theorem put_length (bs : Bytes) (o : Nat) (cs : Bytes) (h : o + cs.length ≤ bs.length) : (put bs o cs).length = bs.length := by
  simp only [put, List.length_append, List.length_take, List.length_drop]
  omega
theorem put_put (bs : Bytes) (o : Nat) (cs ds : Bytes) (h : o + cs.length + ds.length ≤ bs.length) : put (put bs o cs) (o + cs.length) ds = put bs o (cs ++ ds) := by
  unfold put
  have e1 : (bs.take o ++ cs ++ bs.drop (o + cs.length)).take (o + cs.length) = bs.take o ++ cs := by
    have : (bs.take o ++ cs).length = o + cs.length := by simp only [List.length_append, List.length_take]; omega
    rw [← this]
    exact List.take_left
  have e2 : (bs.take o ++ cs ++ bs.drop (o + cs.length)).drop (o + cs.length + ds.length) = bs.drop (o + cs.length + ds.length) := by
    have hl : (bs.take o ++ cs).length = o + cs.length := by simp only [List.length_append, List.length_take]; omega
    rw [List.drop_append, hl, List.drop_of_length_le (by rw [hl]; omega), List.drop_drop]
    simp only [List.nil_append]
    congr 1
    omega
  rw [e1, e2]
  simp only [List.append_assoc, List.length_append, Nat.add_assoc]
theorem put_mid (a b c d : Bytes) (h : b.length = d.length) : put (a ++ b ++ c) a.length d = a ++ d ++ c := by
  unfold put
  have e1 : (a ++ b ++ c).take a.length = a := by rw [List.append_assoc]; exact List.take_left
  have e2 : (a ++ b ++ c).drop (a.length + d.length) = c := by
    have : a.length + d.length = (a ++ b).length := by rw [List.length_append, h]
    rw [this]
    exact List.drop_left
  rw [e1, e2]
def hdr (id bits q an ns ar : Int) : Bytes := two id ++ two bits ++ two q ++ two an ++ two ns ++ two ar
theorem hdr_length (id bits q an ns ar : Int) : (hdr id bits q an ns ar).length = 12 := rfl

/-! names and places where they stand -/
abbrev CMap := List (Bytes × Nat)
def lookC (m : CMap) (k : Bytes) : Option Nat := (m.find? (·.1 == k)).map (·.2)
inductive PR where
  | ok (out : Bytes) (c : Option CMap)
  | bad (c : Option CMap)
def PR.comp : PR → Option CMap
  | .ok _ c => c
  | .bad c => c
def ptrB (p : Nat) : Bytes := [UInt8.ofNat (192 + p / 256), UInt8.ofNat (p % 256)]
/-- the bytes of a name from a place on: 'part' of a label is behind us, 'out' is written -/
def scan (pos : Nat) : (rest part out : Bytes) → Option CMap → PR
  | [], _, out, c => .ok (out ++ [0]) c
  | b :: rest, part, out, c =>
    if b = 46 then
      if 64 ≤ part.length then .bad c
      else if part.length = 0 then .bad c
      else scan pos rest [] (out ++ UInt8.ofNat part.length :: part) c
    else if part.length = 0 then
      match c with
      | none => scan pos rest [b] out none
      | some m => match lookC m (b :: rest) with
        | some p => .ok (out ++ ptrB p) (some m)
        | none => if pos + out.length ≤ 16383 then scan pos rest [b] out (some (m ++ [(b :: rest, pos + out.length)])) else scan pos rest [b] out (some m)
    else scan pos rest (part ++ [b]) out c
def packN (nm : Bytes) (pos : Nat) (c : Option CMap) : PR :=
  if 254 < nm.length then .bad c
  else if nm.getLast? ≠ some 46 then .bad c
  else if nm = [46] then .ok [0] c
  else scan pos nm [] [] c

/-! what is given -/
structure AskM where
  name : Bytes
  type : Nat
  cls : Nat
structure PairM where
  key : Nat
  data : Bytes
structure RecM where
  name : Bytes
  type : Nat
  cls : Nat
  ttl : Nat
  len : Nat
  kind : Int
  data : Bytes
  host : Bytes
  box : Bytes
  n1 : Nat
  n2 : Nat
  n3 : Nat
  n4 : Nat
  n5 : Nat
  texts : List Bytes
  pairs : List PairM
structure StepM where
  act : Int
  ask : AskM
  rec_ : RecM
structure HeadM where
  id : Nat
  qr : Bool
  op : Nat
  aa : Bool
  tc : Bool
  rd : Bool
  ra : Bool
  ad : Bool
  cd : Bool
  code : Nat

/-! the Builder -/
structure MSt where
  out : Bytes
  sec : Nat
  q : Nat
  an : Nat
  ns : Nat
  ar : Nat
  comp : Option CMap
inductive Flt where
  | none
  | early
  | done
  | other
  deriving DecidableEq
def Flt.code : Flt → Int → Prop
  | .none, f => f = 0
  | .early, f => f = 1
  | .done, f => f = 2
  | .other, f => f ≠ 0
/-- a section begins -/
def MSt.start (m : MSt) (k : Nat) : Flt × MSt := if k < m.sec then (.done, m) else (.none, { m with sec := k })
def MSt.count (m : MSt) : Nat := if m.sec = 2 then m.q else if m.sec = 3 then m.an else if m.sec = 4 then m.ns else m.ar
def MSt.counted (m : MSt) : MSt := if m.sec = 2 then { m with q := m.q + 1 } else if m.sec = 3 then { m with an := m.an + 1 } else if m.sec = 4 then { m with ns := m.ns + 1 } else { m with ar := m.ar + 1 }
def MSt.ask (m : MSt) (a : AskM) : Flt × MSt :=
  if m.sec < 2 then (.early, m) else if 2 < m.sec then (.done, m) else
  match packN (a.name.take 255) m.out.length m.comp with
  | .bad c => (.other, { m with comp := c })
  | .ok o c => if m.count = 65535 then (.other, { m with comp := c }) else (.none, { ({ m with comp := c } : MSt).counted with out := m.out ++ o ++ two a.type ++ two a.cls })
/-- what a kind of records writes: its type, and its body at a place -/
structure KindM where
  type : RecM → Nat
  body : RecM → Nat → Option CMap → PR
def MSt.rec_ (k : KindM) (m : MSt) (r : RecM) : Flt × MSt :=
  if m.sec < 3 then (.early, m) else if 5 < m.sec then (.done, m) else
  match packN (r.name.take 255) m.out.length m.comp with
  | .bad c => (.other, { m with comp := c })
  | .ok o c =>
    match k.body r (m.out.length + o.length + 10) c with
    | .bad c => (.other, { m with comp := c })
    | .ok b c => if 65535 < b.length then (.other, { m with comp := c }) else if m.count = 65535 then (.other, { m with comp := c }) else
      (.none, { ({ m with comp := c } : MSt).counted with out := m.out ++ o ++ two (k.type r) ++ two r.cls ++ four r.ttl ++ two b.length ++ b })
def MSt.step (k : KindM) (m : MSt) (s : StepM) : Flt × MSt :=
  if s.act = 1 then (.none, { m with comp := some [] })
  else if s.act = 2 then m.start 2
  else if s.act = 3 then m.start 3
  else if s.act = 4 then m.start 4
  else if s.act = 5 then m.start 5
  else if s.act = 6 then m.ask s.ask
  else if s.act = 7 then m.rec_ k s.rec_
  else (.none, m)
def MSt.steps (k : KindM) : MSt → List StepM → List Flt × MSt
  | m, [] => ([], m)
  | m, s :: ss => let x := m.step k s; let y := MSt.steps k x.2 ss; (x.1 :: y.1, y.2)
def zeros12 : Bytes := [0, 0, 0, 0, 0, 0, 0, 0, 0, 0, 0, 0]
def MSt.first : MSt := ⟨zeros12, 1, 0, 0, 0, 0, none⟩
/-- the bits of a header as one number -/
def bi (b : Bool) : Int := if b then 1 else 0
def HeadM.bits (h : HeadM) : Int :=
  h.op * 2048 + h.code + bi h.ra * 128 + bi h.rd * 256 + bi h.tc * 512 + bi h.aa * 1024 + bi h.qr * 32768 + bi h.ad * 32 + bi h.cd * 16
def MSt.final (m : MSt) (h : HeadM) : Bytes := put m.out 0 (hdr h.id h.bits m.q m.an m.ns m.ar)

/-! the reference -/
def okLoop : Bytes → Nat → Option Nat
  | [], n => some n
  | b :: r, n => if b ≠ 46 then okLoop r (n + 1) else if n = 0 ∨ 63 < n then none else okLoop r 0
def nameOk (s : Bytes) : Bool := s == [46] || (okLoop s 0 == some 0 && decide (1 < s.length) && decide (s.length ≤ 254))
def longLoop : Bytes → Nat → Bool → Nat × Bool
  | [], n, l => (n, l)
  | b :: r, n, l => if b = 46 then longLoop r 0 l else longLoop r (n + 1) (l || decide (63 < n + 1))
def longLabel (s : Bytes) : Bool := (longLoop s 0 false).2 && decide ((longLoop s 0 false).1 = 0) && decide (s.length ≤ 254)
def wireLoop : Bytes → (out label : Bytes) → Bytes
  | [], out, _ => out ++ [0]
  | b :: r, out, label => if b ≠ 46 then wireLoop r out (label ++ [b]) else wireLoop r (if 0 < label.length then out ++ UInt8.ofNat label.length :: label else out) []
def wire (s : Bytes) : Bytes := wireLoop s [] []
def headWire (h : HeadM) (q an ns ar : Nat) : Bytes := hdr h.id h.bits ((q % 65536 : Nat) : Int) ((an % 65536 : Nat) : Int) ((ns % 65536 : Nat) : Int) ((ar % 65536 : Nat) : Int)
def askWire (a : AskM) : Bytes := wire a.name ++ two a.type ++ two a.cls
def pairB (p : PairM) : Bytes := two p.key ++ two ((p.data.length % 65536 : Nat) : Int) ++ p.data
def pairsB (ps : List PairM) : Bytes := ps.flatMap pairB
def textB (s : Bytes) : Bytes := UInt8.ofNat s.length :: s
def fixedB (d : Bytes) (n : Nat) : Bytes := d.take n ++ List.replicate (n - d.length) 0
def low (n : Nat) : Int := ((n % 65536 : Nat) : Int)
def body (k : Nat) (r : RecM) : Bytes :=
  if k = 1 then fixedB r.data 4
  else if k = 8 then fixedB r.data 16
  else if k = 2 ∨ k = 3 ∨ k = 5 then wire r.host
  else if k = 6 then two (low r.n1) ++ wire r.host
  else if k = 4 then wire r.host ++ wire r.box ++ four r.n1 ++ four r.n2 ++ four r.n3 ++ four r.n4 ++ four r.n5
  else if k = 7 then r.texts.flatMap textB
  else if k = 9 then two (low r.n1) ++ two (low r.n2) ++ two (low r.n3) ++ wire r.host
  else if k = 10 then pairsB r.pairs
  else if k = 11 ∨ k = 12 then two (low r.n1) ++ wire r.host ++ pairsB r.pairs
  else r.data
def typesL : List Nat := [0, 1, 2, 5, 6, 12, 15, 16, 28, 33, 41, 64, 65, 0]
def typeOf (k : Nat) (r : RecM) : Nat := if k = 13 then r.type else typesL.getD k 0
def hostOk (k : Nat) (r : RecM) : Bool :=
  if k = 2 ∨ k = 3 ∨ k = 5 ∨ k = 6 ∨ k = 9 ∨ k = 11 ∨ k = 12 then nameOk r.host
  else if k = 4 then nameOk r.host && nameOk r.box
  else true
def ascends : List PairM → Bool
  | [] => true
  | [_] => true
  | p :: q :: ps => decide (p.key < q.key) && ascends (q :: ps)
def bodyOk (k : Nat) (r : RecM) : Bool :=
  (decide (k ≠ 7) || (r.texts.all fun s => decide (s.length ≤ 255)) && !r.texts.isEmpty) && (decide (k ≠ 11 ∧ k ≠ 12) || ascends r.pairs) && hostOk k r && decide ((body k r).length < 65536)
def recWire (k : Nat) (r : RecM) : Bytes := wire r.name ++ two (typeOf k r) ++ two r.cls ++ four r.ttl ++ two (low (body k r).length) ++ body k r
def recOk (k : Nat) (r : RecM) : Bool := nameOk r.name && bodyOk k r
def sumB (k : Nat) (rs : List RecM) : Nat := (rs.map fun r => (body k r).length).sum
structure MsgM where
  head : HeadM
  asks : List AskM
  one : List RecM
  two : List RecM
  three : List RecM
def headOk (h : HeadM) : Bool := decide (h.op < 16) && decide (h.code < 16)
def msgOk (k : Nat) (m : MsgM) : Bool :=
  (m.asks.all fun a => nameOk a.name) && (m.one ++ m.two ++ m.three).all (recOk k) && headOk m.head && decide (m.asks.length < 60000) && decide (m.one.length < 60000) && decide (m.two.length < 60000) && decide (m.three.length < 60000) &&
    decide (sumB k (m.one ++ m.two ++ m.three) < 16777216)
def msgWire (k : Nat) (m : MsgM) : Bytes :=
  headWire m.head m.asks.length m.one.length m.two.length m.three.length ++ m.asks.flatMap askWire ++ (m.one ++ m.two ++ m.three).flatMap (recWire k)

/-! names, packed without a map, are written as the reference writes them -/
theorem scan_wire (pos : Nat) : ∀ (rest part out : Bytes), okLoop rest part.length = some 0 → scan pos rest part out none = .ok (wireLoop rest out part) none
  | [], part, out, h => rfl
  | b :: r, part, out, h => by
    unfold okLoop at h
    unfold scan wireLoop
    by_cases hb : b = 46
    · subst hb
      simp only [ne_eq, not_true_eq_false, if_false] at h
      split at h
      · cases h
      · rename_i h1
        simp only [if_true, ne_eq, not_true_eq_false, if_false]
        rw [if_neg (by omega), if_neg (by omega), if_pos (by omega)]
        exact scan_wire pos r [] _ h
    · rw [if_pos hb] at h
      simp only [hb, if_false, ne_eq, not_false_eq_true, if_true]
      have h' : okLoop r (part ++ [b]).length = some 0 := by simpa using h
      split
      · rename_i h0
        have : part = [] := List.eq_nil_of_length_eq_zero h0
        subst this
        exact scan_wire pos r [b] out h'
      · exact scan_wire pos r _ out h'
theorem okLoop_last : ∀ (s : Bytes) (n : Nat), okLoop s n = some 0 → s ≠ [] → s.getLast? = some 46
  | [], _, _, h => absurd rfl h
  | [b], n, h, _ => by
    unfold okLoop at h
    by_cases hb : b = 46
    · subst hb; rfl
    · rw [if_pos hb] at h
      unfold okLoop at h
      cases h
  | b :: c :: r, n, h, _ => by
    rw [List.getLast?_cons_cons]
    unfold okLoop at h
    split at h
    · exact okLoop_last (c :: r) _ h (by simp)
    · split at h
      · cases h
      · exact okLoop_last (c :: r) _ h (by simp)
theorem wire_dot : wire [46] = [0] := rfl
theorem nameOk_len {s : Bytes} (h : nameOk s = true) : s.length ≤ 254 ∧ 0 < s.length := by
  unfold nameOk at h
  simp only [Bool.or_eq_true, beq_iff_eq, Bool.and_eq_true, decide_eq_true_eq] at h
  rcases h with rfl | ⟨⟨_, h1⟩, h2⟩
  · simp
  · omega
theorem packN_wire {s : Bytes} (h : nameOk s = true) (pos : Nat) : packN s pos none = .ok (wire s) none := by
  have hl := nameOk_len h
  unfold nameOk at h
  simp only [Bool.or_eq_true, beq_iff_eq, Bool.and_eq_true, decide_eq_true_eq] at h
  unfold packN
  rw [if_neg (by omega)]
  rcases h with rfl | ⟨⟨h0, h1⟩, h2⟩
  · rfl
  · rw [if_neg (by simp [okLoop_last s 0 h0 (by intro e; simp [e] at h1)])]
    rw [if_neg (by intro e; simp [e] at h1)]
    exact scan_wire pos s [] [] h0
theorem take255 {s : Bytes} (h : nameOk s = true) : s.take 255 = s := List.take_of_length_le (by have := nameOk_len h; omega)
end Go.Proofs.YtgkhfpkfjajdjaaDoor

/- What the Builder packs is what the reference writes: laws on plain data. No program is in sight. -/
namespace Go.Proofs.YtgkhfpkfjajdjaaDoor

def CompOk (c : Option CMap) : Prop := ∀ m, c = some m → ∀ x ∈ m, x.2 ≤ 16383
theorem CompOk.none : CompOk none := fun _ h => by cases h
theorem CompOk.push {m : CMap} (h : CompOk (some m)) (k : Bytes) (p : Nat) (hp : p ≤ 16383) : CompOk (some (m ++ [(k, p)])) := by
  intro m' hm x hx
  cases hm
  simp only [List.mem_append, List.mem_singleton] at hx
  rcases hx with hx | rfl
  · exact h m rfl x hx
  · exact hp
theorem look_le {m : CMap} {k : Bytes} {p : Nat} (h : CompOk (some m)) (hl : lookC m k = some p) : p ≤ 16383 := by
  unfold lookC at hl
  cases hf : m.find? (·.1 == k) with
  | none => rw [hf] at hl; cases hl
  | some x =>
    rw [hf] at hl
    cases hl
    exact h m rfl x (List.mem_of_find?_eq_some hf)
theorem scan_comp (pos : Nat) : ∀ (rest part out : Bytes) (c : Option CMap), CompOk c → CompOk (scan pos rest part out c).comp
  | [], _, _, _, h => h
  | b :: rest, part, out, c, h => by
    unfold scan
    split
    · split
      · exact h
      · split
        · exact h
        · exact scan_comp pos rest _ _ c h
    · split
      · split
        · exact scan_comp pos rest _ _ none h
        · split
          · exact h
          · split
            · exact scan_comp pos rest _ _ _ (h.push _ _ (by assumption))
            · exact scan_comp pos rest _ _ _ h
      · exact scan_comp pos rest _ _ c h
theorem packN_comp (nm : Bytes) (pos : Nat) (c : Option CMap) (h : CompOk c) : CompOk (packN nm pos c).comp := by
  unfold packN
  split
  · exact h
  · split
    · exact h
    · split
      · exact h
      · exact scan_comp pos _ _ _ _ h
/-- what is written grows at most by two bytes a byte, and one -/
theorem scan_length (pos : Nat) : ∀ (rest part out : Bytes) (c : Option CMap) (o : Bytes) (c' : Option CMap), scan pos rest part out c = .ok o c' → o.length ≤ out.length + part.length + 2 * rest.length + 1
  | [], part, out, c, o, c', h => by
    unfold scan at h
    cases h
    simp
  | b :: rest, part, out, c, o, c', h => by
    unfold scan at h
    simp only [List.length_cons]
    split at h
    · split at h
      · cases h
      · split at h
        · cases h
        · have := scan_length pos rest _ _ _ _ _ h
          simp at this
          omega
    · split at h
      · split at h
        · have := scan_length pos rest _ _ _ _ _ h
          simp at this; omega
        · split at h
          · cases h
            simp [ptrB] <;> omega
          · split at h
            · have := scan_length pos rest _ _ _ _ _ h
              simp at this; omega
            · have := scan_length pos rest _ _ _ _ _ h
              simp at this; omega
      · have := scan_length pos rest _ _ _ _ _ h
        simp at this; omega
theorem packN_length (nm : Bytes) (pos : Nat) (c : Option CMap) (o : Bytes) (c' : Option CMap) (h : packN nm pos c = .ok o c') : o.length ≤ 509 := by
  unfold packN at h
  split at h
  · cases h
  · split at h
    · cases h
    · split at h
      · cases h; simp
      · have := scan_length pos nm [] [] c o c' h
        simp at this; omega


/-! names with a map -/
def Ext : Option CMap → Option CMap → Prop
  | none, c => c = none
  | some m, c => ∃ x, c = some (m ++ x)
theorem Ext.refl : ∀ c, Ext c c
  | none => rfl
  | some m => ⟨[], by simp⟩
theorem Ext.trans : ∀ {a b c}, Ext a b → Ext b c → Ext a c
  | none, _, _, h, h2 => by cases h; exact h2
  | some m, _, _, ⟨x, h⟩, h2 => by
    subst h
    obtain ⟨y, rfl⟩ := h2
    exact ⟨x ++ y, by simp⟩
theorem wireLoop_length : ∀ (rest out part : Bytes), okLoop rest part.length = some 0 → (wireLoop rest out part).length = out.length + part.length + rest.length + 1
  | [], out, part, h => by
    unfold okLoop at h
    cases h' : part with
    | nil => simp [wireLoop]
    | cons _ _ => simp [h'] at h
  | b :: r, out, part, h => by
    unfold okLoop at h
    unfold wireLoop
    by_cases hb : b = 46
    · subst hb
      simp only [ne_eq, not_true_eq_false, if_false] at h ⊢
      split at h
      · cases h
      · rw [if_pos (by omega), wireLoop_length r _ [] h]
        simp; omega
    · rw [if_pos hb] at h ⊢
      rw [wireLoop_length r out (part ++ [b]) (by simpa using h)]
      simp; omega
theorem scan_okC (pos : Nat) : ∀ (rest part out : Bytes) (c : Option CMap), okLoop rest part.length = some 0 →
    ∃ o c', scan pos rest part out c = .ok o c' ∧ o.length ≤ out.length + part.length + rest.length + 1 ∧ Ext c c'
  | [], part, out, c, h => ⟨_, _, rfl, by simp, Ext.refl c⟩
  | b :: r, part, out, c, h => by
    unfold okLoop at h
    unfold scan
    by_cases hb : b = 46
    · subst hb
      simp only [ne_eq, not_true_eq_false, if_false] at h
      split at h
      · cases h
      · rw [if_pos rfl, if_neg (by omega), if_neg (by omega)]
        obtain ⟨o, c', h1, h2, h3⟩ := scan_okC pos r [] (out ++ UInt8.ofNat part.length :: part) c h
        refine ⟨o, c', h1, ?_, h3⟩
        simp at h2 ⊢ <;> omega
    · rw [if_pos hb] at h
      rw [if_neg hb]
      split
      · rename_i h0
        have hp : part = [] := List.eq_nil_of_length_eq_zero h0
        subst hp
        have h' : okLoop r [b].length = some 0 := by simpa using h
        cases c with
        | none =>
          obtain ⟨o, c', h1, h2, h3⟩ := scan_okC pos r [b] out none h'
          refine ⟨o, c', h1, ?_, h3⟩
          simp at h2 ⊢ <;> omega
        | some m =>
          simp only
          split
          · refine ⟨_, _, rfl, ?_, Ext.refl _⟩
            have : 0 < r.length := by
              cases r with
              | nil => simp [okLoop] at h
              | cons _ _ => simp
            simp [ptrB] <;> omega
          · split
            · obtain ⟨o, c', h1, h2, h3⟩ := scan_okC pos r [b] out (some (m ++ [(b :: r, pos + out.length)])) h'
              refine ⟨o, c', h1, ?_, Ext.trans ⟨_, rfl⟩ h3⟩
              simp at h2 ⊢ <;> omega
            · obtain ⟨o, c', h1, h2, h3⟩ := scan_okC pos r [b] out (some m) h'
              refine ⟨o, c', h1, ?_, h3⟩
              simp at h2 ⊢ <;> omega
      · obtain ⟨o, c', h1, h2, h3⟩ := scan_okC pos r (part ++ [b]) out c (by simpa using h)
        refine ⟨o, c', h1, ?_, h3⟩
        simp at h2 ⊢ <;> omega
theorem nameOk_cases {s : Bytes} (h : nameOk s = true) : s = [46] ∨ (okLoop s 0 = some 0 ∧ 1 < s.length ∧ s.length ≤ 254) := by
  unfold nameOk at h
  simp only [Bool.or_eq_true, beq_iff_eq, Bool.and_eq_true, decide_eq_true_eq] at h
  rcases h with rfl | ⟨⟨h0, h1⟩, h2⟩
  · exact .inl rfl
  · exact .inr ⟨h0, h1, h2⟩
theorem packN_scan {s : Bytes} (h0 : okLoop s 0 = some 0) (h1 : 1 < s.length) (h2 : s.length ≤ 254) (pos : Nat) (c : Option CMap) : packN s pos c = scan pos s [] [] c := by
  unfold packN
  rw [if_neg (by omega), if_neg (by simp [okLoop_last s 0 h0 (by intro e; simp [e] at h1)]), if_neg (by intro e; simp [e] at h1)]
theorem wire_length {s : Bytes} (h : nameOk s = true) : (wire s).length ≤ s.length + 1 ∧ (1 < s.length → (wire s).length = s.length + 1) := by
  rcases nameOk_cases h with rfl | ⟨h0, h1, h2⟩
  · exact ⟨by decide, by simp⟩
  · have := wireLoop_length s [] [] h0
    unfold wire
    rw [this]
    simp
theorem packN_okC {s : Bytes} (h : nameOk s = true) (pos : Nat) (c : Option CMap) : ∃ o c', packN s pos c = .ok o c' ∧ o.length ≤ (wire s).length ∧ Ext c c' := by
  have hw := wire_length h
  rcases nameOk_cases h with rfl | ⟨h0, h1, h2⟩
  · exact ⟨[0], c, rfl, by decide, Ext.refl c⟩
  · rw [packN_scan h0 h1 h2]
    obtain ⟨o, c', e1, e2, e3⟩ := scan_okC pos s [] [] c h0
    refine ⟨o, c', e1, ?_, e3⟩
    rw [hw.2 h1]
    simpa using e2
theorem longLoop_bad (pos : Nat) : ∀ (rest part out : Bytes) (l : Bool), (longLoop rest part.length l).1 = 0 → (longLoop rest part.length l).2 = true → part.length ≤ 63 ∨ l = true → (l = true → 63 < part.length) →
    ∃ c', scan pos rest part out none = .bad c'
  | [], part, out, l, h1, h2, h3, h4 => by
    simp [longLoop] at h1 h2
    have := h4 h2
    simp [h1] at this
  | b :: r, part, out, l, h1, h2, h3, h4 => by
    unfold longLoop at h1 h2
    unfold scan
    by_cases hb : b = 46
    · subst hb
      simp only [if_true] at h1 h2
      rw [if_pos rfl]
      split
      · exact ⟨_, rfl⟩
      · rename_i hlt
        split
        · exact ⟨_, rfl⟩
        · have hl : l = false := by
            cases l with
            | false => rfl
            | true => have := h4 rfl; omega
          subst hl
          exact longLoop_bad pos r [] _ false h1 h2 (.inl (by simp)) (by simp)
    · simp only [hb, if_false] at h1 h2
      rw [if_neg hb]
      have hrec : ∃ c', scan pos r (part ++ [b]) out none = .bad c' := by
        have hlen : (part ++ [b]).length = part.length + 1 := by simp
        refine longLoop_bad pos r (part ++ [b]) out (l || decide (63 < part.length + 1)) (by rw [hlen]; exact h1) (by rw [hlen]; exact h2) ?_ ?_
        · rw [hlen]
          rcases h3 with h3 | h3
          · by_cases h63 : 63 < part.length + 1
            · right; simp [h63]
            · left; omega
          · right; simp [h3]
        · intro hl
          rw [hlen]
          simp only [Bool.or_eq_true, decide_eq_true_eq] at hl
          rcases hl with hl | hl
          · have := h4 hl; omega
          · exact hl
      split
      · rename_i h0
        have hp : part = [] := List.eq_nil_of_length_eq_zero h0
        subst hp
        exact hrec
      · exact hrec
theorem longLabel_len {s : Bytes} (h : longLabel s = true) : s.length ≤ 254 := by
  unfold longLabel at h
  simp only [Bool.and_eq_true, decide_eq_true_eq] at h
  exact h.2
theorem scan_none (pos : Nat) : ∀ (rest part out : Bytes), (scan pos rest part out none).comp = none
  | [], _, _ => rfl
  | b :: rest, part, out => by
    unfold scan
    split
    · split
      · rfl
      · split
        · rfl
        · exact scan_none pos rest _ _
    · split
      · exact scan_none pos rest _ _
      · exact scan_none pos rest _ _
theorem packN_none (nm : Bytes) (pos : Nat) : (packN nm pos none).comp = none := by
  unfold packN
  split
  · rfl
  · split
    · rfl
    · split
      · rfl
      · exact scan_none pos _ _ _
/-- a name with a long label is refused -/
theorem packN_long {s : Bytes} (h : longLabel s = true) (pos : Nat) : packN s pos none = .bad none := by
  have key : ∃ c', packN s pos none = .bad c' := by
    unfold longLabel at h
    simp only [Bool.and_eq_true, decide_eq_true_eq] at h
    unfold packN
    rw [if_neg (by omega)]
    split
    · exact ⟨_, rfl⟩
    · split
      · rename_i hd
        subst hd
        exact absurd h.1.1 (by decide)
      · exact longLoop_bad pos s [] [] false h.1.2 h.1.1 (.inl (by simp)) (by simp)
  obtain ⟨c', hc⟩ := key
  have := packN_none s pos
  rw [hc] at this
  simp only [PR.comp] at this
  rw [hc, this]

/-! the Builder's steps -/
structure KindOk (K : KindM) (k : Nat) : Prop where
  type : ∀ r, K.type r = typeOf k r
  plain : ∀ r, recOk k r = true → ∀ pos, K.body r pos none = .ok (body k r) none
  short : ∀ r, recOk k r = true → ∀ pos m, ∃ b c', K.body r pos (some m) = .ok b c' ∧ b.length ≤ (body k r).length ∧ Ext (some m) c'
def ask0 : AskM := ⟨[], 0, 0⟩
def rec0 : RecM := ⟨[], 0, 0, 0, 0, 0, [], [], [], 0, 0, 0, 0, 0, [], []⟩
def stepR (r : RecM) : StepM := ⟨7, ask0, r⟩
def stepA (a : AskM) : StepM := ⟨6, a, rec0⟩
def stepS (k : Int) : StepM := ⟨k, ask0, rec0⟩
def secsM : Nat → List (List RecM) → List StepM
  | _, [] => []
  | i, rs :: l => stepS (3 + i) :: rs.map stepR ++ secsM (i + 1) l
def stepsM (short : Bool) (asks : List AskM) (secs : List (List RecM)) : List StepM :=
  (if short then [stepS 1] else []) ++ stepS 2 :: asks.map stepA ++ secsM 0 secs
theorem steps_append (K : KindM) : ∀ (a : List StepM) (m : MSt) (b : List StepM), MSt.steps K m (a ++ b) = ((MSt.steps K m a).1 ++ (MSt.steps K (MSt.steps K m a).2 b).1, (MSt.steps K (MSt.steps K m a).2 b).2)
  | [], _, _ => rfl
  | s :: a, m, b => by
    simp only [List.cons_append, MSt.steps]
    rw [steps_append K a]
def MSt.plus (m : MSt) (n : Nat) : MSt := if m.sec = 2 then { m with q := m.q + n } else if m.sec = 3 then { m with an := m.an + n } else if m.sec = 4 then { m with ns := m.ns + n } else { m with ar := m.ar + n }
theorem counted_plus (m : MSt) : m.counted = m.plus 1 := rfl
theorem recWire_eq {K : KindM} {k : Nat} (hK : KindOk K k) {r : RecM} (h : recOk k r = true) (m : MSt) (hc : m.comp = none) (h3 : 3 ≤ m.sec) (h5 : m.sec ≤ 5) (hn : m.count < 65535) :
    m.step K (stepR r) = (.none, { m.plus 1 with out := m.out ++ recWire k r }) := by
  have h' := h
  unfold recOk at h
  rw [Bool.and_eq_true] at h
  have hb : (body k r).length < 65536 := by
    have := h.2
    unfold bodyOk at this
    simp only [Bool.and_eq_true, decide_eq_true_eq] at this
    exact this.2
  have e : m.step K (stepR r) = m.rec_ K r := rfl
  have hm : ({ m with comp := none } : MSt) = m := by rw [← hc]
  rw [e]
  unfold MSt.rec_
  rw [if_neg (by omega), if_neg (by omega), take255 h.1, hc, packN_wire h.1]
  simp only
  rw [hK.plain r h']
  simp only
  rw [if_neg (by omega), if_neg (by omega), hm, counted_plus]
  congr 1
  unfold recWire low
  rw [hK.type, Nat.mod_eq_of_lt hb]
  simp only [List.append_assoc]
theorem plus_sec (m : MSt) (n : Nat) : (m.plus n).sec = m.sec := by unfold MSt.plus; split; rfl; split; rfl; split <;> rfl
theorem plus_out (m : MSt) (n : Nat) (o : Bytes) : ({ m.plus n with out := o } : MSt) = ({ m with out := o } : MSt).plus n := by unfold MSt.plus; split; rfl; split; rfl; split <;> rfl
theorem plus_plus (m : MSt) (n k : Nat) : (m.plus n).plus k = m.plus (n + k) := by
  unfold MSt.plus
  split
  · rename_i h; simp [h, Nat.add_assoc]
  · split
    · rename_i h; simp [h, Nat.add_assoc]
    · split
      · rename_i h; simp [h, Nat.add_assoc]
      · rename_i h1 h2 h3; simp [h1, h2, h3, Nat.add_assoc]
theorem plus_count (m : MSt) (n : Nat) : (m.plus n).count = m.count + n := by
  unfold MSt.plus MSt.count
  split
  · rename_i h; simp [h]
  · split
    · rename_i h; simp [h]
    · split
      · rename_i h; simp [h]
      · rename_i h1 h2 h3; simp [h1, h2, h3]
theorem plus_comp (m : MSt) (n : Nat) : (m.plus n).comp = m.comp := by unfold MSt.plus; split; rfl; split; rfl; split <;> rfl
theorem plus_outq (m : MSt) (n : Nat) : (m.plus n).out = m.out := by unfold MSt.plus; split; rfl; split; rfl; split <;> rfl
theorem plus_zero (m : MSt) : m.plus 0 = m := by unfold MSt.plus; split; rfl; split; rfl; split <;> rfl
theorem recs_plain {K : KindM} {k : Nat} (hK : KindOk K k) : ∀ (rs : List RecM) (m : MSt), rs.all (recOk k) = true → m.comp = none → 3 ≤ m.sec → m.sec ≤ 5 → m.count + rs.length < 65536 →
    MSt.steps K m (rs.map stepR) = (List.replicate rs.length .none, ({ m with out := m.out ++ rs.flatMap (recWire k) } : MSt).plus rs.length)
  | [], m, _, _, _, _, _ => by simp [MSt.steps, plus_zero]
  | r :: rs, m, ha, hc, h3, h5, hn => by
    rw [List.all_cons, Bool.and_eq_true] at ha
    simp only [List.length_cons] at hn
    simp only [List.map_cons, MSt.steps]
    rw [recWire_eq hK ha.1 m hc h3 h5 (by omega), plus_out]
    rw [recs_plain hK rs _ ha.2 (by rw [plus_comp]; exact hc) (by rw [plus_sec]; exact h3) (by rw [plus_sec]; exact h5) (by rw [plus_count]; simp only [MSt.count] at hn ⊢; omega)]
    rw [plus_outq, plus_out, plus_plus]
    simp [List.replicate_succ, Nat.add_comm]
theorem asks_plain (K : KindM) : ∀ (as : List AskM) (m : MSt), (as.all fun a => nameOk a.name) = true → m.comp = none → m.sec = 2 → m.q + as.length < 65536 →
    MSt.steps K m (as.map stepA) = (List.replicate as.length .none, { m with out := m.out ++ as.flatMap askWire, q := m.q + as.length })
  | [], m, _, _, _, _ => by simp [MSt.steps]
  | a :: as, m, ha, hc, h2, hn => by
    rw [List.all_cons, Bool.and_eq_true] at ha
    simp only [List.length_cons] at hn
    have e : m.step K (stepA a) = (.none, { m with out := m.out ++ askWire a, q := m.q + 1 }) := by
      show m.ask a = _
      have hm : ({ m with comp := none } : MSt) = m := by rw [← hc]
      unfold MSt.ask
      rw [if_neg (by omega), if_neg (by omega), take255 ha.1, hc, packN_wire ha.1]
      simp only
      rw [if_neg (by unfold MSt.count; rw [if_pos h2]; omega), hm]
      unfold MSt.counted askWire
      rw [if_pos h2]
      simp only [List.append_assoc, hc]
    simp only [List.map_cons, MSt.steps]
    rw [e]
    simp only
    rw [asks_plain K as { m with out := m.out ++ askWire a, q := m.q + 1 } ha.2 hc h2 (by simp only; omega)]
    simp [List.replicate_succ, Nat.add_comm, Nat.add_left_comm]
theorem start_step (K : KindM) (m : MSt) (k : Nat) (h : m.sec ≤ k) (h2 : 2 ≤ k) (h5 : k ≤ 5) : m.step K (stepS (k : Int)) = (.none, { m with sec := k }) := by
  have hk : k = 2 ∨ k = 3 ∨ k = 4 ∨ k = 5 := by omega
  have hs : m.start k = (.none, { m with sec := k }) := by unfold MSt.start; rw [if_neg (by omega)]
  rcases hk with rfl | rfl | rfl | rfl <;> exact hs
end Go.Proofs.YtgkhfpkfjajdjaaDoor

/- The laws of whole messages, on plain data: what is built is what the reference writes. No program is in sight. -/
namespace Go.Proofs.YtgkhfpkfjajdjaaDoor

theorem steps_length (K : KindM) : ∀ (ss : List StepM) (m : MSt), (MSt.steps K m ss).1.length = ss.length
  | [], _ => rfl
  | s :: ss, m => by simp [MSt.steps, steps_length K ss]
theorem steps_cons (K : KindM) (m : MSt) (s : StepM) (ss : List StepM) : MSt.steps K m (s :: ss) = ((m.step K s).1 :: (MSt.steps K (m.step K s).2 ss).1, (MSt.steps K (m.step K s).2 ss).2) := rfl
/-- no step has a fault -/
def noFlt (fs : List Flt) : Prop := ∀ f ∈ fs, f = Flt.none
theorem noFlt_replicate (n : Nat) : noFlt (List.replicate n Flt.none) := fun _ hf => (List.mem_replicate.1 hf).2
theorem noFlt_append {a b : List Flt} (ha : noFlt a) (hb : noFlt b) : noFlt (a ++ b) := fun f hf => by
  rcases List.mem_append.1 hf with h | h
  · exact ha f h
  · exact hb f h
theorem noFlt_cons {a : Flt} {b : List Flt} (ha : a = .none) (hb : noFlt b) : noFlt (a :: b) := fun f hf => by
  rcases List.mem_cons.1 hf with h | h
  · rw [h, ha]
  · exact hb f h
theorem noFlt_nil : noFlt [] := fun _ h => by cases h

structure MsgOk (k : Nat) (M : MsgM) : Prop where
  asks : (M.asks.all fun a => nameOk a.name) = true
  one : M.one.all (recOk k) = true
  two : M.two.all (recOk k) = true
  three : M.three.all (recOk k) = true
  head : headOk M.head = true
  na : M.asks.length < 60000
  n1 : M.one.length < 60000
  n2 : M.two.length < 60000
  n3 : M.three.length < 60000
  sum : sumB k (M.one ++ M.two ++ M.three) < 16777216
theorem msgOk_iff {k : Nat} {M : MsgM} (h : msgOk k M = true) : MsgOk k M := by
  unfold msgOk at h
  simp only [Bool.and_eq_true, decide_eq_true_eq, List.all_append] at h
  exact ⟨h.1.1.1.1.1.1.1, h.1.1.1.1.1.1.2.1.1, h.1.1.1.1.1.1.2.1.2, h.1.1.1.1.1.1.2.2, h.1.1.1.1.1.2, h.1.1.1.1.2, h.1.1.1.2, h.1.1.2, h.1.2, h.2⟩
theorem put_first (h rest : Bytes) (hl : h.length = 12) : put (zeros12 ++ rest) 0 h = h ++ rest := by
  unfold put
  simp [hl, zeros12]
theorem plain_law {K : KindM} {k : Nat} (hK : KindOk K k) (M : MsgM) (h : MsgOk k M) :
    noFlt (MSt.steps K .first (stepsM false M.asks [M.one, M.two, M.three])).1 ∧ (MSt.steps K .first (stepsM false M.asks [M.one, M.two, M.three])).2.final M.head = msgWire k M := by
  have na := h.na
  have n1 := h.n1
  have n2 := h.n2
  have n3 := h.n3
  have e : MSt.steps K .first (stepsM false M.asks [M.one, M.two, M.three]) =
      (.none :: List.replicate M.asks.length .none ++ (.none :: List.replicate M.one.length .none ++ (.none :: List.replicate M.two.length .none ++ (.none :: List.replicate M.three.length .none ++ []))),
        ⟨zeros12 ++ M.asks.flatMap askWire ++ M.one.flatMap (recWire k) ++ M.two.flatMap (recWire k) ++ M.three.flatMap (recWire k), 5, M.asks.length, M.one.length, M.two.length, M.three.length, none⟩) := by
    simp only [stepsM, secsM, Bool.false_eq_true, if_false, List.nil_append]
    rw [steps_append]
    simp only [MSt.steps]
    have s2 : MSt.first.step K (stepS 2) = (.none, { MSt.first with sec := 2 }) := start_step K .first 2 (by decide) (by omega) (by omega)
    rw [s2]
    simp only
    rw [asks_plain K M.asks { MSt.first with sec := 2 } h.asks rfl rfl (by simp [MSt.first]; omega)]
    simp only [MSt.first, Nat.zero_add]
    rw [steps_append]
    simp only [MSt.steps]
    rw [show stepS (3 + ((0 : Nat) : Int)) = stepS ((3 : Nat) : Int) from rfl, start_step K _ 3 (by simp) (by omega) (by omega)]
    simp only
    rw [recs_plain hK M.one _ h.one rfl (by simp) (by simp) (by simp [MSt.count]; omega)]
    simp only [MSt.plus]
    simp only [Nat.reduceEqDiff, if_false, if_true, Nat.zero_add]
    rw [steps_append]
    simp only [MSt.steps]
    rw [show stepS (3 + ((1 : Nat) : Int)) = stepS ((4 : Nat) : Int) from rfl, start_step K _ 4 (by simp) (by omega) (by omega)]
    simp only
    rw [recs_plain hK M.two _ h.two rfl (by simp) (by simp) (by simp [MSt.count]; omega)]
    simp only [MSt.plus]
    simp only [Nat.reduceEqDiff, if_false, if_true, Nat.zero_add]
    rw [steps_append]
    simp only [MSt.steps]
    rw [show stepS (3 + ((1 + 1 : Nat) : Int)) = stepS ((5 : Nat) : Int) from rfl, start_step K _ 5 (by simp) (by omega) (by omega)]
    simp only
    rw [recs_plain hK M.three _ h.three rfl (by simp) (by simp) (by simp [MSt.count]; omega)]
    simp only [MSt.plus]
    simp only [Nat.reduceEqDiff, if_false, Nat.zero_add]
  rw [e]
  refine ⟨?_, ?_⟩
  · refine noFlt_append (noFlt_cons rfl (noFlt_replicate _)) (noFlt_append (noFlt_cons rfl (noFlt_replicate _)) (noFlt_append (noFlt_cons rfl (noFlt_replicate _)) (noFlt_append (noFlt_cons rfl (noFlt_replicate _)) noFlt_nil)))
  · simp only [MSt.final, msgWire, headWire, List.append_assoc, List.flatMap_append]
    rw [put_first _ _ (hdr_length _ _ _ _ _ _), Nat.mod_eq_of_lt (by omega), Nat.mod_eq_of_lt (by omega), Nat.mod_eq_of_lt (by omega), Nat.mod_eq_of_lt (by omega)]

/-! with a map -/
theorem rec_fine {K : KindM} {k : Nat} (hK : KindOk K k) {r : RecM} (h : recOk k r = true) (m : MSt) (h3 : 3 ≤ m.sec) (h5 : m.sec ≤ 5) (hn : m.count < 65535) :
    ∃ o c', m.step K (stepR r) = (.none, { ({ m with comp := c' } : MSt).plus 1 with out := m.out ++ o }) ∧ o.length ≤ (recWire k r).length ∧ Ext m.comp c' := by
  have h' := h
  unfold recOk at h
  rw [Bool.and_eq_true] at h
  have hb : (body k r).length < 65536 := by
    have := h.2
    unfold bodyOk at this
    simp only [Bool.and_eq_true, decide_eq_true_eq] at this
    exact this.2
  have e : m.step K (stepR r) = m.rec_ K r := rfl
  rw [e]
  obtain ⟨o, c1, e1, l1, x1⟩ := packN_okC h.1 m.out.length m.comp
  unfold MSt.rec_
  rw [if_neg (by omega), if_neg (by omega), take255 h.1, e1]
  simp only
  have hbody : ∃ b c2, K.body r (m.out.length + o.length + 10) c1 = .ok b c2 ∧ b.length ≤ (body k r).length ∧ Ext c1 c2 := by
    cases c1 with
    | none => exact ⟨_, _, hK.plain r h' _, Nat.le_refl _, rfl⟩
    | some mm =>
      obtain ⟨b, c2, e2, l2, x2⟩ := hK.short r h' (m.out.length + o.length + 10) mm
      exact ⟨b, c2, e2, l2, x2⟩
  obtain ⟨b, c2, e2, l2, x2⟩ := hbody
  rw [e2]
  simp only
  rw [if_neg (by omega), if_neg (by omega), counted_plus]
  refine ⟨o ++ two (K.type r) ++ two r.cls ++ four r.ttl ++ two b.length ++ b, c2, ?_, ?_, Ext.trans x1 x2⟩
  · simp only [List.append_assoc]
  · simp only [recWire, List.length_append, two_length, four_length]
    omega
theorem ask_fine (K : KindM) {a : AskM} (h : nameOk a.name = true) (m : MSt) (h2 : m.sec = 2) (hn : m.q < 65535) :
    ∃ o c', m.step K (stepA a) = (.none, { m with comp := c', out := m.out ++ o, q := m.q + 1 }) ∧ o.length ≤ (askWire a).length ∧ Ext m.comp c' := by
  have e : m.step K (stepA a) = m.ask a := rfl
  rw [e]
  obtain ⟨o, c1, e1, l1, x1⟩ := packN_okC h m.out.length m.comp
  unfold MSt.ask
  rw [if_neg (by omega), if_neg (by omega), take255 h, e1]
  simp only
  rw [if_neg (by unfold MSt.count; rw [if_pos h2]; omega)]
  refine ⟨o ++ two a.type ++ two a.cls, c1, ?_, ?_, x1⟩
  · unfold MSt.counted
    rw [if_pos h2]
    simp only [List.append_assoc]
  · simp only [askWire, List.length_append, two_length]
    omega
/-- what may be said of a state that has come from m by steps without fault: more bytes, by at most n -/
structure After (m m' : MSt) (n : Nat) : Prop where
  out : ∃ o, m'.out = m.out ++ o ∧ o.length ≤ n
  comp : Ext m.comp m'.comp
theorem After.refl (m : MSt) : After m m 0 := ⟨⟨[], by simp⟩, Ext.refl _⟩
theorem After.trans {a b c : MSt} {n k : Nat} (h : After a b n) (h2 : After b c k) : After a c (n + k) := by
  obtain ⟨o, e, l⟩ := h.out
  obtain ⟨o2, e2, l2⟩ := h2.out
  exact ⟨⟨o ++ o2, by rw [e2, e]; simp, by simp; omega⟩, Ext.trans h.comp h2.comp⟩
theorem recs_fine {K : KindM} {k : Nat} (hK : KindOk K k) : ∀ (rs : List RecM) (m : MSt), rs.all (recOk k) = true → 3 ≤ m.sec → m.sec ≤ 5 → m.count + rs.length < 65536 →
    ∃ m', MSt.steps K m (rs.map stepR) = (List.replicate rs.length .none, m') ∧ After m m' (rs.flatMap (recWire k)).length ∧ (∃ o c, m' = ({ m with out := o, comp := c } : MSt).plus rs.length)
  | [], m, _, _, _, _ => ⟨m, rfl, by simpa using After.refl m, m.out, m.comp, by rw [List.length_nil, plus_zero]⟩
  | r :: rs, m, ha, h3, h5, hn => by
    rw [List.all_cons, Bool.and_eq_true] at ha
    simp only [List.length_cons] at hn
    obtain ⟨o, c', e, l, x⟩ := rec_fine hK ha.1 m h3 h5 (by omega)
    rw [plus_out] at e
    obtain ⟨m', e2, a2, o2, c2, p2⟩ := recs_fine hK rs (({ m with comp := c', out := m.out ++ o } : MSt).plus 1) ha.2 (by rw [plus_sec]; exact h3) (by rw [plus_sec]; exact h5) (by rw [plus_count]; simp only [MSt.count] at hn ⊢; omega)
    refine ⟨m', ?_, ?_, o2, c2, ?_⟩
    · simp only [List.map_cons, MSt.steps, e, e2, List.length_cons, List.replicate_succ]
    · have a1 : After m (({ m with comp := c', out := m.out ++ o } : MSt).plus 1) (recWire k r).length := ⟨⟨o, by rw [plus_outq], l⟩, by rw [plus_comp]; exact x⟩
      have := a1.trans a2
      simpa using this
    · rw [p2]
      have : ({ (({ m with comp := c', out := m.out ++ o } : MSt).plus 1) with out := o2, comp := c2 } : MSt) = ({ m with out := o2, comp := c2 } : MSt).plus 1 := by
        unfold MSt.plus; simp only; split; rfl; split; rfl; split <;> rfl
      rw [this, plus_plus, List.length_cons, Nat.add_comm]
theorem asks_fine (K : KindM) : ∀ (as : List AskM) (m : MSt), (as.all fun a => nameOk a.name) = true → m.sec = 2 → m.q + as.length < 65536 →
    ∃ m', MSt.steps K m (as.map stepA) = (List.replicate as.length .none, m') ∧ After m m' (as.flatMap askWire).length ∧ (∃ o c, m' = { m with out := o, comp := c, q := m.q + as.length })
  | [], m, _, _, _ => ⟨m, rfl, by simpa using After.refl m, m.out, m.comp, by simp⟩
  | a :: as, m, ha, h2, hn => by
    rw [List.all_cons, Bool.and_eq_true] at ha
    simp only [List.length_cons] at hn
    obtain ⟨o, c', e, l, x⟩ := ask_fine K ha.1 m h2 (by omega)
    obtain ⟨m', e2, a2, o2, c2, p2⟩ := asks_fine K as { m with comp := c', out := m.out ++ o, q := m.q + 1 } ha.2 h2 (by simp only; omega)
    refine ⟨m', ?_, ?_, o2, c2, ?_⟩
    · simp only [List.map_cons, MSt.steps, e, e2, List.length_cons, List.replicate_succ]
    · have a1 : After m { m with comp := c', out := m.out ++ o, q := m.q + 1 } (askWire a).length := ⟨⟨o, rfl, l⟩, x⟩
      have := a1.trans a2
      simpa using this
    · rw [p2]
      simp [Nat.add_comm, Nat.add_left_comm]
/-- a message of two sections, with a map or without: no fault, and it is no longer than without a map -/
theorem behind_law {K : KindM} {k : Nat} (hK : KindOk K k) (M : MsgM) (h : MsgOk k M) (short : Bool) (h3 : M.three = []) :
    ∃ m', MSt.steps K .first (stepsM short M.asks [M.one, M.two]) = (List.replicate ((if short then 1 else 0) + M.asks.length + M.one.length + M.two.length + 3) .none, m') ∧ 12 ≤ m'.out.length ∧ m'.out.length ≤ (msgWire k M).length := by
  have na := h.na
  have n1 := h.n1
  have n2 := h.n2
  have key : ∀ c, ∃ m', MSt.steps K { MSt.first with comp := c } (stepS 2 :: M.asks.map stepA ++ secsM 0 [M.one, M.two]) = (List.replicate (M.asks.length + M.one.length + M.two.length + 3) .none, m') ∧ 12 ≤ m'.out.length ∧ m'.out.length ≤ (msgWire k M).length := by
    intro c
    rw [steps_append]
    simp only [MSt.steps, secsM]
    rw [show stepS 2 = stepS ((2 : Nat) : Int) from rfl, start_step K _ 2 (by simp [MSt.first]) (by omega) (by omega)]
    simp only
    obtain ⟨m1, e1, a1, o1, c1, p1⟩ := asks_fine K M.asks { MSt.first with comp := c, sec := 2 } h.asks rfl (by simp [MSt.first]; omega)
    rw [e1]
    simp only
    rw [steps_append]
    simp only [MSt.steps]
    rw [show stepS (3 + ((0 : Nat) : Int)) = stepS ((3 : Nat) : Int) from rfl, start_step K _ 3 (by rw [p1]; simp) (by omega) (by omega)]
    simp only
    obtain ⟨m2, e2, a2, o2, c2, p2⟩ := recs_fine hK M.one { m1 with sec := 3 } h.one (by simp) (by simp) (by simp [MSt.count, p1, MSt.first]; omega)
    rw [e2]
    simp only
    rw [steps_append]
    simp only [MSt.steps]
    rw [show stepS (3 + ((1 : Nat) : Int)) = stepS ((4 : Nat) : Int) from rfl, start_step K _ 4 (by rw [p2, plus_sec]; simp) (by omega) (by omega)]
    simp only
    obtain ⟨m3, e3, a3, o3, c3, p3⟩ := recs_fine hK M.two { m2 with sec := 4 } h.two (by simp) (by simp) (by simp [MSt.count, p2, MSt.plus, p1, MSt.first]; omega)
    rw [e3]
    refine ⟨m3, ?_, ?_⟩
    · simp only [List.append_nil, List.cons_append, Prod.mk.injEq, and_true]
      rw [show M.asks.length + M.one.length + M.two.length + 3 = (M.asks.length + (M.one.length + (M.two.length + 1) + 1)) + 1 by omega, List.replicate_succ]
      congr 1
      rw [← List.replicate_append_replicate]
      congr 1
      rw [List.replicate_succ]
      congr 1
      rw [← List.replicate_append_replicate]
      congr 1
    · obtain ⟨x1, f1, l1⟩ := a1.out
      obtain ⟨x2, f2, l2⟩ := a2.out
      obtain ⟨x3, f3, l3⟩ := a3.out
      simp only at f2 f3 f1
      rw [f3, f2, f1]
      simp only [MSt.first, msgWire, h3, List.length_append, List.append_nil, List.flatMap_append, headWire, hdr_length, show zeros12.length = 12 from rfl]
      omega
  cases short with
  | false =>
    obtain ⟨m', e, h1, h2⟩ := key none
    refine ⟨m', ?_, h1, h2⟩
    simp only [stepsM, Bool.false_eq_true, if_false, List.nil_append, Nat.zero_add]
    exact e
  | true =>
    obtain ⟨m', e, h1, h2⟩ := key (some [])
    refine ⟨m', ?_, h1, h2⟩
    have e0 : stepsM true M.asks [M.one, M.two] = stepS 1 :: (stepS 2 :: M.asks.map stepA ++ secsM 0 [M.one, M.two]) := rfl
    rw [e0, steps_cons, show MSt.first.step K (stepS 1) = (.none, { MSt.first with comp := some [] }) from rfl]
    simp only [if_true]
    rw [e]
    rw [show 1 + M.asks.length + M.one.length + M.two.length + 3 = (M.asks.length + M.one.length + M.two.length + 3) + 1 by omega]
    rfl
end Go.Proofs.YtgkhfpkfjajdjaaDoor

/- More laws of whole messages, on plain data: records that come too early, that are refused, that stand whole; questions asked twice. No program is in sight. -/
namespace Go.Proofs.YtgkhfpkfjajdjaaDoor

theorem step_rec (K : KindM) (m : MSt) (r : RecM) : m.step K (stepR r) = m.rec_ K r := rfl
theorem early_law {K : KindM} {k : Nat} (hK : KindOk K k) (h : HeadM) (r : RecM) (hr : recOk k r = true) :
    (MSt.steps K .first [stepR r, stepS 2, stepR r, stepS 3, stepR r]).1 = [.early, .none, .early, .none, .none] ∧
      (MSt.steps K .first [stepR r, stepS 2, stepR r, stepS 3, stepR r]).2.final h = msgWire k ⟨h, [], [r], [], []⟩ := by
  have e : MSt.steps K .first [stepR r, stepS 2, stepR r, stepS 3, stepR r] = ([.early, .none, .early, .none, .none], ⟨zeros12 ++ recWire k r, 3, 0, 1, 0, 0, none⟩) := by
    rw [steps_cons, show MSt.first.step K (stepR r) = (.early, MSt.first) from rfl, steps_cons, show stepS 2 = stepS ((2 : Nat) : Int) from rfl, start_step K _ 2 (by decide) (by omega) (by omega), steps_cons,
      show ({ MSt.first with sec := 2 } : MSt).step K (stepR r) = (.early, { MSt.first with sec := 2 }) from rfl, steps_cons, show stepS 3 = stepS ((3 : Nat) : Int) from rfl, start_step K _ 3 (by simp [MSt.first]) (by omega) (by omega), steps_cons,
      recWire_eq hK hr _ rfl (by simp) (by simp) (by simp [MSt.count, MSt.first])]
    rfl
  rw [e]
  refine ⟨rfl, ?_⟩
  simp only [MSt.final, msgWire, headWire]
  rw [put_first _ _ (hdr_length _ _ _ _ _ _)]
  simp
/-- a record that is refused in whatever section, without a map -/
def RecBad (K : KindM) (r : RecM) : Prop := ∀ m : MSt, m.comp = none → 3 ≤ m.sec → m.sec ≤ 5 → m.step K (stepR r) = (.other, m)
theorem recBad_name {K : KindM} {r : RecM} (h : ∀ pos, packN (r.name.take 255) pos none = .bad none) : RecBad K r := by
  intro m hc h3 h5
  have hm : ({ m with comp := none } : MSt) = m := by rw [← hc]
  show m.rec_ K r = _
  unfold MSt.rec_
  rw [if_neg (by omega), if_neg (by omega), hc, h]
  simp only [hm]
theorem recBad_body {K : KindM} {r : RecM} (hn : nameOk r.name = true) (h : ∀ pos, K.body r pos none = .bad none) : RecBad K r := by
  intro m hc h3 h5
  have hm : ({ m with comp := none } : MSt) = m := by rw [← hc]
  show m.rec_ K r = _
  unfold MSt.rec_
  rw [if_neg (by omega), if_neg (by omega), hc, take255 hn, packN_wire hn]
  simp only [h, hm]
theorem recBad_long {K : KindM} {r : RecM} (hn : nameOk r.name = true) (h : ∀ pos, ∃ b, K.body r pos none = .ok b none ∧ 65535 < b.length) : RecBad K r := by
  intro m hc h3 h5
  have hm : ({ m with comp := none } : MSt) = m := by rw [← hc]
  show m.rec_ K r = _
  unfold MSt.rec_
  rw [if_neg (by omega), if_neg (by omega), hc, take255 hn, packN_wire hn]
  obtain ⟨b, hb, hl⟩ := h (m.out.length + (wire r.name).length + 10)
  simp only [hb, if_pos hl, hm]
theorem refused_law {K : KindM} {k : Nat} (hK : KindOk K k) (h : HeadM) (bad good : RecM) (hg : recOk k good = true) (hb : RecBad K bad) :
    (MSt.steps K .first (stepsM false [] [[bad, good], [bad, good], [bad, good]])).1 = [.none, .none, .other, .none, .none, .other, .none, .none, .other, .none] ∧
      (MSt.steps K .first (stepsM false [] [[bad, good], [bad, good], [bad, good]])).2.final h = msgWire k ⟨h, [], [good], [good], [good]⟩ := by
  have e : MSt.steps K .first (stepsM false [] [[bad, good], [bad, good], [bad, good]]) = ([.none, .none, .other, .none, .none, .other, .none, .none, .other, .none], ⟨zeros12 ++ recWire k good ++ recWire k good ++ recWire k good, 5, 0, 1, 1, 1, none⟩) := by
    rw [show stepsM false [] [[bad, good], [bad, good], [bad, good]] = [stepS ((2 : Nat) : Int), stepS ((3 : Nat) : Int), stepR bad, stepR good, stepS ((4 : Nat) : Int), stepR bad, stepR good, stepS ((5 : Nat) : Int), stepR bad, stepR good] from rfl]
    rw [steps_cons, start_step K _ 2 (by decide) (by omega) (by omega), steps_cons, start_step K _ 3 (by simp [MSt.first]) (by omega) (by omega), steps_cons, hb _ rfl (by simp) (by simp), steps_cons,
      recWire_eq hK hg _ rfl (by simp) (by simp) (by simp [MSt.count, MSt.first]), steps_cons, start_step K _ 4 (by simp [MSt.plus]) (by omega) (by omega), steps_cons, hb _ rfl (by simp) (by simp), steps_cons,
      recWire_eq hK hg _ rfl (by simp) (by simp) (by simp [MSt.count, MSt.first, MSt.plus]), steps_cons, start_step K _ 5 (by simp [MSt.plus]) (by omega) (by omega), steps_cons, hb _ rfl (by simp) (by simp), steps_cons,
      recWire_eq hK hg _ rfl (by simp) (by simp) (by simp [MSt.count, MSt.first, MSt.plus])]
    rfl
  rw [e]
  refine ⟨rfl, ?_⟩
  simp only [MSt.final, msgWire, headWire, List.append_assoc]
  rw [put_first _ _ (hdr_length _ _ _ _ _ _)]
  simp
/-! a name that comes first stands whole -/
theorem look_none_of_long {m : CMap} {k : Bytes} (h : ∀ x ∈ m, k.length < x.1.length) : lookC m k = none := by
  unfold lookC
  rw [List.find?_eq_none.2]
  · rfl
  · intro x hx
    have := h x hx
    simp only [beq_iff_eq]
    intro e
    rw [e] at this
    omega
theorem scan_first (pos : Nat) : ∀ (rest part out : Bytes) (m : CMap), okLoop rest part.length = some 0 → (∀ x ∈ m, rest.length < x.1.length) → ∃ c', scan pos rest part out (some m) = .ok (wireLoop rest out part) (some c')
  | [], part, out, m, h, _ => ⟨m, rfl⟩
  | b :: r, part, out, m, h, hm => by
    unfold okLoop at h
    unfold scan wireLoop
    have hm' : ∀ x ∈ m, r.length < x.1.length := fun x hx => by have := hm x hx; simp at this; omega
    by_cases hb : b = 46
    · subst hb
      simp only [ne_eq, not_true_eq_false, if_false] at h
      split at h
      · cases h
      · rename_i h1
        simp only [if_true, ne_eq, not_true_eq_false, if_false]
        rw [if_neg (by omega), if_neg (by omega), if_pos (by omega)]
        exact scan_first pos r [] _ m h hm'
    · rw [if_pos hb] at h
      simp only [hb, if_false, ne_eq, not_false_eq_true, if_true]
      have h' : okLoop r (part ++ [b]).length = some 0 := by simpa using h
      split
      · rename_i h0
        have : part = [] := List.eq_nil_of_length_eq_zero h0
        subst this
        rw [look_none_of_long hm]
        simp only
        split
        · refine scan_first pos r [b] out _ h' ?_
          intro x hx
          simp only [List.mem_append, List.mem_singleton] at hx
          rcases hx with hx | rfl
          · exact hm' x hx
          · simp
        · exact scan_first pos r [b] out m h' hm'
      · exact scan_first pos r _ out m h' hm'
theorem packN_first {s : Bytes} (h : nameOk s = true) (pos : Nat) : ∃ c', packN s pos (some []) = .ok (wire s) (some c') := by
  rcases nameOk_cases h with rfl | ⟨h0, h1, h2⟩
  · exact ⟨[], rfl⟩
  · rw [packN_scan h0 h1 h2]
    exact scan_first pos s [] [] [] h0 (by simp)
/-- a record whose body needs no map stands whole as the first of a message with a map -/
theorem whole_law {K : KindM} {k : Nat} (hK : KindOk K k) (h : HeadM) (r : RecM) (hr : recOk k r = true) (hb : ∀ pos m, K.body r pos (some m) = .ok (body k r) (some m)) :
    ∃ m', MSt.steps K .first (stepsM true [] [[r]]) = ([.none, .none, .none, .none], m') ∧ m'.final h = msgWire k ⟨h, [], [r], [], []⟩ := by
  have h' := hr
  unfold recOk at h'
  rw [Bool.and_eq_true] at h'
  have hlen : (body k r).length < 65536 := by
    have := h'.2
    unfold bodyOk at this
    simp only [Bool.and_eq_true, decide_eq_true_eq] at this
    exact this.2
  obtain ⟨c', hc⟩ := packN_first h'.1 12
  refine ⟨⟨zeros12 ++ recWire k r, 3, 0, 1, 0, 0, some c'⟩, ?_, ?_⟩
  · rw [show stepsM true [] [[r]] = [stepS 1, stepS ((2 : Nat) : Int), stepS ((3 : Nat) : Int), stepR r] from rfl]
    rw [steps_cons, show MSt.first.step K (stepS 1) = (.none, { MSt.first with comp := some [] }) from rfl, steps_cons, start_step K _ 2 (by decide) (by omega) (by omega), steps_cons, start_step K _ 3 (by simp [MSt.first]) (by omega) (by omega), steps_cons]
    have e : (⟨zeros12, 3, 0, 0, 0, 0, some []⟩ : MSt).step K (stepR r) = (.none, ⟨zeros12 ++ recWire k r, 3, 0, 1, 0, 0, some c'⟩) := by
      rw [step_rec]
      unfold MSt.rec_
      rw [if_neg (by simp), if_neg (by simp), take255 h'.1]
      simp only [MSt.first, show zeros12.length = 12 from rfl, hc, hb]
      rw [if_neg (by omega), if_neg (by show ¬ (0 : Nat) = 65535; omega)]
      simp only [MSt.counted, recWire, low, hK.type, Nat.mod_eq_of_lt hlen]
      simp
    show (_ :: _ :: _ :: (MSt.step K (⟨zeros12, 3, 0, 0, 0, 0, some []⟩ : MSt) (stepR r)).1 :: _, (MSt.step K (⟨zeros12, 3, 0, 0, 0, 0, some []⟩ : MSt) (stepR r)).2) = _
    rw [e]
    rfl
  · simp only [MSt.final, msgWire, headWire]
    rw [put_first _ _ (hdr_length _ _ _ _ _ _)]
    simp
end Go.Proofs.YtgkhfpkfjajdjaaDoor

/- The kinds of records, on plain data: what the Builder writes for each, and that the reference writes the same. No program is in sight. -/
namespace Go.Proofs.YtgkhfpkfjajdjaaDoor

def PR.pre (a : Bytes) : PR → PR
  | .ok o c => .ok (a ++ o) c
  | .bad c => .bad c
def PR.post (b : Bytes) : PR → PR
  | .ok o c => .ok (o ++ b) c
  | .bad c => .bad c
/-- a name without a map, where there is one -/
def packW (nm : Bytes) (pos : Nat) (c : Option CMap) : PR := match packN nm pos none with
  | .ok o _ => .ok o c
  | .bad _ => .bad c
def kA : KindM := ⟨fun _ => 1, fun r _ c => .ok (fixedB r.data 4) c⟩
def kAAAA : KindM := ⟨fun _ => 28, fun r _ c => .ok (fixedB r.data 16) c⟩
def hostBody (r : RecM) (pos : Nat) (c : Option CMap) : PR := packN (r.host.take 255) pos c
def kNS : KindM := ⟨fun _ => 2, hostBody⟩
def kCNAME : KindM := ⟨fun _ => 5, hostBody⟩
def kPTR : KindM := ⟨fun _ => 12, hostBody⟩
def kMX : KindM := ⟨fun _ => 15, fun r pos c => (packN (r.host.take 255) (pos + 2) c).pre (two (low r.n1))⟩
def soaTail (r : RecM) : Bytes := four r.n1 ++ four r.n2 ++ four r.n3 ++ four r.n4 ++ four r.n5
def soaBody (r : RecM) (pos : Nat) (c : Option CMap) : PR := match packN (r.host.take 255) pos c with
  | .bad c => .bad c
  | .ok o c => match packN (r.box.take 255) (pos + o.length) c with
    | .bad c => .bad c
    | .ok o2 c => .ok (o ++ o2 ++ soaTail r) c
def kSOA : KindM := ⟨fun _ => 6, soaBody⟩
def kTXT : KindM := ⟨fun _ => 16, fun r _ c => if (r.texts.all fun s => decide (s.length ≤ 255)) = true then .ok (r.texts.flatMap textB) c else .bad c⟩
def kSRV : KindM := ⟨fun _ => 33, fun r pos c => (packW (r.host.take 255) (pos + 6) c).pre (two (low r.n1) ++ two (low r.n2) ++ two (low r.n3))⟩
def kOPT : KindM := ⟨fun _ => 41, fun r _ c => .ok (pairsB r.pairs) c⟩
def svcbBody (r : RecM) (pos : Nat) (c : Option CMap) : PR := match packW (r.host.take 255) (pos + 2) c with
  | .bad c => .bad c
  | .ok o c => if (ascends r.pairs && r.pairs.all fun p => decide (p.data.length ≤ 65535)) = true then .ok (two (low r.n1) ++ o ++ pairsB r.pairs) c else .bad c
def kSVCB : KindM := ⟨fun _ => 64, svcbBody⟩
def kHTTPS : KindM := ⟨fun _ => 65, svcbBody⟩
def kUnknown : KindM := ⟨fun r => r.type, fun r _ c => .ok r.data c⟩
def kNone : KindM := ⟨fun _ => 0, fun _ _ c => .ok [] c⟩

theorem recOk_parts {k : Nat} {r : RecM} (h : recOk k r = true) : nameOk r.name = true ∧ hostOk k r = true ∧ (body k r).length < 65536 ∧ (k = 7 → (r.texts.all fun s => decide (s.length ≤ 255)) = true) ∧ (k = 11 ∨ k = 12 → ascends r.pairs = true) := by
  unfold recOk bodyOk at h
  simp only [Bool.and_eq_true, Bool.or_eq_true, decide_eq_true_eq] at h
  refine ⟨h.1, h.2.1.2, h.2.2, fun e => ?_, fun e => ?_⟩
  · rcases h.2.1.1.1 with h1 | h1
    · exact absurd e h1
    · exact h1.1
  · rcases h.2.1.1.2 with h1 | h1
    · omega
    · exact h1
theorem okA : KindOk kA 1 := ⟨fun _ => rfl, fun _ _ _ => rfl, fun _ _ _ _ => ⟨_, _, rfl, Nat.le_refl _, Ext.refl _⟩⟩
theorem okAAAA : KindOk kAAAA 8 := ⟨fun _ => rfl, fun _ _ _ => rfl, fun _ _ _ _ => ⟨_, _, rfl, Nat.le_refl _, Ext.refl _⟩⟩
theorem okUnknown : KindOk kUnknown 13 := ⟨fun _ => rfl, fun _ _ _ => rfl, fun _ _ _ _ => ⟨_, _, rfl, Nat.le_refl _, Ext.refl _⟩⟩
theorem okOPT : KindOk kOPT 10 := ⟨fun _ => rfl, fun _ _ _ => rfl, fun _ _ _ _ => ⟨_, _, rfl, Nat.le_refl _, Ext.refl _⟩⟩
theorem ok_host {k t : Nat} (hk : k = 2 ∨ k = 3 ∨ k = 5) (ht : ∀ r, t = typeOf k r) : KindOk ⟨fun _ => t, hostBody⟩ k := by
  have hb : ∀ r, body k r = wire r.host := fun r => by rcases hk with rfl | rfl | rfl <;> rfl
  have hh : ∀ r, recOk k r = true → nameOk r.host = true := fun r h => by
    have := (recOk_parts h).2.1
    rcases hk with rfl | rfl | rfl <;> simpa [hostOk] using this
  refine ⟨ht, fun r h pos => ?_, fun r h pos m => ?_⟩
  · rw [hb]
    show packN _ _ _ = _
    rw [take255 (hh r h)]
    exact packN_wire (hh r h) pos
  · rw [hb]
    show ∃ b c', packN _ _ _ = _ ∧ _
    rw [take255 (hh r h)]
    exact packN_okC (hh r h) pos _
theorem okNS : KindOk kNS 2 := ok_host (.inl rfl) fun _ => rfl
theorem okCNAME : KindOk kCNAME 3 := ok_host (.inr (.inl rfl)) fun _ => rfl
theorem okPTR : KindOk kPTR 5 := ok_host (.inr (.inr rfl)) fun _ => rfl
theorem okMX : KindOk kMX 6 := by
  have hh : ∀ r, recOk 6 r = true → nameOk r.host = true := fun r h => by simpa [hostOk] using (recOk_parts h).2.1
  refine ⟨fun _ => rfl, fun r h pos => ?_, fun r h pos m => ?_⟩
  · show (packN _ _ _).pre _ = _
    rw [take255 (hh r h), packN_wire (hh r h)]
    rfl
  · show ∃ b c', (packN _ _ _).pre _ = _ ∧ _
    rw [take255 (hh r h)]
    obtain ⟨o, c', e, l, x⟩ := packN_okC (hh r h) (pos + 2) (some m)
    rw [e]
    exact ⟨_, c', rfl, by simp [body]; omega, x⟩
theorem okSOA : KindOk kSOA 4 := by
  have hh : ∀ r, recOk 4 r = true → nameOk r.host = true ∧ nameOk r.box = true := fun r h => by simpa [hostOk] using (recOk_parts h).2.1
  refine ⟨fun _ => rfl, fun r h pos => ?_, fun r h pos m => ?_⟩
  · show soaBody _ _ _ = _
    unfold soaBody
    rw [take255 (hh r h).1, take255 (hh r h).2, packN_wire (hh r h).1]
    simp only [packN_wire (hh r h).2]
    simp [body, soaTail]
  · show ∃ b c', soaBody _ _ _ = _ ∧ _
    unfold soaBody
    rw [take255 (hh r h).1, take255 (hh r h).2]
    obtain ⟨o, c', e, l, x⟩ := packN_okC (hh r h).1 pos (some m)
    rw [e]
    obtain ⟨o2, c2, e2, l2, x2⟩ := packN_okC (hh r h).2 (pos + o.length) c'
    simp only [e2]
    exact ⟨_, c2, rfl, by simp [body, soaTail]; omega, Ext.trans x x2⟩
theorem txt_body {r : RecM} (h : recOk 7 r = true) (pos : Nat) (c : Option CMap) : kTXT.body r pos c = .ok (body 7 r) c := if_pos ((recOk_parts h).2.2.2.1 rfl)
theorem okTXT : KindOk kTXT 7 := ⟨fun _ => rfl, fun _ h pos => txt_body h pos none, fun _ h pos m => ⟨_, _, txt_body h pos (some m), Nat.le_refl _, Ext.refl _⟩⟩
theorem packW_wire {s : Bytes} (h : nameOk s = true) (pos : Nat) (c : Option CMap) : packW s pos c = .ok (wire s) c := by
  unfold packW
  rw [packN_wire h]
theorem srv_body {r : RecM} (h : recOk 9 r = true) (pos : Nat) (c : Option CMap) : kSRV.body r pos c = .ok (body 9 r) c := by
  have hh : nameOk r.host = true := by simpa [hostOk] using (recOk_parts h).2.1
  show (packW _ _ _).pre _ = _
  rw [take255 hh, packW_wire hh]
  rfl
theorem okSRV : KindOk kSRV 9 := ⟨fun _ => rfl, fun _ h pos => srv_body h pos none, fun _ h pos m => ⟨_, _, srv_body h pos (some m), Nat.le_refl _, Ext.refl _⟩⟩
theorem pairs_small : ∀ (ps : List PairM), (pairsB ps).length < 65536 → (ps.all fun p => decide (p.data.length ≤ 65535)) = true
  | [], _ => rfl
  | p :: ps, h => by
    have h' : (pairB p).length + (pairsB ps).length < 65536 := by simpa [pairsB] using h
    have hp : p.data.length ≤ (pairB p).length := by simp [pairB]; omega
    rw [List.all_cons, Bool.and_eq_true, decide_eq_true_eq]
    exact ⟨by omega, pairs_small ps (by omega)⟩
theorem svcb_body {k : Nat} (hk : k = 11 ∨ k = 12) {r : RecM} (h : recOk k r = true) (pos : Nat) (c : Option CMap) : svcbBody r pos c = .ok (body k r) c := by
  have hh : nameOk r.host = true := by rcases hk with rfl | rfl <;> simpa [hostOk] using (recOk_parts h).2.1
  have hb : body k r = two (low r.n1) ++ wire r.host ++ pairsB r.pairs := by rcases hk with rfl | rfl <;> rfl
  have hl := (recOk_parts h).2.2.1
  rw [hb] at hl
  have hs := pairs_small r.pairs (by simp at hl; omega)
  unfold svcbBody
  rw [take255 hh, packW_wire hh]
  simp only [(recOk_parts h).2.2.2.2 hk, hs, Bool.and_self, if_true, hb]
theorem okSVCB : KindOk kSVCB 11 := ⟨fun _ => rfl, fun _ h pos => svcb_body (.inl rfl) h pos none, fun _ h pos m => ⟨_, _, svcb_body (.inl rfl) h pos (some m), Nat.le_refl _, Ext.refl _⟩⟩
theorem okHTTPS : KindOk kHTTPS 12 := ⟨fun _ => rfl, fun _ h pos => svcb_body (.inr rfl) h pos none, fun _ h pos m => ⟨_, _, svcb_body (.inr rfl) h pos (some m), Nat.le_refl _, Ext.refl _⟩⟩
/-! records that are refused -/
theorem long255 {s : Bytes} (h : longLabel s = true) : s.take 255 = s := List.take_of_length_le (by have := longLabel_len h; omega)
theorem bad_host {t : Nat} {r : RecM} (hn : nameOk r.name = true) (h : longLabel r.host = true) : RecBad ⟨fun _ => t, hostBody⟩ r :=
  recBad_body hn fun pos => by
    show packN _ _ _ = _
    rw [long255 h]; exact packN_long h pos
theorem badMX {r : RecM} (hn : nameOk r.name = true) (h : longLabel r.host = true) : RecBad kMX r :=
  recBad_body hn fun pos => by
    show (packN _ _ _).pre _ = _
    rw [long255 h, packN_long h]; rfl
theorem badSOA {r : RecM} (hn : nameOk r.name = true) (h : longLabel r.host = true) : RecBad kSOA r :=
  recBad_body hn fun pos => by
    show soaBody _ _ _ = _
    unfold soaBody
    rw [long255 h, packN_long h]
theorem badBox {r : RecM} (hn : nameOk r.name = true) (hh : nameOk r.host = true) (h : longLabel r.box = true) : RecBad kSOA r :=
  recBad_body hn fun pos => by
    show soaBody _ _ _ = _
    unfold soaBody
    rw [long255 h, take255 hh, packN_wire hh]
    simp only [packN_long h]
theorem badSVCB {r : RecM} (hn : nameOk r.name = true) (h : longLabel r.host = true) : RecBad kSVCB r :=
  recBad_body hn fun pos => by
    show svcbBody _ _ _ = _
    unfold svcbBody packW
    rw [long255 h, packN_long h]
theorem unsortedSVCB {r : RecM} (hn : nameOk r.name = true) (hh : nameOk r.host = true) (h : ascends r.pairs = false) : RecBad kSVCB r :=
  recBad_body hn fun pos => by
    show svcbBody _ _ _ = _
    unfold svcbBody
    rw [take255 hh, packW_wire hh]
    simp only [h, Bool.false_and, Bool.false_eq_true, if_false]
theorem tooLong {r : RecM} (hn : nameOk r.name = true) (h : 65535 < r.data.length) : RecBad kUnknown r :=
  recBad_long hn fun _ => ⟨_, rfl, h⟩
end Go.Proofs.YtgkhfpkfjajdjaaDoor
