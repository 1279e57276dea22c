/-
  DERIVED. GIVEN WITH THE SEED: THE CARDS: each row of YtfoinoegabcigaaDoorRows.lean that lists a variable, with what it lists TIED to the program's text (the seventh form; the later family's looks); each row that meets fmt, with fmt's text TOLD by the authors' own Lean function (tested against real Go, not proved from fmt's source: count such statements apart). THE CARD IS WHAT COUNTS. Prove the row's statement (the work); the ties are given (YtfoinoegabcigaaDoorTie.lean); close each card by the builder's one call (the guide's Derived/Test/ToyasCard.lean, 'card_holds'). Laid BY PROGRAM, IN A SANDBOX (cutbox-door.mjs). By AI agents, Wed Nov 11 2026. No macro, syntax, notation, axiom, sorry.
-/
import Derived.Test.YtfoinoegabcigaaDoorRows
import GoSem.ClaimSeven
namespace Go.Proofs.YtfoinoegabcigaaDoor
namespace Rows

/-- THE TIED CARD OF 'laws.FnNameText'. -/
def fnNameTextCard : Claim7 := { stood := { row := fnNameTextRow, standIns := [], harness := (true, "edc1ebdfcd8f2b803b6cd298842a4c3cddf2657be8c1e7281e1d0869d6aab45e"), looks := true }, kinds := [], alts := [], laidByText := true, laidKinds := [.sentinel], laidTests := true, laidLooks := .later }
def FnNameTextCardSaid : Prop := Claim7.holds Tryd.pinned (.plain (OpenSpec.ofChange fnNameTextSpec)) fnNameTextCard

/-- THE TIED CARD OF 'laws.FnAsksTwice'. -/
def fnAsksTwiceCard : Claim7 := { stood := { row := fnAsksTwiceRow, standIns := [], harness := (true, "edc1ebdfcd8f2b803b6cd298842a4c3cddf2657be8c1e7281e1d0869d6aab45e"), looks := true }, kinds := [], alts := [], laidByText := true, laidKinds := [.sentinel, .sentinel, .sentinel, .sentinel, .sentinel, .sentinel, .sentinel, .sentinel, .sentinel, .sentinel], laidTests := true, laidLooks := .later }
def FnAsksTwiceCardSaid : Prop := Claim7.holds Tryd.pinned (.plain (OpenSpec.ofChange fnAsksTwiceSpec)) fnAsksTwiceCard

/-- THE TIED CARD OF 'laws.FnBackwards'. -/
def fnBackwardsCard : Claim7 := { stood := { row := fnBackwardsRow, standIns := [], harness := (true, "edc1ebdfcd8f2b803b6cd298842a4c3cddf2657be8c1e7281e1d0869d6aab45e"), looks := true }, kinds := [], alts := [], laidByText := true, laidKinds := [.sentinel, .sentinel, .sentinel, .sentinel, .sentinel, .sentinel, .sentinel, .sentinel, .sentinel, .sentinel], laidTests := true, laidLooks := .later }
def FnBackwardsCardSaid : Prop := Claim7.holds Tryd.pinned (.plain (OpenSpec.ofChange fnBackwardsSpec)) fnBackwardsCard

/-- THE TIED CARD OF 'laws.FnHeadBuf'. -/
def fnHeadBufCard : Claim7 := { stood := { row := fnHeadBufRow, standIns := [], harness := (true, "edc1ebdfcd8f2b803b6cd298842a4c3cddf2657be8c1e7281e1d0869d6aab45e"), looks := true }, kinds := [], alts := [], laidByText := true, laidKinds := [.sentinel, .sentinel, .sentinel, .sentinel, .sentinel, .sentinel, .sentinel, .sentinel, .sentinel, .sentinel], laidTests := true, laidLooks := .later }
def FnHeadBufCardSaid : Prop := Claim7.holds Tryd.pinned (.plain (OpenSpec.ofChange fnHeadBufSpec)) fnHeadBufCard

/-- THE TIED CARD OF 'laws.FnLateAsk'. -/
def fnLateAskCard : Claim7 := { stood := { row := fnLateAskRow, standIns := [], harness := (true, "edc1ebdfcd8f2b803b6cd298842a4c3cddf2657be8c1e7281e1d0869d6aab45e"), looks := true }, kinds := [], alts := [], laidByText := true, laidKinds := [.sentinel, .sentinel, .sentinel, .sentinel, .sentinel, .sentinel, .sentinel, .sentinel, .sentinel, .sentinel], laidTests := true, laidLooks := .later }
def FnLateAskCardSaid : Prop := Claim7.holds Tryd.pinned (.plain (OpenSpec.ofChange fnLateAskSpec)) fnLateAskCard

/-- THE TIED CARD OF 'laws.FnShortAsks'. -/
def fnShortAsksCard : Claim7 := { stood := { row := fnShortAsksRow, standIns := [], harness := (true, "edc1ebdfcd8f2b803b6cd298842a4c3cddf2657be8c1e7281e1d0869d6aab45e"), looks := true }, kinds := [], alts := [], laidByText := true, laidKinds := [.sentinel, .sentinel, .sentinel, .sentinel, .sentinel, .sentinel, .sentinel, .sentinel, .sentinel, .sentinel], laidTests := true, laidLooks := .later }
def FnShortAsksCardSaid : Prop := Claim7.holds Tryd.pinned (.plain (OpenSpec.ofChange fnShortAsksSpec)) fnShortAsksCard

/-- THE SECOND FORM's CARD OF 'laws.FnNameText'. -/
def fnNameTextUptoCard : Claim7 := { stood := { row := fnNameTextUptoRow, standIns := [], harness := (true, "edc1ebdfcd8f2b803b6cd298842a4c3cddf2657be8c1e7281e1d0869d6aab45e"), looks := true }, kinds := [], alts := [], laidByText := true, laidKinds := [.sentinel], laidTests := true, laidLooks := .later }
def FnNameTextUptoCardSaid : Prop := Claim7.holds Tryd.pinned (.plain (OpenSpec.upto fnNameTextSpec)) fnNameTextUptoCard

/-- THE SECOND FORM's CARD OF 'laws.FnAsksTwice'. -/
def fnAsksTwiceUptoCard : Claim7 := { stood := { row := fnAsksTwiceUptoRow, standIns := [], harness := (true, "edc1ebdfcd8f2b803b6cd298842a4c3cddf2657be8c1e7281e1d0869d6aab45e"), looks := true }, kinds := [], alts := [], laidByText := true, laidKinds := [.sentinel, .sentinel, .sentinel, .sentinel, .sentinel, .sentinel, .sentinel, .sentinel, .sentinel, .sentinel], laidTests := true, laidLooks := .later }
def FnAsksTwiceUptoCardSaid : Prop := Claim7.holds Tryd.pinned (.plain (OpenSpec.upto fnAsksTwiceSpec)) fnAsksTwiceUptoCard

/-- THE SECOND FORM's CARD OF 'laws.FnBackwards'. -/
def fnBackwardsUptoCard : Claim7 := { stood := { row := fnBackwardsUptoRow, standIns := [], harness := (true, "edc1ebdfcd8f2b803b6cd298842a4c3cddf2657be8c1e7281e1d0869d6aab45e"), looks := true }, kinds := [], alts := [], laidByText := true, laidKinds := [.sentinel, .sentinel, .sentinel, .sentinel, .sentinel, .sentinel, .sentinel, .sentinel, .sentinel, .sentinel], laidTests := true, laidLooks := .later }
def FnBackwardsUptoCardSaid : Prop := Claim7.holds Tryd.pinned (.plain (OpenSpec.upto fnBackwardsSpec)) fnBackwardsUptoCard

/-- THE SECOND FORM's CARD OF 'laws.FnHeadBuf'. -/
def fnHeadBufUptoCard : Claim7 := { stood := { row := fnHeadBufUptoRow, standIns := [], harness := (true, "edc1ebdfcd8f2b803b6cd298842a4c3cddf2657be8c1e7281e1d0869d6aab45e"), looks := true }, kinds := [], alts := [], laidByText := true, laidKinds := [.sentinel, .sentinel, .sentinel, .sentinel, .sentinel, .sentinel, .sentinel, .sentinel, .sentinel, .sentinel], laidTests := true, laidLooks := .later }
def FnHeadBufUptoCardSaid : Prop := Claim7.holds Tryd.pinned (.plain (OpenSpec.upto fnHeadBufSpec)) fnHeadBufUptoCard

/-- THE SECOND FORM's CARD OF 'laws.FnLateAsk'. -/
def fnLateAskUptoCard : Claim7 := { stood := { row := fnLateAskUptoRow, standIns := [], harness := (true, "edc1ebdfcd8f2b803b6cd298842a4c3cddf2657be8c1e7281e1d0869d6aab45e"), looks := true }, kinds := [], alts := [], laidByText := true, laidKinds := [.sentinel, .sentinel, .sentinel, .sentinel, .sentinel, .sentinel, .sentinel, .sentinel, .sentinel, .sentinel], laidTests := true, laidLooks := .later }
def FnLateAskUptoCardSaid : Prop := Claim7.holds Tryd.pinned (.plain (OpenSpec.upto fnLateAskSpec)) fnLateAskUptoCard

/-- THE SECOND FORM's CARD OF 'laws.FnShortAsks'. -/
def fnShortAsksUptoCard : Claim7 := { stood := { row := fnShortAsksUptoRow, standIns := [], harness := (true, "edc1ebdfcd8f2b803b6cd298842a4c3cddf2657be8c1e7281e1d0869d6aab45e"), looks := true }, kinds := [], alts := [], laidByText := true, laidKinds := [.sentinel, .sentinel, .sentinel, .sentinel, .sentinel, .sentinel, .sentinel, .sentinel, .sentinel, .sentinel], laidTests := true, laidLooks := .later }
def FnShortAsksUptoCardSaid : Prop := Claim7.holds Tryd.pinned (.plain (OpenSpec.upto fnShortAsksSpec)) fnShortAsksUptoCard
end Rows
end Go.Proofs.YtfoinoegabcigaaDoor
