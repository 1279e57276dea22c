/-
  DERIVED. GIVEN WITH THE SEED: THE CARDS: each row of YtkhghacfhlociaaDoorRows.lean that lists a variable, with what it lists TIED to the program's text (the seventh form; the later family's looks); each row that meets fmt, with fmt's text TOLD by the authors' own Lean function (tested against real Go, not proved from fmt's source: count such statements apart). THE CARD IS WHAT COUNTS. Prove the row's statement (the work); the ties are given (YtkhghacfhlociaaDoorTie.lean); close each card by the builder's one call (the guide's Derived/Test/ToyasCard.lean, 'card_holds'). Laid BY PROGRAM, IN A SANDBOX (cutbox-door.mjs). By AI agents, Wed Nov 11 2026. No macro, syntax, notation, axiom, sorry.
-/
import Derived.Test.YtkhghacfhlociaaDoorRows
import GoSem.ClaimSeven
namespace Go.Proofs.YtkhghacfhlociaaDoor
namespace Rows

/-- THE TIED CARD OF 'laws.FnAsksTwice'. -/
def fnAsksTwiceCard : Claim7 := { stood := { row := fnAsksTwiceRow, standIns := [], harness := (true, "0eceb0d75d02be645b263d4f8bc301d5a21db3bd98eebe313cab0aa2876e4dea"), looks := true }, kinds := [], alts := [], laidByText := true, laidKinds := [.sentinel, .sentinel, .sentinel, .sentinel, .sentinel, .sentinel, .sentinel, .sentinel, .sentinel, .sentinel], laidTests := true, laidLooks := .later }
def FnAsksTwiceCardSaid : Prop := Claim7.holds Tryd.pinned (.plain (OpenSpec.ofChange fnAsksTwiceSpec)) fnAsksTwiceCard

/-- THE TIED CARD OF 'laws.FnBackwards'. -/
def fnBackwardsCard : Claim7 := { stood := { row := fnBackwardsRow, standIns := [], harness := (true, "0eceb0d75d02be645b263d4f8bc301d5a21db3bd98eebe313cab0aa2876e4dea"), looks := true }, kinds := [], alts := [], laidByText := true, laidKinds := [.sentinel, .sentinel, .sentinel, .sentinel, .sentinel, .sentinel, .sentinel, .sentinel, .sentinel, .sentinel], laidTests := true, laidLooks := .later }
def FnBackwardsCardSaid : Prop := Claim7.holds Tryd.pinned (.plain (OpenSpec.ofChange fnBackwardsSpec)) fnBackwardsCard

/-- THE TIED CARD OF 'laws.FnBitAvailable'. -/
def fnBitAvailableCard : Claim7 := { stood := { row := fnBitAvailableRow, standIns := [], harness := (true, "0eceb0d75d02be645b263d4f8bc301d5a21db3bd98eebe313cab0aa2876e4dea"), looks := true }, kinds := [], alts := [], laidByText := true, laidKinds := [.sentinel, .sentinel, .sentinel, .sentinel, .sentinel, .sentinel, .sentinel, .sentinel, .sentinel, .sentinel], laidTests := true, laidLooks := .later }
def FnBitAvailableCardSaid : Prop := Claim7.holds Tryd.pinned (.plain (OpenSpec.ofChange fnBitAvailableSpec)) fnBitAvailableCard

/-- THE TIED CARD OF 'laws.FnBitCut'. -/
def fnBitCutCard : Claim7 := { stood := { row := fnBitCutRow, standIns := [], harness := (true, "0eceb0d75d02be645b263d4f8bc301d5a21db3bd98eebe313cab0aa2876e4dea"), looks := true }, kinds := [], alts := [], laidByText := true, laidKinds := [.sentinel, .sentinel, .sentinel, .sentinel, .sentinel, .sentinel, .sentinel, .sentinel, .sentinel, .sentinel], laidTests := true, laidLooks := .later }
def FnBitCutCardSaid : Prop := Claim7.holds Tryd.pinned (.plain (OpenSpec.ofChange fnBitCutSpec)) fnBitCutCard

/-- THE TIED CARD OF 'laws.FnBitResponse'. -/
def fnBitResponseCard : Claim7 := { stood := { row := fnBitResponseRow, standIns := [], harness := (true, "0eceb0d75d02be645b263d4f8bc301d5a21db3bd98eebe313cab0aa2876e4dea"), looks := true }, kinds := [], alts := [], laidByText := true, laidKinds := [.sentinel, .sentinel, .sentinel, .sentinel, .sentinel, .sentinel, .sentinel, .sentinel, .sentinel, .sentinel], laidTests := true, laidLooks := .later }
def FnBitResponseCardSaid : Prop := Claim7.holds Tryd.pinned (.plain (OpenSpec.ofChange fnBitResponseSpec)) fnBitResponseCard

/-- THE TIED CARD OF 'laws.FnBitUnchecked'. -/
def fnBitUncheckedCard : Claim7 := { stood := { row := fnBitUncheckedRow, standIns := [], harness := (true, "0eceb0d75d02be645b263d4f8bc301d5a21db3bd98eebe313cab0aa2876e4dea"), looks := true }, kinds := [], alts := [], laidByText := true, laidKinds := [.sentinel, .sentinel, .sentinel, .sentinel, .sentinel, .sentinel, .sentinel, .sentinel, .sentinel, .sentinel], laidTests := true, laidLooks := .later }
def FnBitUncheckedCardSaid : Prop := Claim7.holds Tryd.pinned (.plain (OpenSpec.ofChange fnBitUncheckedSpec)) fnBitUncheckedCard

/-- THE TIED CARD OF 'laws.FnHeadBuf'. -/
def fnHeadBufCard : Claim7 := { stood := { row := fnHeadBufRow, standIns := [], harness := (true, "0eceb0d75d02be645b263d4f8bc301d5a21db3bd98eebe313cab0aa2876e4dea"), looks := true }, kinds := [], alts := [], laidByText := true, laidKinds := [.sentinel, .sentinel, .sentinel, .sentinel, .sentinel, .sentinel, .sentinel, .sentinel, .sentinel, .sentinel], laidTests := true, laidLooks := .later }
def FnHeadBufCardSaid : Prop := Claim7.holds Tryd.pinned (.plain (OpenSpec.ofChange fnHeadBufSpec)) fnHeadBufCard

/-- THE TIED CARD OF 'laws.FnLateAsk'. -/
def fnLateAskCard : Claim7 := { stood := { row := fnLateAskRow, standIns := [], harness := (true, "0eceb0d75d02be645b263d4f8bc301d5a21db3bd98eebe313cab0aa2876e4dea"), looks := true }, kinds := [], alts := [], laidByText := true, laidKinds := [.sentinel, .sentinel, .sentinel, .sentinel, .sentinel, .sentinel, .sentinel, .sentinel, .sentinel, .sentinel], laidTests := true, laidLooks := .later }
def FnLateAskCardSaid : Prop := Claim7.holds Tryd.pinned (.plain (OpenSpec.ofChange fnLateAskSpec)) fnLateAskCard

/-- THE TIED CARD OF 'laws.FnShortAsks'. -/
def fnShortAsksCard : Claim7 := { stood := { row := fnShortAsksRow, standIns := [], harness := (true, "0eceb0d75d02be645b263d4f8bc301d5a21db3bd98eebe313cab0aa2876e4dea"), looks := true }, kinds := [], alts := [], laidByText := true, laidKinds := [.sentinel, .sentinel, .sentinel, .sentinel, .sentinel, .sentinel, .sentinel, .sentinel, .sentinel, .sentinel], laidTests := true, laidLooks := .later }
def FnShortAsksCardSaid : Prop := Claim7.holds Tryd.pinned (.plain (OpenSpec.ofChange fnShortAsksSpec)) fnShortAsksCard

/-- THE SECOND FORM's CARD OF 'laws.FnAsksTwice'. -/
def fnAsksTwiceUptoCard : Claim7 := { stood := { row := fnAsksTwiceUptoRow, standIns := [], harness := (true, "0eceb0d75d02be645b263d4f8bc301d5a21db3bd98eebe313cab0aa2876e4dea"), looks := true }, kinds := [], alts := [], laidByText := true, laidKinds := [.sentinel, .sentinel, .sentinel, .sentinel, .sentinel, .sentinel, .sentinel, .sentinel, .sentinel, .sentinel], laidTests := true, laidLooks := .later }
def FnAsksTwiceUptoCardSaid : Prop := Claim7.holds Tryd.pinned (.plain (OpenSpec.upto fnAsksTwiceSpec)) fnAsksTwiceUptoCard

/-- THE SECOND FORM's CARD OF 'laws.FnBackwards'. -/
def fnBackwardsUptoCard : Claim7 := { stood := { row := fnBackwardsUptoRow, standIns := [], harness := (true, "0eceb0d75d02be645b263d4f8bc301d5a21db3bd98eebe313cab0aa2876e4dea"), looks := true }, kinds := [], alts := [], laidByText := true, laidKinds := [.sentinel, .sentinel, .sentinel, .sentinel, .sentinel, .sentinel, .sentinel, .sentinel, .sentinel, .sentinel], laidTests := true, laidLooks := .later }
def FnBackwardsUptoCardSaid : Prop := Claim7.holds Tryd.pinned (.plain (OpenSpec.upto fnBackwardsSpec)) fnBackwardsUptoCard

/-- THE SECOND FORM's CARD OF 'laws.FnBitAvailable'. -/
def fnBitAvailableUptoCard : Claim7 := { stood := { row := fnBitAvailableUptoRow, standIns := [], harness := (true, "0eceb0d75d02be645b263d4f8bc301d5a21db3bd98eebe313cab0aa2876e4dea"), looks := true }, kinds := [], alts := [], laidByText := true, laidKinds := [.sentinel, .sentinel, .sentinel, .sentinel, .sentinel, .sentinel, .sentinel, .sentinel, .sentinel, .sentinel], laidTests := true, laidLooks := .later }
def FnBitAvailableUptoCardSaid : Prop := Claim7.holds Tryd.pinned (.plain (OpenSpec.upto fnBitAvailableSpec)) fnBitAvailableUptoCard

/-- THE SECOND FORM's CARD OF 'laws.FnBitCut'. -/
def fnBitCutUptoCard : Claim7 := { stood := { row := fnBitCutUptoRow, standIns := [], harness := (true, "0eceb0d75d02be645b263d4f8bc301d5a21db3bd98eebe313cab0aa2876e4dea"), looks := true }, kinds := [], alts := [], laidByText := true, laidKinds := [.sentinel, .sentinel, .sentinel, .sentinel, .sentinel, .sentinel, .sentinel, .sentinel, .sentinel, .sentinel], laidTests := true, laidLooks := .later }
def FnBitCutUptoCardSaid : Prop := Claim7.holds Tryd.pinned (.plain (OpenSpec.upto fnBitCutSpec)) fnBitCutUptoCard

/-- THE SECOND FORM's CARD OF 'laws.FnBitResponse'. -/
def fnBitResponseUptoCard : Claim7 := { stood := { row := fnBitResponseUptoRow, standIns := [], harness := (true, "0eceb0d75d02be645b263d4f8bc301d5a21db3bd98eebe313cab0aa2876e4dea"), looks := true }, kinds := [], alts := [], laidByText := true, laidKinds := [.sentinel, .sentinel, .sentinel, .sentinel, .sentinel, .sentinel, .sentinel, .sentinel, .sentinel, .sentinel], laidTests := true, laidLooks := .later }
def FnBitResponseUptoCardSaid : Prop := Claim7.holds Tryd.pinned (.plain (OpenSpec.upto fnBitResponseSpec)) fnBitResponseUptoCard

/-- THE SECOND FORM's CARD OF 'laws.FnBitUnchecked'. -/
def fnBitUncheckedUptoCard : Claim7 := { stood := { row := fnBitUncheckedUptoRow, standIns := [], harness := (true, "0eceb0d75d02be645b263d4f8bc301d5a21db3bd98eebe313cab0aa2876e4dea"), looks := true }, kinds := [], alts := [], laidByText := true, laidKinds := [.sentinel, .sentinel, .sentinel, .sentinel, .sentinel, .sentinel, .sentinel, .sentinel, .sentinel, .sentinel], laidTests := true, laidLooks := .later }
def FnBitUncheckedUptoCardSaid : Prop := Claim7.holds Tryd.pinned (.plain (OpenSpec.upto fnBitUncheckedSpec)) fnBitUncheckedUptoCard

/-- THE SECOND FORM's CARD OF 'laws.FnHeadBuf'. -/
def fnHeadBufUptoCard : Claim7 := { stood := { row := fnHeadBufUptoRow, standIns := [], harness := (true, "0eceb0d75d02be645b263d4f8bc301d5a21db3bd98eebe313cab0aa2876e4dea"), looks := true }, kinds := [], alts := [], laidByText := true, laidKinds := [.sentinel, .sentinel, .sentinel, .sentinel, .sentinel, .sentinel, .sentinel, .sentinel, .sentinel, .sentinel], laidTests := true, laidLooks := .later }
def FnHeadBufUptoCardSaid : Prop := Claim7.holds Tryd.pinned (.plain (OpenSpec.upto fnHeadBufSpec)) fnHeadBufUptoCard

/-- THE SECOND FORM's CARD OF 'laws.FnLateAsk'. -/
def fnLateAskUptoCard : Claim7 := { stood := { row := fnLateAskUptoRow, standIns := [], harness := (true, "0eceb0d75d02be645b263d4f8bc301d5a21db3bd98eebe313cab0aa2876e4dea"), looks := true }, kinds := [], alts := [], laidByText := true, laidKinds := [.sentinel, .sentinel, .sentinel, .sentinel, .sentinel, .sentinel, .sentinel, .sentinel, .sentinel, .sentinel], laidTests := true, laidLooks := .later }
def FnLateAskUptoCardSaid : Prop := Claim7.holds Tryd.pinned (.plain (OpenSpec.upto fnLateAskSpec)) fnLateAskUptoCard

/-- THE SECOND FORM's CARD OF 'laws.FnShortAsks'. -/
def fnShortAsksUptoCard : Claim7 := { stood := { row := fnShortAsksUptoRow, standIns := [], harness := (true, "0eceb0d75d02be645b263d4f8bc301d5a21db3bd98eebe313cab0aa2876e4dea"), looks := true }, kinds := [], alts := [], laidByText := true, laidKinds := [.sentinel, .sentinel, .sentinel, .sentinel, .sentinel, .sentinel, .sentinel, .sentinel, .sentinel, .sentinel], laidTests := true, laidLooks := .later }
def FnShortAsksUptoCardSaid : Prop := Claim7.holds Tryd.pinned (.plain (OpenSpec.upto fnShortAsksSpec)) fnShortAsksUptoCard
end Rows
end Go.Proofs.YtkhghacfhlociaaDoor
