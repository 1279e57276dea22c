/-
  DERIVED. GIVEN WITH THE SEED: THE CARDS: each row of YtgnogcijdkoonaaDoorRows.lean that lists a variable, with what it lists TIED to the program's text (the seventh form; the later family's looks); each row that meets fmt, with fmt's text TOLD by the authors' own Lean function (tested against real Go, not proved from fmt's source: count such statements apart). THE CARD IS WHAT COUNTS. Prove the row's statement (the work); the ties are given (YtgnogcijdkoonaaDoorTie.lean); close each card by the builder's one call (the guide's Derived/Test/ToyasCard.lean, 'card_holds'). Laid BY PROGRAM, IN A SANDBOX (cutbox-door.mjs). By AI agents, Wed Nov 11 2026. No macro, syntax, notation, axiom, sorry.
-/
import Derived.Test.YtgnogcijdkoonaaDoorRows
import GoSem.ClaimSeven
namespace Go.Proofs.YtgnogcijdkoonaaDoor
namespace Rows

/-- THE TIED CARD OF 'laws.FnNameText'. -/
def fnNameTextCard : Claim7 := { stood := { row := fnNameTextRow, standIns := [], harness := (true, "0fe157fca1026a3e874a995a325a86a7ca71a9f50767ae5b1a3a53f825cf8900"), looks := true }, kinds := [], alts := [], laidByText := true, laidKinds := [.sentinel], laidTests := true, laidLooks := .later }
def FnNameTextCardSaid : Prop := Claim7.holds Tryd.pinned (.plain (OpenSpec.ofChange fnNameTextSpec)) fnNameTextCard

/-- THE TIED CARD OF 'laws.FnBackwards'. -/
def fnBackwardsCard : Claim7 := { stood := { row := fnBackwardsRow, standIns := [], harness := (true, "0fe157fca1026a3e874a995a325a86a7ca71a9f50767ae5b1a3a53f825cf8900"), looks := true }, kinds := [], alts := [], laidByText := true, laidKinds := [.sentinel, .sentinel, .sentinel, .sentinel, .sentinel, .sentinel, .sentinel, .sentinel, .sentinel, .sentinel], laidTests := true, laidLooks := .later }
def FnBackwardsCardSaid : Prop := Claim7.holds Tryd.pinned (.plain (OpenSpec.ofChange fnBackwardsSpec)) fnBackwardsCard

/-- THE TIED CARD OF 'laws.FnHeadBuf'. -/
def fnHeadBufCard : Claim7 := { stood := { row := fnHeadBufRow, standIns := [], harness := (true, "0fe157fca1026a3e874a995a325a86a7ca71a9f50767ae5b1a3a53f825cf8900"), looks := true }, kinds := [], alts := [], laidByText := true, laidKinds := [.sentinel, .sentinel, .sentinel, .sentinel, .sentinel, .sentinel, .sentinel, .sentinel, .sentinel, .sentinel], laidTests := true, laidLooks := .later }
def FnHeadBufCardSaid : Prop := Claim7.holds Tryd.pinned (.plain (OpenSpec.ofChange fnHeadBufSpec)) fnHeadBufCard

/-- THE TIED CARD OF 'laws.FnLateAsk'. -/
def fnLateAskCard : Claim7 := { stood := { row := fnLateAskRow, standIns := [], harness := (true, "0fe157fca1026a3e874a995a325a86a7ca71a9f50767ae5b1a3a53f825cf8900"), looks := true }, kinds := [], alts := [], laidByText := true, laidKinds := [.sentinel, .sentinel, .sentinel, .sentinel, .sentinel, .sentinel, .sentinel, .sentinel, .sentinel, .sentinel], laidTests := true, laidLooks := .later }
def FnLateAskCardSaid : Prop := Claim7.holds Tryd.pinned (.plain (OpenSpec.ofChange fnLateAskSpec)) fnLateAskCard

/-- THE TIED CARD OF 'laws.FnShortAsks'. -/
def fnShortAsksCard : Claim7 := { stood := { row := fnShortAsksRow, standIns := [], harness := (true, "0fe157fca1026a3e874a995a325a86a7ca71a9f50767ae5b1a3a53f825cf8900"), looks := true }, kinds := [], alts := [], laidByText := true, laidKinds := [.sentinel, .sentinel, .sentinel, .sentinel, .sentinel, .sentinel, .sentinel, .sentinel, .sentinel, .sentinel], laidTests := true, laidLooks := .later }
def FnShortAsksCardSaid : Prop := Claim7.holds Tryd.pinned (.plain (OpenSpec.ofChange fnShortAsksSpec)) fnShortAsksCard

/-- THE TIED CARD OF 'laws.FnFarPointers'. -/
def fnFarPointersCard : Claim7 := { stood := { row := fnFarPointersRow, standIns := [], harness := (true, "0fe157fca1026a3e874a995a325a86a7ca71a9f50767ae5b1a3a53f825cf8900"), looks := true }, kinds := [], alts := [], laidByText := true, laidKinds := [.sentinel, .sentinel, .sentinel, .sentinel, .sentinel, .sentinel, .sentinel, .sentinel, .sentinel, .sentinel, .sentinel], laidTests := true, laidLooks := .later }
def FnFarPointersCardSaid : Prop := Claim7.holds Tryd.pinned (.plain (OpenSpec.ofChange fnFarPointersSpec)) fnFarPointersCard

/-- THE TIED CARD OF 'laws.FnBehindSOA'. -/
def fnBehindSOACard : Claim7 := { stood := { row := fnBehindSOARow, standIns := [], harness := (true, "0fe157fca1026a3e874a995a325a86a7ca71a9f50767ae5b1a3a53f825cf8900"), looks := true }, kinds := [], alts := [], laidByText := true, laidKinds := [.sentinel, .sentinel, .sentinel, .sentinel, .sentinel, .sentinel, .sentinel, .sentinel, .sentinel, .sentinel, .sentinel], laidTests := true, laidLooks := .later }
def FnBehindSOACardSaid : Prop := Claim7.holds Tryd.pinned (.plain (OpenSpec.ofChange fnBehindSOASpec)) fnBehindSOACard

/-- THE TIED CARD OF 'laws.FnBoxSOA'. -/
def fnBoxSOACard : Claim7 := { stood := { row := fnBoxSOARow, standIns := [], harness := (true, "0fe157fca1026a3e874a995a325a86a7ca71a9f50767ae5b1a3a53f825cf8900"), looks := true }, kinds := [], alts := [], laidByText := true, laidKinds := [.sentinel, .sentinel, .sentinel, .sentinel, .sentinel, .sentinel, .sentinel, .sentinel, .sentinel, .sentinel, .sentinel], laidTests := true, laidLooks := .later }
def FnBoxSOACardSaid : Prop := Claim7.holds Tryd.pinned (.plain (OpenSpec.ofChange fnBoxSOASpec)) fnBoxSOACard

/-- THE TIED CARD OF 'laws.FnEarlySOA'. -/
def fnEarlySOACard : Claim7 := { stood := { row := fnEarlySOARow, standIns := [], harness := (true, "0fe157fca1026a3e874a995a325a86a7ca71a9f50767ae5b1a3a53f825cf8900"), looks := true }, kinds := [], alts := [], laidByText := true, laidKinds := [.sentinel, .sentinel, .sentinel, .sentinel, .sentinel, .sentinel, .sentinel, .sentinel, .sentinel, .sentinel, .sentinel], laidTests := true, laidLooks := .later }
def FnEarlySOACardSaid : Prop := Claim7.holds Tryd.pinned (.plain (OpenSpec.ofChange fnEarlySOASpec)) fnEarlySOACard

/-- THE TIED CARD OF 'laws.FnHostSOA'. -/
def fnHostSOACard : Claim7 := { stood := { row := fnHostSOARow, standIns := [], harness := (true, "0fe157fca1026a3e874a995a325a86a7ca71a9f50767ae5b1a3a53f825cf8900"), looks := true }, kinds := [], alts := [], laidByText := true, laidKinds := [.sentinel, .sentinel, .sentinel, .sentinel, .sentinel, .sentinel, .sentinel, .sentinel, .sentinel, .sentinel, .sentinel], laidTests := true, laidLooks := .later }
def FnHostSOACardSaid : Prop := Claim7.holds Tryd.pinned (.plain (OpenSpec.ofChange fnHostSOASpec)) fnHostSOACard

/-- THE TIED CARD OF 'laws.FnPlainSOA'. -/
def fnPlainSOACard : Claim7 := { stood := { row := fnPlainSOARow, standIns := [], harness := (true, "0fe157fca1026a3e874a995a325a86a7ca71a9f50767ae5b1a3a53f825cf8900"), looks := true }, kinds := [], alts := [], laidByText := true, laidKinds := [.sentinel, .sentinel, .sentinel, .sentinel, .sentinel, .sentinel, .sentinel, .sentinel, .sentinel, .sentinel, .sentinel], laidTests := true, laidLooks := .later }
def FnPlainSOACardSaid : Prop := Claim7.holds Tryd.pinned (.plain (OpenSpec.ofChange fnPlainSOASpec)) fnPlainSOACard

/-- THE SECOND FORM's CARD OF 'laws.FnNameText'. -/
def fnNameTextUptoCard : Claim7 := { stood := { row := fnNameTextUptoRow, standIns := [], harness := (true, "0fe157fca1026a3e874a995a325a86a7ca71a9f50767ae5b1a3a53f825cf8900"), looks := true }, kinds := [], alts := [], laidByText := true, laidKinds := [.sentinel], laidTests := true, laidLooks := .later }
def FnNameTextUptoCardSaid : Prop := Claim7.holds Tryd.pinned (.plain (OpenSpec.upto fnNameTextSpec)) fnNameTextUptoCard

/-- THE SECOND FORM's CARD OF 'laws.FnBackwards'. -/
def fnBackwardsUptoCard : Claim7 := { stood := { row := fnBackwardsUptoRow, standIns := [], harness := (true, "0fe157fca1026a3e874a995a325a86a7ca71a9f50767ae5b1a3a53f825cf8900"), looks := true }, kinds := [], alts := [], laidByText := true, laidKinds := [.sentinel, .sentinel, .sentinel, .sentinel, .sentinel, .sentinel, .sentinel, .sentinel, .sentinel, .sentinel], laidTests := true, laidLooks := .later }
def FnBackwardsUptoCardSaid : Prop := Claim7.holds Tryd.pinned (.plain (OpenSpec.upto fnBackwardsSpec)) fnBackwardsUptoCard

/-- THE SECOND FORM's CARD OF 'laws.FnHeadBuf'. -/
def fnHeadBufUptoCard : Claim7 := { stood := { row := fnHeadBufUptoRow, standIns := [], harness := (true, "0fe157fca1026a3e874a995a325a86a7ca71a9f50767ae5b1a3a53f825cf8900"), looks := true }, kinds := [], alts := [], laidByText := true, laidKinds := [.sentinel, .sentinel, .sentinel, .sentinel, .sentinel, .sentinel, .sentinel, .sentinel, .sentinel, .sentinel], laidTests := true, laidLooks := .later }
def FnHeadBufUptoCardSaid : Prop := Claim7.holds Tryd.pinned (.plain (OpenSpec.upto fnHeadBufSpec)) fnHeadBufUptoCard

/-- THE SECOND FORM's CARD OF 'laws.FnLateAsk'. -/
def fnLateAskUptoCard : Claim7 := { stood := { row := fnLateAskUptoRow, standIns := [], harness := (true, "0fe157fca1026a3e874a995a325a86a7ca71a9f50767ae5b1a3a53f825cf8900"), looks := true }, kinds := [], alts := [], laidByText := true, laidKinds := [.sentinel, .sentinel, .sentinel, .sentinel, .sentinel, .sentinel, .sentinel, .sentinel, .sentinel, .sentinel], laidTests := true, laidLooks := .later }
def FnLateAskUptoCardSaid : Prop := Claim7.holds Tryd.pinned (.plain (OpenSpec.upto fnLateAskSpec)) fnLateAskUptoCard

/-- THE SECOND FORM's CARD OF 'laws.FnShortAsks'. -/
def fnShortAsksUptoCard : Claim7 := { stood := { row := fnShortAsksUptoRow, standIns := [], harness := (true, "0fe157fca1026a3e874a995a325a86a7ca71a9f50767ae5b1a3a53f825cf8900"), looks := true }, kinds := [], alts := [], laidByText := true, laidKinds := [.sentinel, .sentinel, .sentinel, .sentinel, .sentinel, .sentinel, .sentinel, .sentinel, .sentinel, .sentinel], laidTests := true, laidLooks := .later }
def FnShortAsksUptoCardSaid : Prop := Claim7.holds Tryd.pinned (.plain (OpenSpec.upto fnShortAsksSpec)) fnShortAsksUptoCard

/-- THE SECOND FORM's CARD OF 'laws.FnFarPointers'. -/
def fnFarPointersUptoCard : Claim7 := { stood := { row := fnFarPointersUptoRow, standIns := [], harness := (true, "0fe157fca1026a3e874a995a325a86a7ca71a9f50767ae5b1a3a53f825cf8900"), looks := true }, kinds := [], alts := [], laidByText := true, laidKinds := [.sentinel, .sentinel, .sentinel, .sentinel, .sentinel, .sentinel, .sentinel, .sentinel, .sentinel, .sentinel, .sentinel], laidTests := true, laidLooks := .later }
def FnFarPointersUptoCardSaid : Prop := Claim7.holds Tryd.pinned (.plain (OpenSpec.upto fnFarPointersSpec)) fnFarPointersUptoCard

/-- THE SECOND FORM's CARD OF 'laws.FnBehindSOA'. -/
def fnBehindSOAUptoCard : Claim7 := { stood := { row := fnBehindSOAUptoRow, standIns := [], harness := (true, "0fe157fca1026a3e874a995a325a86a7ca71a9f50767ae5b1a3a53f825cf8900"), looks := true }, kinds := [], alts := [], laidByText := true, laidKinds := [.sentinel, .sentinel, .sentinel, .sentinel, .sentinel, .sentinel, .sentinel, .sentinel, .sentinel, .sentinel, .sentinel], laidTests := true, laidLooks := .later }
def FnBehindSOAUptoCardSaid : Prop := Claim7.holds Tryd.pinned (.plain (OpenSpec.upto fnBehindSOASpec)) fnBehindSOAUptoCard

/-- THE SECOND FORM's CARD OF 'laws.FnBoxSOA'. -/
def fnBoxSOAUptoCard : Claim7 := { stood := { row := fnBoxSOAUptoRow, standIns := [], harness := (true, "0fe157fca1026a3e874a995a325a86a7ca71a9f50767ae5b1a3a53f825cf8900"), looks := true }, kinds := [], alts := [], laidByText := true, laidKinds := [.sentinel, .sentinel, .sentinel, .sentinel, .sentinel, .sentinel, .sentinel, .sentinel, .sentinel, .sentinel, .sentinel], laidTests := true, laidLooks := .later }
def FnBoxSOAUptoCardSaid : Prop := Claim7.holds Tryd.pinned (.plain (OpenSpec.upto fnBoxSOASpec)) fnBoxSOAUptoCard

/-- THE SECOND FORM's CARD OF 'laws.FnEarlySOA'. -/
def fnEarlySOAUptoCard : Claim7 := { stood := { row := fnEarlySOAUptoRow, standIns := [], harness := (true, "0fe157fca1026a3e874a995a325a86a7ca71a9f50767ae5b1a3a53f825cf8900"), looks := true }, kinds := [], alts := [], laidByText := true, laidKinds := [.sentinel, .sentinel, .sentinel, .sentinel, .sentinel, .sentinel, .sentinel, .sentinel, .sentinel, .sentinel, .sentinel], laidTests := true, laidLooks := .later }
def FnEarlySOAUptoCardSaid : Prop := Claim7.holds Tryd.pinned (.plain (OpenSpec.upto fnEarlySOASpec)) fnEarlySOAUptoCard

/-- THE SECOND FORM's CARD OF 'laws.FnHostSOA'. -/
def fnHostSOAUptoCard : Claim7 := { stood := { row := fnHostSOAUptoRow, standIns := [], harness := (true, "0fe157fca1026a3e874a995a325a86a7ca71a9f50767ae5b1a3a53f825cf8900"), looks := true }, kinds := [], alts := [], laidByText := true, laidKinds := [.sentinel, .sentinel, .sentinel, .sentinel, .sentinel, .sentinel, .sentinel, .sentinel, .sentinel, .sentinel, .sentinel], laidTests := true, laidLooks := .later }
def FnHostSOAUptoCardSaid : Prop := Claim7.holds Tryd.pinned (.plain (OpenSpec.upto fnHostSOASpec)) fnHostSOAUptoCard

/-- THE SECOND FORM's CARD OF 'laws.FnPlainSOA'. -/
def fnPlainSOAUptoCard : Claim7 := { stood := { row := fnPlainSOAUptoRow, standIns := [], harness := (true, "0fe157fca1026a3e874a995a325a86a7ca71a9f50767ae5b1a3a53f825cf8900"), looks := true }, kinds := [], alts := [], laidByText := true, laidKinds := [.sentinel, .sentinel, .sentinel, .sentinel, .sentinel, .sentinel, .sentinel, .sentinel, .sentinel, .sentinel, .sentinel], laidTests := true, laidLooks := .later }
def FnPlainSOAUptoCardSaid : Prop := Claim7.holds Tryd.pinned (.plain (OpenSpec.upto fnPlainSOASpec)) fnPlainSOAUptoCard
end Rows
end Go.Proofs.YtgnogcijdkoonaaDoor
