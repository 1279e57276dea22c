/-
  DERIVED. GIVEN WITH THE SEED: THE CARDS: each row of YtcbjfjifnnpfpaaDoorRows.lean that lists a variable, with what it lists TIED to the program's text (the seventh form; the later family's looks); each row that meets fmt, with fmt's text TOLD by the authors' own Lean function (tested against real Go, not proved from fmt's source: count such statements apart). THE CARD IS WHAT COUNTS. Prove the row's statement (the work); the ties are given (YtcbjfjifnnpfpaaDoorTie.lean); close each card by the builder's one call (the guide's Derived/Test/ToyasCard.lean, 'card_holds'). Laid BY PROGRAM, IN A SANDBOX (cutbox-door.mjs). By AI agents, Wed Nov 11 2026. No macro, syntax, notation, axiom, sorry.
-/
import Derived.Test.YtcbjfjifnnpfpaaDoorRows
import GoSem.ClaimSeven
namespace Go.Proofs.YtcbjfjifnnpfpaaDoor
namespace Rows

/-- THE TIED CARD OF 'laws.FnBehindUnknown'. -/
def fnBehindUnknownCard : Claim7 := { stood := { row := fnBehindUnknownRow, standIns := [], harness := (true, "cdec7a77e508f291e071a3dad59b310003f7571a25841e64b94a90660add8b87"), looks := true }, kinds := [], alts := [], laidByText := true, laidKinds := [.sentinel, .sentinel, .sentinel, .sentinel, .sentinel, .sentinel, .sentinel, .sentinel, .sentinel, .sentinel, .sentinel], laidTests := true, laidLooks := .later }
def FnBehindUnknownCardSaid : Prop := Claim7.holds Tryd.pinned (.plain (OpenSpec.ofChange fnBehindUnknownSpec)) fnBehindUnknownCard

/-- THE TIED CARD OF 'laws.FnEarlyUnknown'. -/
def fnEarlyUnknownCard : Claim7 := { stood := { row := fnEarlyUnknownRow, standIns := [], harness := (true, "cdec7a77e508f291e071a3dad59b310003f7571a25841e64b94a90660add8b87"), looks := true }, kinds := [], alts := [], laidByText := true, laidKinds := [.sentinel, .sentinel, .sentinel, .sentinel, .sentinel, .sentinel, .sentinel, .sentinel, .sentinel, .sentinel, .sentinel], laidTests := true, laidLooks := .later }
def FnEarlyUnknownCardSaid : Prop := Claim7.holds Tryd.pinned (.plain (OpenSpec.ofChange fnEarlyUnknownSpec)) fnEarlyUnknownCard

/-- THE TIED CARD OF 'laws.FnFarPointers'. -/
def fnFarPointersCard : Claim7 := { stood := { row := fnFarPointersRow, standIns := [], harness := (true, "cdec7a77e508f291e071a3dad59b310003f7571a25841e64b94a90660add8b87"), looks := true }, kinds := [], alts := [], laidByText := true, laidKinds := [.sentinel, .sentinel, .sentinel, .sentinel, .sentinel, .sentinel, .sentinel, .sentinel, .sentinel, .sentinel, .sentinel], laidTests := true, laidLooks := .later }
def FnFarPointersCardSaid : Prop := Claim7.holds Tryd.pinned (.plain (OpenSpec.ofChange fnFarPointersSpec)) fnFarPointersCard

/-- THE TIED CARD OF 'laws.FnPlainUnknown'. -/
def fnPlainUnknownCard : Claim7 := { stood := { row := fnPlainUnknownRow, standIns := [], harness := (true, "cdec7a77e508f291e071a3dad59b310003f7571a25841e64b94a90660add8b87"), looks := true }, kinds := [], alts := [], laidByText := true, laidKinds := [.sentinel, .sentinel, .sentinel, .sentinel, .sentinel, .sentinel, .sentinel, .sentinel, .sentinel, .sentinel, .sentinel], laidTests := true, laidLooks := .later }
def FnPlainUnknownCardSaid : Prop := Claim7.holds Tryd.pinned (.plain (OpenSpec.ofChange fnPlainUnknownSpec)) fnPlainUnknownCard

/-- THE TIED CARD OF 'laws.FnTooLong'. -/
def fnTooLongCard : Claim7 := { stood := { row := fnTooLongRow, standIns := [], harness := (true, "cdec7a77e508f291e071a3dad59b310003f7571a25841e64b94a90660add8b87"), looks := true }, kinds := [], alts := [], laidByText := true, laidKinds := [.sentinel, .sentinel, .sentinel, .sentinel, .sentinel, .sentinel, .sentinel, .sentinel, .sentinel, .sentinel, .sentinel], laidTests := true, laidLooks := .later }
def FnTooLongCardSaid : Prop := Claim7.holds Tryd.pinned (.plain (OpenSpec.ofChange fnTooLongSpec)) fnTooLongCard

/-- THE TIED CARD OF 'laws.FnBehindA'. -/
def fnBehindACard : Claim7 := { stood := { row := fnBehindARow, standIns := [], harness := (true, "cdec7a77e508f291e071a3dad59b310003f7571a25841e64b94a90660add8b87"), looks := true }, kinds := [], alts := [], laidByText := true, laidKinds := [.sentinel, .sentinel, .sentinel, .sentinel, .sentinel, .sentinel, .sentinel, .sentinel, .sentinel, .sentinel, .sentinel], laidTests := true, laidLooks := .later }
def FnBehindACardSaid : Prop := Claim7.holds Tryd.pinned (.plain (OpenSpec.ofChange fnBehindASpec)) fnBehindACard

/-- THE TIED CARD OF 'laws.FnEarlyA'. -/
def fnEarlyACard : Claim7 := { stood := { row := fnEarlyARow, standIns := [], harness := (true, "cdec7a77e508f291e071a3dad59b310003f7571a25841e64b94a90660add8b87"), looks := true }, kinds := [], alts := [], laidByText := true, laidKinds := [.sentinel, .sentinel, .sentinel, .sentinel, .sentinel, .sentinel, .sentinel, .sentinel, .sentinel, .sentinel, .sentinel], laidTests := true, laidLooks := .later }
def FnEarlyACardSaid : Prop := Claim7.holds Tryd.pinned (.plain (OpenSpec.ofChange fnEarlyASpec)) fnEarlyACard

/-- THE TIED CARD OF 'laws.FnPlainA'. -/
def fnPlainACard : Claim7 := { stood := { row := fnPlainARow, standIns := [], harness := (true, "cdec7a77e508f291e071a3dad59b310003f7571a25841e64b94a90660add8b87"), looks := true }, kinds := [], alts := [], laidByText := true, laidKinds := [.sentinel, .sentinel, .sentinel, .sentinel, .sentinel, .sentinel, .sentinel, .sentinel, .sentinel, .sentinel, .sentinel], laidTests := true, laidLooks := .later }
def FnPlainACardSaid : Prop := Claim7.holds Tryd.pinned (.plain (OpenSpec.ofChange fnPlainASpec)) fnPlainACard

/-- THE TIED CARD OF 'laws.FnBehindAAAA'. -/
def fnBehindAAAACard : Claim7 := { stood := { row := fnBehindAAAARow, standIns := [], harness := (true, "cdec7a77e508f291e071a3dad59b310003f7571a25841e64b94a90660add8b87"), looks := true }, kinds := [], alts := [], laidByText := true, laidKinds := [.sentinel, .sentinel, .sentinel, .sentinel, .sentinel, .sentinel, .sentinel, .sentinel, .sentinel, .sentinel, .sentinel], laidTests := true, laidLooks := .later }
def FnBehindAAAACardSaid : Prop := Claim7.holds Tryd.pinned (.plain (OpenSpec.ofChange fnBehindAAAASpec)) fnBehindAAAACard

/-- THE TIED CARD OF 'laws.FnEarlyAAAA'. -/
def fnEarlyAAAACard : Claim7 := { stood := { row := fnEarlyAAAARow, standIns := [], harness := (true, "cdec7a77e508f291e071a3dad59b310003f7571a25841e64b94a90660add8b87"), looks := true }, kinds := [], alts := [], laidByText := true, laidKinds := [.sentinel, .sentinel, .sentinel, .sentinel, .sentinel, .sentinel, .sentinel, .sentinel, .sentinel, .sentinel, .sentinel], laidTests := true, laidLooks := .later }
def FnEarlyAAAACardSaid : Prop := Claim7.holds Tryd.pinned (.plain (OpenSpec.ofChange fnEarlyAAAASpec)) fnEarlyAAAACard

/-- THE TIED CARD OF 'laws.FnPlainAAAA'. -/
def fnPlainAAAACard : Claim7 := { stood := { row := fnPlainAAAARow, standIns := [], harness := (true, "cdec7a77e508f291e071a3dad59b310003f7571a25841e64b94a90660add8b87"), looks := true }, kinds := [], alts := [], laidByText := true, laidKinds := [.sentinel, .sentinel, .sentinel, .sentinel, .sentinel, .sentinel, .sentinel, .sentinel, .sentinel, .sentinel, .sentinel], laidTests := true, laidLooks := .later }
def FnPlainAAAACardSaid : Prop := Claim7.holds Tryd.pinned (.plain (OpenSpec.ofChange fnPlainAAAASpec)) fnPlainAAAACard

/-- THE SECOND FORM's CARD OF 'laws.FnBehindUnknown'. -/
def fnBehindUnknownUptoCard : Claim7 := { stood := { row := fnBehindUnknownUptoRow, standIns := [], harness := (true, "cdec7a77e508f291e071a3dad59b310003f7571a25841e64b94a90660add8b87"), looks := true }, kinds := [], alts := [], laidByText := true, laidKinds := [.sentinel, .sentinel, .sentinel, .sentinel, .sentinel, .sentinel, .sentinel, .sentinel, .sentinel, .sentinel, .sentinel], laidTests := true, laidLooks := .later }
def FnBehindUnknownUptoCardSaid : Prop := Claim7.holds Tryd.pinned (.plain (OpenSpec.upto fnBehindUnknownSpec)) fnBehindUnknownUptoCard

/-- THE SECOND FORM's CARD OF 'laws.FnEarlyUnknown'. -/
def fnEarlyUnknownUptoCard : Claim7 := { stood := { row := fnEarlyUnknownUptoRow, standIns := [], harness := (true, "cdec7a77e508f291e071a3dad59b310003f7571a25841e64b94a90660add8b87"), looks := true }, kinds := [], alts := [], laidByText := true, laidKinds := [.sentinel, .sentinel, .sentinel, .sentinel, .sentinel, .sentinel, .sentinel, .sentinel, .sentinel, .sentinel, .sentinel], laidTests := true, laidLooks := .later }
def FnEarlyUnknownUptoCardSaid : Prop := Claim7.holds Tryd.pinned (.plain (OpenSpec.upto fnEarlyUnknownSpec)) fnEarlyUnknownUptoCard

/-- THE SECOND FORM's CARD OF 'laws.FnFarPointers'. -/
def fnFarPointersUptoCard : Claim7 := { stood := { row := fnFarPointersUptoRow, standIns := [], harness := (true, "cdec7a77e508f291e071a3dad59b310003f7571a25841e64b94a90660add8b87"), looks := true }, kinds := [], alts := [], laidByText := true, laidKinds := [.sentinel, .sentinel, .sentinel, .sentinel, .sentinel, .sentinel, .sentinel, .sentinel, .sentinel, .sentinel, .sentinel], laidTests := true, laidLooks := .later }
def FnFarPointersUptoCardSaid : Prop := Claim7.holds Tryd.pinned (.plain (OpenSpec.upto fnFarPointersSpec)) fnFarPointersUptoCard

/-- THE SECOND FORM's CARD OF 'laws.FnPlainUnknown'. -/
def fnPlainUnknownUptoCard : Claim7 := { stood := { row := fnPlainUnknownUptoRow, standIns := [], harness := (true, "cdec7a77e508f291e071a3dad59b310003f7571a25841e64b94a90660add8b87"), looks := true }, kinds := [], alts := [], laidByText := true, laidKinds := [.sentinel, .sentinel, .sentinel, .sentinel, .sentinel, .sentinel, .sentinel, .sentinel, .sentinel, .sentinel, .sentinel], laidTests := true, laidLooks := .later }
def FnPlainUnknownUptoCardSaid : Prop := Claim7.holds Tryd.pinned (.plain (OpenSpec.upto fnPlainUnknownSpec)) fnPlainUnknownUptoCard

/-- THE SECOND FORM's CARD OF 'laws.FnTooLong'. -/
def fnTooLongUptoCard : Claim7 := { stood := { row := fnTooLongUptoRow, standIns := [], harness := (true, "cdec7a77e508f291e071a3dad59b310003f7571a25841e64b94a90660add8b87"), looks := true }, kinds := [], alts := [], laidByText := true, laidKinds := [.sentinel, .sentinel, .sentinel, .sentinel, .sentinel, .sentinel, .sentinel, .sentinel, .sentinel, .sentinel, .sentinel], laidTests := true, laidLooks := .later }
def FnTooLongUptoCardSaid : Prop := Claim7.holds Tryd.pinned (.plain (OpenSpec.upto fnTooLongSpec)) fnTooLongUptoCard

/-- THE SECOND FORM's CARD OF 'laws.FnBehindA'. -/
def fnBehindAUptoCard : Claim7 := { stood := { row := fnBehindAUptoRow, standIns := [], harness := (true, "cdec7a77e508f291e071a3dad59b310003f7571a25841e64b94a90660add8b87"), looks := true }, kinds := [], alts := [], laidByText := true, laidKinds := [.sentinel, .sentinel, .sentinel, .sentinel, .sentinel, .sentinel, .sentinel, .sentinel, .sentinel, .sentinel, .sentinel], laidTests := true, laidLooks := .later }
def FnBehindAUptoCardSaid : Prop := Claim7.holds Tryd.pinned (.plain (OpenSpec.upto fnBehindASpec)) fnBehindAUptoCard

/-- THE SECOND FORM's CARD OF 'laws.FnEarlyA'. -/
def fnEarlyAUptoCard : Claim7 := { stood := { row := fnEarlyAUptoRow, standIns := [], harness := (true, "cdec7a77e508f291e071a3dad59b310003f7571a25841e64b94a90660add8b87"), looks := true }, kinds := [], alts := [], laidByText := true, laidKinds := [.sentinel, .sentinel, .sentinel, .sentinel, .sentinel, .sentinel, .sentinel, .sentinel, .sentinel, .sentinel, .sentinel], laidTests := true, laidLooks := .later }
def FnEarlyAUptoCardSaid : Prop := Claim7.holds Tryd.pinned (.plain (OpenSpec.upto fnEarlyASpec)) fnEarlyAUptoCard

/-- THE SECOND FORM's CARD OF 'laws.FnPlainA'. -/
def fnPlainAUptoCard : Claim7 := { stood := { row := fnPlainAUptoRow, standIns := [], harness := (true, "cdec7a77e508f291e071a3dad59b310003f7571a25841e64b94a90660add8b87"), looks := true }, kinds := [], alts := [], laidByText := true, laidKinds := [.sentinel, .sentinel, .sentinel, .sentinel, .sentinel, .sentinel, .sentinel, .sentinel, .sentinel, .sentinel, .sentinel], laidTests := true, laidLooks := .later }
def FnPlainAUptoCardSaid : Prop := Claim7.holds Tryd.pinned (.plain (OpenSpec.upto fnPlainASpec)) fnPlainAUptoCard

/-- THE SECOND FORM's CARD OF 'laws.FnBehindAAAA'. -/
def fnBehindAAAAUptoCard : Claim7 := { stood := { row := fnBehindAAAAUptoRow, standIns := [], harness := (true, "cdec7a77e508f291e071a3dad59b310003f7571a25841e64b94a90660add8b87"), looks := true }, kinds := [], alts := [], laidByText := true, laidKinds := [.sentinel, .sentinel, .sentinel, .sentinel, .sentinel, .sentinel, .sentinel, .sentinel, .sentinel, .sentinel, .sentinel], laidTests := true, laidLooks := .later }
def FnBehindAAAAUptoCardSaid : Prop := Claim7.holds Tryd.pinned (.plain (OpenSpec.upto fnBehindAAAASpec)) fnBehindAAAAUptoCard

/-- THE SECOND FORM's CARD OF 'laws.FnEarlyAAAA'. -/
def fnEarlyAAAAUptoCard : Claim7 := { stood := { row := fnEarlyAAAAUptoRow, standIns := [], harness := (true, "cdec7a77e508f291e071a3dad59b310003f7571a25841e64b94a90660add8b87"), looks := true }, kinds := [], alts := [], laidByText := true, laidKinds := [.sentinel, .sentinel, .sentinel, .sentinel, .sentinel, .sentinel, .sentinel, .sentinel, .sentinel, .sentinel, .sentinel], laidTests := true, laidLooks := .later }
def FnEarlyAAAAUptoCardSaid : Prop := Claim7.holds Tryd.pinned (.plain (OpenSpec.upto fnEarlyAAAASpec)) fnEarlyAAAAUptoCard

/-- THE SECOND FORM's CARD OF 'laws.FnPlainAAAA'. -/
def fnPlainAAAAUptoCard : Claim7 := { stood := { row := fnPlainAAAAUptoRow, standIns := [], harness := (true, "cdec7a77e508f291e071a3dad59b310003f7571a25841e64b94a90660add8b87"), looks := true }, kinds := [], alts := [], laidByText := true, laidKinds := [.sentinel, .sentinel, .sentinel, .sentinel, .sentinel, .sentinel, .sentinel, .sentinel, .sentinel, .sentinel, .sentinel], laidTests := true, laidLooks := .later }
def FnPlainAAAAUptoCardSaid : Prop := Claim7.holds Tryd.pinned (.plain (OpenSpec.upto fnPlainAAAASpec)) fnPlainAAAAUptoCard
end Rows
end Go.Proofs.YtcbjfjifnnpfpaaDoor
