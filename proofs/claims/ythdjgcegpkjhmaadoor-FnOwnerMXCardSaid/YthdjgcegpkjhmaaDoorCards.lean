/-
  DERIVED. GIVEN WITH THE SEED: THE CARDS: each row of YthdjgcegpkjhmaaDoorRows.lean that lists a variable, with what it lists TIED to the program's text (the seventh form; the later family's looks); each row that meets fmt, with fmt's text TOLD by the authors' own Lean function (tested against real Go, not proved from fmt's source: count such statements apart). THE CARD IS WHAT COUNTS. Prove the row's statement (the work); the ties are given (YthdjgcegpkjhmaaDoorTie.lean); close each card by the builder's one call (the guide's Derived/Test/ToyasCard.lean, 'card_holds'). Laid BY PROGRAM, IN A SANDBOX (cutbox-door.mjs). By AI agents, Wed Nov 11 2026. No macro, syntax, notation, axiom, sorry.
-/
import Derived.Test.YthdjgcegpkjhmaaDoorRows
import GoSem.ClaimSeven
namespace Go.Proofs.YthdjgcegpkjhmaaDoor
namespace Rows

/-- THE TIED CARD OF 'laws.FnOwnerCNAME'. -/
def fnOwnerCNAMECard : Claim7 := { stood := { row := fnOwnerCNAMERow, standIns := [], harness := (true, "3c19a1b24972a94226ca46e526239fca95c76b32e7a0cd33f5e4608507a37642"), looks := true }, kinds := [], alts := [], laidByText := true, laidKinds := [.sentinel, .sentinel, .sentinel, .sentinel, .sentinel, .sentinel, .sentinel, .sentinel, .sentinel, .sentinel, .sentinel], laidTests := true, laidLooks := .later }
def FnOwnerCNAMECardSaid : Prop := Claim7.holds Tryd.pinned (.plain (OpenSpec.ofChange fnOwnerCNAMESpec)) fnOwnerCNAMECard

/-- THE TIED CARD OF 'laws.FnFarPointers'. -/
def fnFarPointersCard : Claim7 := { stood := { row := fnFarPointersRow, standIns := [], harness := (true, "3c19a1b24972a94226ca46e526239fca95c76b32e7a0cd33f5e4608507a37642"), looks := true }, kinds := [], alts := [], laidByText := true, laidKinds := [.sentinel, .sentinel, .sentinel, .sentinel, .sentinel, .sentinel, .sentinel, .sentinel, .sentinel, .sentinel, .sentinel], laidTests := true, laidLooks := .later }
def FnFarPointersCardSaid : Prop := Claim7.holds Tryd.pinned (.plain (OpenSpec.ofChange fnFarPointersSpec)) fnFarPointersCard

/-- THE TIED CARD OF 'laws.FnTooLong'. -/
def fnTooLongCard : Claim7 := { stood := { row := fnTooLongRow, standIns := [], harness := (true, "3c19a1b24972a94226ca46e526239fca95c76b32e7a0cd33f5e4608507a37642"), looks := true }, kinds := [], alts := [], laidByText := true, laidKinds := [.sentinel, .sentinel, .sentinel, .sentinel, .sentinel, .sentinel, .sentinel, .sentinel, .sentinel, .sentinel, .sentinel], laidTests := true, laidLooks := .later }
def FnTooLongCardSaid : Prop := Claim7.holds Tryd.pinned (.plain (OpenSpec.ofChange fnTooLongSpec)) fnTooLongCard

/-- THE TIED CARD OF 'laws.FnBehindMX'. -/
def fnBehindMXCard : Claim7 := { stood := { row := fnBehindMXRow, standIns := [], harness := (true, "3c19a1b24972a94226ca46e526239fca95c76b32e7a0cd33f5e4608507a37642"), looks := true }, kinds := [], alts := [], laidByText := true, laidKinds := [.sentinel, .sentinel, .sentinel, .sentinel, .sentinel, .sentinel, .sentinel, .sentinel, .sentinel, .sentinel, .sentinel], laidTests := true, laidLooks := .later }
def FnBehindMXCardSaid : Prop := Claim7.holds Tryd.pinned (.plain (OpenSpec.ofChange fnBehindMXSpec)) fnBehindMXCard

/-- THE TIED CARD OF 'laws.FnEarlyMX'. -/
def fnEarlyMXCard : Claim7 := { stood := { row := fnEarlyMXRow, standIns := [], harness := (true, "3c19a1b24972a94226ca46e526239fca95c76b32e7a0cd33f5e4608507a37642"), looks := true }, kinds := [], alts := [], laidByText := true, laidKinds := [.sentinel, .sentinel, .sentinel, .sentinel, .sentinel, .sentinel, .sentinel, .sentinel, .sentinel, .sentinel, .sentinel], laidTests := true, laidLooks := .later }
def FnEarlyMXCardSaid : Prop := Claim7.holds Tryd.pinned (.plain (OpenSpec.ofChange fnEarlyMXSpec)) fnEarlyMXCard

/-- THE TIED CARD OF 'laws.FnHostMX'. -/
def fnHostMXCard : Claim7 := { stood := { row := fnHostMXRow, standIns := [], harness := (true, "3c19a1b24972a94226ca46e526239fca95c76b32e7a0cd33f5e4608507a37642"), looks := true }, kinds := [], alts := [], laidByText := true, laidKinds := [.sentinel, .sentinel, .sentinel, .sentinel, .sentinel, .sentinel, .sentinel, .sentinel, .sentinel, .sentinel, .sentinel], laidTests := true, laidLooks := .later }
def FnHostMXCardSaid : Prop := Claim7.holds Tryd.pinned (.plain (OpenSpec.ofChange fnHostMXSpec)) fnHostMXCard

/-- THE TIED CARD OF 'laws.FnOwnerMX'. -/
def fnOwnerMXCard : Claim7 := { stood := { row := fnOwnerMXRow, standIns := [], harness := (true, "3c19a1b24972a94226ca46e526239fca95c76b32e7a0cd33f5e4608507a37642"), looks := true }, kinds := [], alts := [], laidByText := true, laidKinds := [.sentinel, .sentinel, .sentinel, .sentinel, .sentinel, .sentinel, .sentinel, .sentinel, .sentinel, .sentinel, .sentinel], laidTests := true, laidLooks := .later }
def FnOwnerMXCardSaid : Prop := Claim7.holds Tryd.pinned (.plain (OpenSpec.ofChange fnOwnerMXSpec)) fnOwnerMXCard

/-- THE TIED CARD OF 'laws.FnPlainMX'. -/
def fnPlainMXCard : Claim7 := { stood := { row := fnPlainMXRow, standIns := [], harness := (true, "3c19a1b24972a94226ca46e526239fca95c76b32e7a0cd33f5e4608507a37642"), looks := true }, kinds := [], alts := [], laidByText := true, laidKinds := [.sentinel, .sentinel, .sentinel, .sentinel, .sentinel, .sentinel, .sentinel, .sentinel, .sentinel, .sentinel, .sentinel], laidTests := true, laidLooks := .later }
def FnPlainMXCardSaid : Prop := Claim7.holds Tryd.pinned (.plain (OpenSpec.ofChange fnPlainMXSpec)) fnPlainMXCard

/-- THE TIED CARD OF 'laws.FnBehindSRV'. -/
def fnBehindSRVCard : Claim7 := { stood := { row := fnBehindSRVRow, standIns := [], harness := (true, "3c19a1b24972a94226ca46e526239fca95c76b32e7a0cd33f5e4608507a37642"), looks := true }, kinds := [], alts := [], laidByText := true, laidKinds := [.sentinel, .sentinel, .sentinel, .sentinel, .sentinel, .sentinel, .sentinel, .sentinel, .sentinel, .sentinel, .sentinel], laidTests := true, laidLooks := .later }
def FnBehindSRVCardSaid : Prop := Claim7.holds Tryd.pinned (.plain (OpenSpec.ofChange fnBehindSRVSpec)) fnBehindSRVCard

/-- THE TIED CARD OF 'laws.FnEarlySRV'. -/
def fnEarlySRVCard : Claim7 := { stood := { row := fnEarlySRVRow, standIns := [], harness := (true, "3c19a1b24972a94226ca46e526239fca95c76b32e7a0cd33f5e4608507a37642"), looks := true }, kinds := [], alts := [], laidByText := true, laidKinds := [.sentinel, .sentinel, .sentinel, .sentinel, .sentinel, .sentinel, .sentinel, .sentinel, .sentinel, .sentinel, .sentinel], laidTests := true, laidLooks := .later }
def FnEarlySRVCardSaid : Prop := Claim7.holds Tryd.pinned (.plain (OpenSpec.ofChange fnEarlySRVSpec)) fnEarlySRVCard

/-- THE TIED CARD OF 'laws.FnPlainSRV'. -/
def fnPlainSRVCard : Claim7 := { stood := { row := fnPlainSRVRow, standIns := [], harness := (true, "3c19a1b24972a94226ca46e526239fca95c76b32e7a0cd33f5e4608507a37642"), looks := true }, kinds := [], alts := [], laidByText := true, laidKinds := [.sentinel, .sentinel, .sentinel, .sentinel, .sentinel, .sentinel, .sentinel, .sentinel, .sentinel, .sentinel, .sentinel], laidTests := true, laidLooks := .later }
def FnPlainSRVCardSaid : Prop := Claim7.holds Tryd.pinned (.plain (OpenSpec.ofChange fnPlainSRVSpec)) fnPlainSRVCard

/-- THE TIED CARD OF 'laws.FnWholeSRV'. -/
def fnWholeSRVCard : Claim7 := { stood := { row := fnWholeSRVRow, standIns := [], harness := (true, "3c19a1b24972a94226ca46e526239fca95c76b32e7a0cd33f5e4608507a37642"), looks := true }, kinds := [], alts := [], laidByText := true, laidKinds := [.sentinel, .sentinel, .sentinel, .sentinel, .sentinel, .sentinel, .sentinel, .sentinel, .sentinel, .sentinel, .sentinel], laidTests := true, laidLooks := .later }
def FnWholeSRVCardSaid : Prop := Claim7.holds Tryd.pinned (.plain (OpenSpec.ofChange fnWholeSRVSpec)) fnWholeSRVCard

/-- THE SECOND FORM's CARD OF 'laws.FnOwnerCNAME'. -/
def fnOwnerCNAMEUptoCard : Claim7 := { stood := { row := fnOwnerCNAMEUptoRow, standIns := [], harness := (true, "3c19a1b24972a94226ca46e526239fca95c76b32e7a0cd33f5e4608507a37642"), looks := true }, kinds := [], alts := [], laidByText := true, laidKinds := [.sentinel, .sentinel, .sentinel, .sentinel, .sentinel, .sentinel, .sentinel, .sentinel, .sentinel, .sentinel, .sentinel], laidTests := true, laidLooks := .later }
def FnOwnerCNAMEUptoCardSaid : Prop := Claim7.holds Tryd.pinned (.plain (OpenSpec.upto fnOwnerCNAMESpec)) fnOwnerCNAMEUptoCard

/-- THE SECOND FORM's CARD OF 'laws.FnFarPointers'. -/
def fnFarPointersUptoCard : Claim7 := { stood := { row := fnFarPointersUptoRow, standIns := [], harness := (true, "3c19a1b24972a94226ca46e526239fca95c76b32e7a0cd33f5e4608507a37642"), looks := true }, kinds := [], alts := [], laidByText := true, laidKinds := [.sentinel, .sentinel, .sentinel, .sentinel, .sentinel, .sentinel, .sentinel, .sentinel, .sentinel, .sentinel, .sentinel], laidTests := true, laidLooks := .later }
def FnFarPointersUptoCardSaid : Prop := Claim7.holds Tryd.pinned (.plain (OpenSpec.upto fnFarPointersSpec)) fnFarPointersUptoCard

/-- THE SECOND FORM's CARD OF 'laws.FnTooLong'. -/
def fnTooLongUptoCard : Claim7 := { stood := { row := fnTooLongUptoRow, standIns := [], harness := (true, "3c19a1b24972a94226ca46e526239fca95c76b32e7a0cd33f5e4608507a37642"), looks := true }, kinds := [], alts := [], laidByText := true, laidKinds := [.sentinel, .sentinel, .sentinel, .sentinel, .sentinel, .sentinel, .sentinel, .sentinel, .sentinel, .sentinel, .sentinel], laidTests := true, laidLooks := .later }
def FnTooLongUptoCardSaid : Prop := Claim7.holds Tryd.pinned (.plain (OpenSpec.upto fnTooLongSpec)) fnTooLongUptoCard

/-- THE SECOND FORM's CARD OF 'laws.FnBehindMX'. -/
def fnBehindMXUptoCard : Claim7 := { stood := { row := fnBehindMXUptoRow, standIns := [], harness := (true, "3c19a1b24972a94226ca46e526239fca95c76b32e7a0cd33f5e4608507a37642"), looks := true }, kinds := [], alts := [], laidByText := true, laidKinds := [.sentinel, .sentinel, .sentinel, .sentinel, .sentinel, .sentinel, .sentinel, .sentinel, .sentinel, .sentinel, .sentinel], laidTests := true, laidLooks := .later }
def FnBehindMXUptoCardSaid : Prop := Claim7.holds Tryd.pinned (.plain (OpenSpec.upto fnBehindMXSpec)) fnBehindMXUptoCard

/-- THE SECOND FORM's CARD OF 'laws.FnEarlyMX'. -/
def fnEarlyMXUptoCard : Claim7 := { stood := { row := fnEarlyMXUptoRow, standIns := [], harness := (true, "3c19a1b24972a94226ca46e526239fca95c76b32e7a0cd33f5e4608507a37642"), looks := true }, kinds := [], alts := [], laidByText := true, laidKinds := [.sentinel, .sentinel, .sentinel, .sentinel, .sentinel, .sentinel, .sentinel, .sentinel, .sentinel, .sentinel, .sentinel], laidTests := true, laidLooks := .later }
def FnEarlyMXUptoCardSaid : Prop := Claim7.holds Tryd.pinned (.plain (OpenSpec.upto fnEarlyMXSpec)) fnEarlyMXUptoCard

/-- THE SECOND FORM's CARD OF 'laws.FnHostMX'. -/
def fnHostMXUptoCard : Claim7 := { stood := { row := fnHostMXUptoRow, standIns := [], harness := (true, "3c19a1b24972a94226ca46e526239fca95c76b32e7a0cd33f5e4608507a37642"), looks := true }, kinds := [], alts := [], laidByText := true, laidKinds := [.sentinel, .sentinel, .sentinel, .sentinel, .sentinel, .sentinel, .sentinel, .sentinel, .sentinel, .sentinel, .sentinel], laidTests := true, laidLooks := .later }
def FnHostMXUptoCardSaid : Prop := Claim7.holds Tryd.pinned (.plain (OpenSpec.upto fnHostMXSpec)) fnHostMXUptoCard

/-- THE SECOND FORM's CARD OF 'laws.FnOwnerMX'. -/
def fnOwnerMXUptoCard : Claim7 := { stood := { row := fnOwnerMXUptoRow, standIns := [], harness := (true, "3c19a1b24972a94226ca46e526239fca95c76b32e7a0cd33f5e4608507a37642"), looks := true }, kinds := [], alts := [], laidByText := true, laidKinds := [.sentinel, .sentinel, .sentinel, .sentinel, .sentinel, .sentinel, .sentinel, .sentinel, .sentinel, .sentinel, .sentinel], laidTests := true, laidLooks := .later }
def FnOwnerMXUptoCardSaid : Prop := Claim7.holds Tryd.pinned (.plain (OpenSpec.upto fnOwnerMXSpec)) fnOwnerMXUptoCard

/-- THE SECOND FORM's CARD OF 'laws.FnPlainMX'. -/
def fnPlainMXUptoCard : Claim7 := { stood := { row := fnPlainMXUptoRow, standIns := [], harness := (true, "3c19a1b24972a94226ca46e526239fca95c76b32e7a0cd33f5e4608507a37642"), looks := true }, kinds := [], alts := [], laidByText := true, laidKinds := [.sentinel, .sentinel, .sentinel, .sentinel, .sentinel, .sentinel, .sentinel, .sentinel, .sentinel, .sentinel, .sentinel], laidTests := true, laidLooks := .later }
def FnPlainMXUptoCardSaid : Prop := Claim7.holds Tryd.pinned (.plain (OpenSpec.upto fnPlainMXSpec)) fnPlainMXUptoCard

/-- THE SECOND FORM's CARD OF 'laws.FnBehindSRV'. -/
def fnBehindSRVUptoCard : Claim7 := { stood := { row := fnBehindSRVUptoRow, standIns := [], harness := (true, "3c19a1b24972a94226ca46e526239fca95c76b32e7a0cd33f5e4608507a37642"), looks := true }, kinds := [], alts := [], laidByText := true, laidKinds := [.sentinel, .sentinel, .sentinel, .sentinel, .sentinel, .sentinel, .sentinel, .sentinel, .sentinel, .sentinel, .sentinel], laidTests := true, laidLooks := .later }
def FnBehindSRVUptoCardSaid : Prop := Claim7.holds Tryd.pinned (.plain (OpenSpec.upto fnBehindSRVSpec)) fnBehindSRVUptoCard

/-- THE SECOND FORM's CARD OF 'laws.FnEarlySRV'. -/
def fnEarlySRVUptoCard : Claim7 := { stood := { row := fnEarlySRVUptoRow, standIns := [], harness := (true, "3c19a1b24972a94226ca46e526239fca95c76b32e7a0cd33f5e4608507a37642"), looks := true }, kinds := [], alts := [], laidByText := true, laidKinds := [.sentinel, .sentinel, .sentinel, .sentinel, .sentinel, .sentinel, .sentinel, .sentinel, .sentinel, .sentinel, .sentinel], laidTests := true, laidLooks := .later }
def FnEarlySRVUptoCardSaid : Prop := Claim7.holds Tryd.pinned (.plain (OpenSpec.upto fnEarlySRVSpec)) fnEarlySRVUptoCard

/-- THE SECOND FORM's CARD OF 'laws.FnPlainSRV'. -/
def fnPlainSRVUptoCard : Claim7 := { stood := { row := fnPlainSRVUptoRow, standIns := [], harness := (true, "3c19a1b24972a94226ca46e526239fca95c76b32e7a0cd33f5e4608507a37642"), looks := true }, kinds := [], alts := [], laidByText := true, laidKinds := [.sentinel, .sentinel, .sentinel, .sentinel, .sentinel, .sentinel, .sentinel, .sentinel, .sentinel, .sentinel, .sentinel], laidTests := true, laidLooks := .later }
def FnPlainSRVUptoCardSaid : Prop := Claim7.holds Tryd.pinned (.plain (OpenSpec.upto fnPlainSRVSpec)) fnPlainSRVUptoCard

/-- THE SECOND FORM's CARD OF 'laws.FnWholeSRV'. -/
def fnWholeSRVUptoCard : Claim7 := { stood := { row := fnWholeSRVUptoRow, standIns := [], harness := (true, "3c19a1b24972a94226ca46e526239fca95c76b32e7a0cd33f5e4608507a37642"), looks := true }, kinds := [], alts := [], laidByText := true, laidKinds := [.sentinel, .sentinel, .sentinel, .sentinel, .sentinel, .sentinel, .sentinel, .sentinel, .sentinel, .sentinel, .sentinel], laidTests := true, laidLooks := .later }
def FnWholeSRVUptoCardSaid : Prop := Claim7.holds Tryd.pinned (.plain (OpenSpec.upto fnWholeSRVSpec)) fnWholeSRVUptoCard
end Rows
end Go.Proofs.YthdjgcegpkjhmaaDoor
