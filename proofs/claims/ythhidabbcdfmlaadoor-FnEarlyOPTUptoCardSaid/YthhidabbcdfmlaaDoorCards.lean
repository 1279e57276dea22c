/-
  DERIVED. GIVEN WITH THE SEED: THE CARDS: each row of YthhidabbcdfmlaaDoorRows.lean that lists a variable, with what it lists TIED to the program's text (the seventh form; the later family's looks); each row that meets fmt, with fmt's text TOLD by the authors' own Lean function (tested against real Go, not proved from fmt's source: count such statements apart). THE CARD IS WHAT COUNTS. Prove the row's statement (the work); the ties are given (YthhidabbcdfmlaaDoorTie.lean); close each card by the builder's one call (the guide's Derived/Test/ToyasCard.lean, 'card_holds'). Laid BY PROGRAM, IN A SANDBOX (cutbox-door.mjs). By AI agents, Wed Nov 11 2026. No macro, syntax, notation, axiom, sorry.
-/
import Derived.Test.YthhidabbcdfmlaaDoorRows
import GoSem.ClaimSeven
namespace Go.Proofs.YthhidabbcdfmlaaDoor
namespace Rows

/-- THE TIED CARD OF 'laws.FnBehindOPT'. -/
def fnBehindOPTCard : Claim7 := { stood := { row := fnBehindOPTRow, standIns := [], harness := (true, "bc01db3e99f3b228684e79f0052544ebff490736236b401acecbe21a48a2e0c3"), looks := true }, kinds := [], alts := [], laidByText := true, laidKinds := [.sentinel, .sentinel, .sentinel, .sentinel, .sentinel, .sentinel, .sentinel, .sentinel, .sentinel, .sentinel, .sentinel], laidTests := true, laidLooks := .later }
def FnBehindOPTCardSaid : Prop := Claim7.holds Tryd.pinned (.plain (OpenSpec.ofChange fnBehindOPTSpec)) fnBehindOPTCard

/-- THE TIED CARD OF 'laws.FnEarlyOPT'. -/
def fnEarlyOPTCard : Claim7 := { stood := { row := fnEarlyOPTRow, standIns := [], harness := (true, "bc01db3e99f3b228684e79f0052544ebff490736236b401acecbe21a48a2e0c3"), looks := true }, kinds := [], alts := [], laidByText := true, laidKinds := [.sentinel, .sentinel, .sentinel, .sentinel, .sentinel, .sentinel, .sentinel, .sentinel, .sentinel, .sentinel, .sentinel], laidTests := true, laidLooks := .later }
def FnEarlyOPTCardSaid : Prop := Claim7.holds Tryd.pinned (.plain (OpenSpec.ofChange fnEarlyOPTSpec)) fnEarlyOPTCard

/-- THE TIED CARD OF 'laws.FnPlainOPT'. -/
def fnPlainOPTCard : Claim7 := { stood := { row := fnPlainOPTRow, standIns := [], harness := (true, "bc01db3e99f3b228684e79f0052544ebff490736236b401acecbe21a48a2e0c3"), looks := true }, kinds := [], alts := [], laidByText := true, laidKinds := [.sentinel, .sentinel, .sentinel, .sentinel, .sentinel, .sentinel, .sentinel, .sentinel, .sentinel, .sentinel, .sentinel], laidTests := true, laidLooks := .later }
def FnPlainOPTCardSaid : Prop := Claim7.holds Tryd.pinned (.plain (OpenSpec.ofChange fnPlainOPTSpec)) fnPlainOPTCard

/-- THE TIED CARD OF 'laws.FnBehindTXT'. -/
def fnBehindTXTCard : Claim7 := { stood := { row := fnBehindTXTRow, standIns := [], harness := (true, "bc01db3e99f3b228684e79f0052544ebff490736236b401acecbe21a48a2e0c3"), looks := true }, kinds := [], alts := [], laidByText := true, laidKinds := [.sentinel, .sentinel, .sentinel, .sentinel, .sentinel, .sentinel, .sentinel, .sentinel, .sentinel, .sentinel, .sentinel, .sentinel], laidTests := true, laidLooks := .later }
def FnBehindTXTCardSaid : Prop := Claim7.holds Tryd.pinned (.plain (OpenSpec.ofChange fnBehindTXTSpec)) fnBehindTXTCard

/-- THE TIED CARD OF 'laws.FnEarlyTXT'. -/
def fnEarlyTXTCard : Claim7 := { stood := { row := fnEarlyTXTRow, standIns := [], harness := (true, "bc01db3e99f3b228684e79f0052544ebff490736236b401acecbe21a48a2e0c3"), looks := true }, kinds := [], alts := [], laidByText := true, laidKinds := [.sentinel, .sentinel, .sentinel, .sentinel, .sentinel, .sentinel, .sentinel, .sentinel, .sentinel, .sentinel, .sentinel, .sentinel], laidTests := true, laidLooks := .later }
def FnEarlyTXTCardSaid : Prop := Claim7.holds Tryd.pinned (.plain (OpenSpec.ofChange fnEarlyTXTSpec)) fnEarlyTXTCard

/-- THE TIED CARD OF 'laws.FnPlainTXT'. -/
def fnPlainTXTCard : Claim7 := { stood := { row := fnPlainTXTRow, standIns := [], harness := (true, "bc01db3e99f3b228684e79f0052544ebff490736236b401acecbe21a48a2e0c3"), looks := true }, kinds := [], alts := [], laidByText := true, laidKinds := [.sentinel, .sentinel, .sentinel, .sentinel, .sentinel, .sentinel, .sentinel, .sentinel, .sentinel, .sentinel, .sentinel, .sentinel], laidTests := true, laidLooks := .later }
def FnPlainTXTCardSaid : Prop := Claim7.holds Tryd.pinned (.plain (OpenSpec.ofChange fnPlainTXTSpec)) fnPlainTXTCard

/-- THE SECOND FORM's CARD OF 'laws.FnBehindOPT'. -/
def fnBehindOPTUptoCard : Claim7 := { stood := { row := fnBehindOPTUptoRow, standIns := [], harness := (true, "bc01db3e99f3b228684e79f0052544ebff490736236b401acecbe21a48a2e0c3"), looks := true }, kinds := [], alts := [], laidByText := true, laidKinds := [.sentinel, .sentinel, .sentinel, .sentinel, .sentinel, .sentinel, .sentinel, .sentinel, .sentinel, .sentinel, .sentinel], laidTests := true, laidLooks := .later }
def FnBehindOPTUptoCardSaid : Prop := Claim7.holds Tryd.pinned (.plain (OpenSpec.upto fnBehindOPTSpec)) fnBehindOPTUptoCard

/-- THE SECOND FORM's CARD OF 'laws.FnEarlyOPT'. -/
def fnEarlyOPTUptoCard : Claim7 := { stood := { row := fnEarlyOPTUptoRow, standIns := [], harness := (true, "bc01db3e99f3b228684e79f0052544ebff490736236b401acecbe21a48a2e0c3"), looks := true }, kinds := [], alts := [], laidByText := true, laidKinds := [.sentinel, .sentinel, .sentinel, .sentinel, .sentinel, .sentinel, .sentinel, .sentinel, .sentinel, .sentinel, .sentinel], laidTests := true, laidLooks := .later }
def FnEarlyOPTUptoCardSaid : Prop := Claim7.holds Tryd.pinned (.plain (OpenSpec.upto fnEarlyOPTSpec)) fnEarlyOPTUptoCard

/-- THE SECOND FORM's CARD OF 'laws.FnPlainOPT'. -/
def fnPlainOPTUptoCard : Claim7 := { stood := { row := fnPlainOPTUptoRow, standIns := [], harness := (true, "bc01db3e99f3b228684e79f0052544ebff490736236b401acecbe21a48a2e0c3"), looks := true }, kinds := [], alts := [], laidByText := true, laidKinds := [.sentinel, .sentinel, .sentinel, .sentinel, .sentinel, .sentinel, .sentinel, .sentinel, .sentinel, .sentinel, .sentinel], laidTests := true, laidLooks := .later }
def FnPlainOPTUptoCardSaid : Prop := Claim7.holds Tryd.pinned (.plain (OpenSpec.upto fnPlainOPTSpec)) fnPlainOPTUptoCard

/-- THE SECOND FORM's CARD OF 'laws.FnBehindTXT'. -/
def fnBehindTXTUptoCard : Claim7 := { stood := { row := fnBehindTXTUptoRow, standIns := [], harness := (true, "bc01db3e99f3b228684e79f0052544ebff490736236b401acecbe21a48a2e0c3"), looks := true }, kinds := [], alts := [], laidByText := true, laidKinds := [.sentinel, .sentinel, .sentinel, .sentinel, .sentinel, .sentinel, .sentinel, .sentinel, .sentinel, .sentinel, .sentinel, .sentinel], laidTests := true, laidLooks := .later }
def FnBehindTXTUptoCardSaid : Prop := Claim7.holds Tryd.pinned (.plain (OpenSpec.upto fnBehindTXTSpec)) fnBehindTXTUptoCard

/-- THE SECOND FORM's CARD OF 'laws.FnEarlyTXT'. -/
def fnEarlyTXTUptoCard : Claim7 := { stood := { row := fnEarlyTXTUptoRow, standIns := [], harness := (true, "bc01db3e99f3b228684e79f0052544ebff490736236b401acecbe21a48a2e0c3"), looks := true }, kinds := [], alts := [], laidByText := true, laidKinds := [.sentinel, .sentinel, .sentinel, .sentinel, .sentinel, .sentinel, .sentinel, .sentinel, .sentinel, .sentinel, .sentinel, .sentinel], laidTests := true, laidLooks := .later }
def FnEarlyTXTUptoCardSaid : Prop := Claim7.holds Tryd.pinned (.plain (OpenSpec.upto fnEarlyTXTSpec)) fnEarlyTXTUptoCard

/-- THE SECOND FORM's CARD OF 'laws.FnPlainTXT'. -/
def fnPlainTXTUptoCard : Claim7 := { stood := { row := fnPlainTXTUptoRow, standIns := [], harness := (true, "bc01db3e99f3b228684e79f0052544ebff490736236b401acecbe21a48a2e0c3"), looks := true }, kinds := [], alts := [], laidByText := true, laidKinds := [.sentinel, .sentinel, .sentinel, .sentinel, .sentinel, .sentinel, .sentinel, .sentinel, .sentinel, .sentinel, .sentinel, .sentinel], laidTests := true, laidLooks := .later }
def FnPlainTXTUptoCardSaid : Prop := Claim7.holds Tryd.pinned (.plain (OpenSpec.upto fnPlainTXTSpec)) fnPlainTXTUptoCard
end Rows
end Go.Proofs.YthhidabbcdfmlaaDoor
