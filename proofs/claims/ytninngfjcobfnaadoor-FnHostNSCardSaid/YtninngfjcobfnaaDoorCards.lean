/-
  DERIVED. GIVEN WITH THE SEED: THE CARDS: each row of YtninngfjcobfnaaDoorRows.lean that lists a variable, with what it lists TIED to the program's text (the seventh form; the later family's looks); each row that meets fmt, with fmt's text TOLD by the authors' own Lean function (tested against real Go, not proved from fmt's source: count such statements apart). THE CARD IS WHAT COUNTS. Prove the row's statement (the work); the ties are given (YtninngfjcobfnaaDoorTie.lean); close each card by the builder's one call (the guide's Derived/Test/ToyasCard.lean, 'card_holds'). Laid BY PROGRAM, IN A SANDBOX (cutbox-door.mjs). By AI agents, Wed Nov 11 2026. No macro, syntax, notation, axiom, sorry.
-/
import Derived.Test.YtninngfjcobfnaaDoorRows
import GoSem.ClaimSeven
namespace Go.Proofs.YtninngfjcobfnaaDoor
namespace Rows

/-- THE TIED CARD OF 'laws.FnBehindNS'. -/
def fnBehindNSCard : Claim7 := { stood := { row := fnBehindNSRow, standIns := [], harness := (true, "2d7f6d9f7e9f22e7d5ac2bd0f32e220181d6cf59a69b81d4a57e09a2642784dd"), looks := true }, kinds := [], alts := [], laidByText := true, laidKinds := [.sentinel, .sentinel, .sentinel, .sentinel, .sentinel, .sentinel, .sentinel, .sentinel, .sentinel, .sentinel, .sentinel], laidTests := true, laidLooks := .later }
def FnBehindNSCardSaid : Prop := Claim7.holds Tryd.pinned (.plain (OpenSpec.ofChange fnBehindNSSpec)) fnBehindNSCard

/-- THE TIED CARD OF 'laws.FnEarlyNS'. -/
def fnEarlyNSCard : Claim7 := { stood := { row := fnEarlyNSRow, standIns := [], harness := (true, "2d7f6d9f7e9f22e7d5ac2bd0f32e220181d6cf59a69b81d4a57e09a2642784dd"), looks := true }, kinds := [], alts := [], laidByText := true, laidKinds := [.sentinel, .sentinel, .sentinel, .sentinel, .sentinel, .sentinel, .sentinel, .sentinel, .sentinel, .sentinel, .sentinel], laidTests := true, laidLooks := .later }
def FnEarlyNSCardSaid : Prop := Claim7.holds Tryd.pinned (.plain (OpenSpec.ofChange fnEarlyNSSpec)) fnEarlyNSCard

/-- THE TIED CARD OF 'laws.FnHostNS'. -/
def fnHostNSCard : Claim7 := { stood := { row := fnHostNSRow, standIns := [], harness := (true, "2d7f6d9f7e9f22e7d5ac2bd0f32e220181d6cf59a69b81d4a57e09a2642784dd"), looks := true }, kinds := [], alts := [], laidByText := true, laidKinds := [.sentinel, .sentinel, .sentinel, .sentinel, .sentinel, .sentinel, .sentinel, .sentinel, .sentinel, .sentinel, .sentinel], laidTests := true, laidLooks := .later }
def FnHostNSCardSaid : Prop := Claim7.holds Tryd.pinned (.plain (OpenSpec.ofChange fnHostNSSpec)) fnHostNSCard

/-- THE TIED CARD OF 'laws.FnPlainNS'. -/
def fnPlainNSCard : Claim7 := { stood := { row := fnPlainNSRow, standIns := [], harness := (true, "2d7f6d9f7e9f22e7d5ac2bd0f32e220181d6cf59a69b81d4a57e09a2642784dd"), looks := true }, kinds := [], alts := [], laidByText := true, laidKinds := [.sentinel, .sentinel, .sentinel, .sentinel, .sentinel, .sentinel, .sentinel, .sentinel, .sentinel, .sentinel, .sentinel], laidTests := true, laidLooks := .later }
def FnPlainNSCardSaid : Prop := Claim7.holds Tryd.pinned (.plain (OpenSpec.ofChange fnPlainNSSpec)) fnPlainNSCard

/-- THE TIED CARD OF 'laws.FnBehindPTR'. -/
def fnBehindPTRCard : Claim7 := { stood := { row := fnBehindPTRRow, standIns := [], harness := (true, "2d7f6d9f7e9f22e7d5ac2bd0f32e220181d6cf59a69b81d4a57e09a2642784dd"), looks := true }, kinds := [], alts := [], laidByText := true, laidKinds := [.sentinel, .sentinel, .sentinel, .sentinel, .sentinel, .sentinel, .sentinel, .sentinel, .sentinel, .sentinel, .sentinel], laidTests := true, laidLooks := .later }
def FnBehindPTRCardSaid : Prop := Claim7.holds Tryd.pinned (.plain (OpenSpec.ofChange fnBehindPTRSpec)) fnBehindPTRCard

/-- THE TIED CARD OF 'laws.FnEarlyPTR'. -/
def fnEarlyPTRCard : Claim7 := { stood := { row := fnEarlyPTRRow, standIns := [], harness := (true, "2d7f6d9f7e9f22e7d5ac2bd0f32e220181d6cf59a69b81d4a57e09a2642784dd"), looks := true }, kinds := [], alts := [], laidByText := true, laidKinds := [.sentinel, .sentinel, .sentinel, .sentinel, .sentinel, .sentinel, .sentinel, .sentinel, .sentinel, .sentinel, .sentinel], laidTests := true, laidLooks := .later }
def FnEarlyPTRCardSaid : Prop := Claim7.holds Tryd.pinned (.plain (OpenSpec.ofChange fnEarlyPTRSpec)) fnEarlyPTRCard

/-- THE TIED CARD OF 'laws.FnPlainPTR'. -/
def fnPlainPTRCard : Claim7 := { stood := { row := fnPlainPTRRow, standIns := [], harness := (true, "2d7f6d9f7e9f22e7d5ac2bd0f32e220181d6cf59a69b81d4a57e09a2642784dd"), looks := true }, kinds := [], alts := [], laidByText := true, laidKinds := [.sentinel, .sentinel, .sentinel, .sentinel, .sentinel, .sentinel, .sentinel, .sentinel, .sentinel, .sentinel, .sentinel], laidTests := true, laidLooks := .later }
def FnPlainPTRCardSaid : Prop := Claim7.holds Tryd.pinned (.plain (OpenSpec.ofChange fnPlainPTRSpec)) fnPlainPTRCard

/-- THE TIED CARD OF 'laws.FnBehindCNAME'. -/
def fnBehindCNAMECard : Claim7 := { stood := { row := fnBehindCNAMERow, standIns := [], harness := (true, "2d7f6d9f7e9f22e7d5ac2bd0f32e220181d6cf59a69b81d4a57e09a2642784dd"), looks := true }, kinds := [], alts := [], laidByText := true, laidKinds := [.sentinel, .sentinel, .sentinel, .sentinel, .sentinel, .sentinel, .sentinel, .sentinel, .sentinel, .sentinel, .sentinel], laidTests := true, laidLooks := .later }
def FnBehindCNAMECardSaid : Prop := Claim7.holds Tryd.pinned (.plain (OpenSpec.ofChange fnBehindCNAMESpec)) fnBehindCNAMECard

/-- THE TIED CARD OF 'laws.FnEarlyCNAME'. -/
def fnEarlyCNAMECard : Claim7 := { stood := { row := fnEarlyCNAMERow, standIns := [], harness := (true, "2d7f6d9f7e9f22e7d5ac2bd0f32e220181d6cf59a69b81d4a57e09a2642784dd"), looks := true }, kinds := [], alts := [], laidByText := true, laidKinds := [.sentinel, .sentinel, .sentinel, .sentinel, .sentinel, .sentinel, .sentinel, .sentinel, .sentinel, .sentinel, .sentinel], laidTests := true, laidLooks := .later }
def FnEarlyCNAMECardSaid : Prop := Claim7.holds Tryd.pinned (.plain (OpenSpec.ofChange fnEarlyCNAMESpec)) fnEarlyCNAMECard

/-- THE TIED CARD OF 'laws.FnOwnerCNAME'. -/
def fnOwnerCNAMECard : Claim7 := { stood := { row := fnOwnerCNAMERow, standIns := [], harness := (true, "2d7f6d9f7e9f22e7d5ac2bd0f32e220181d6cf59a69b81d4a57e09a2642784dd"), looks := true }, kinds := [], alts := [], laidByText := true, laidKinds := [.sentinel, .sentinel, .sentinel, .sentinel, .sentinel, .sentinel, .sentinel, .sentinel, .sentinel, .sentinel, .sentinel], laidTests := true, laidLooks := .later }
def FnOwnerCNAMECardSaid : Prop := Claim7.holds Tryd.pinned (.plain (OpenSpec.ofChange fnOwnerCNAMESpec)) fnOwnerCNAMECard

/-- THE TIED CARD OF 'laws.FnPlainCNAME'. -/
def fnPlainCNAMECard : Claim7 := { stood := { row := fnPlainCNAMERow, standIns := [], harness := (true, "2d7f6d9f7e9f22e7d5ac2bd0f32e220181d6cf59a69b81d4a57e09a2642784dd"), looks := true }, kinds := [], alts := [], laidByText := true, laidKinds := [.sentinel, .sentinel, .sentinel, .sentinel, .sentinel, .sentinel, .sentinel, .sentinel, .sentinel, .sentinel, .sentinel], laidTests := true, laidLooks := .later }
def FnPlainCNAMECardSaid : Prop := Claim7.holds Tryd.pinned (.plain (OpenSpec.ofChange fnPlainCNAMESpec)) fnPlainCNAMECard

/-- THE SECOND FORM's CARD OF 'laws.FnBehindNS'. -/
def fnBehindNSUptoCard : Claim7 := { stood := { row := fnBehindNSUptoRow, standIns := [], harness := (true, "2d7f6d9f7e9f22e7d5ac2bd0f32e220181d6cf59a69b81d4a57e09a2642784dd"), looks := true }, kinds := [], alts := [], laidByText := true, laidKinds := [.sentinel, .sentinel, .sentinel, .sentinel, .sentinel, .sentinel, .sentinel, .sentinel, .sentinel, .sentinel, .sentinel], laidTests := true, laidLooks := .later }
def FnBehindNSUptoCardSaid : Prop := Claim7.holds Tryd.pinned (.plain (OpenSpec.upto fnBehindNSSpec)) fnBehindNSUptoCard

/-- THE SECOND FORM's CARD OF 'laws.FnEarlyNS'. -/
def fnEarlyNSUptoCard : Claim7 := { stood := { row := fnEarlyNSUptoRow, standIns := [], harness := (true, "2d7f6d9f7e9f22e7d5ac2bd0f32e220181d6cf59a69b81d4a57e09a2642784dd"), looks := true }, kinds := [], alts := [], laidByText := true, laidKinds := [.sentinel, .sentinel, .sentinel, .sentinel, .sentinel, .sentinel, .sentinel, .sentinel, .sentinel, .sentinel, .sentinel], laidTests := true, laidLooks := .later }
def FnEarlyNSUptoCardSaid : Prop := Claim7.holds Tryd.pinned (.plain (OpenSpec.upto fnEarlyNSSpec)) fnEarlyNSUptoCard

/-- THE SECOND FORM's CARD OF 'laws.FnHostNS'. -/
def fnHostNSUptoCard : Claim7 := { stood := { row := fnHostNSUptoRow, standIns := [], harness := (true, "2d7f6d9f7e9f22e7d5ac2bd0f32e220181d6cf59a69b81d4a57e09a2642784dd"), looks := true }, kinds := [], alts := [], laidByText := true, laidKinds := [.sentinel, .sentinel, .sentinel, .sentinel, .sentinel, .sentinel, .sentinel, .sentinel, .sentinel, .sentinel, .sentinel], laidTests := true, laidLooks := .later }
def FnHostNSUptoCardSaid : Prop := Claim7.holds Tryd.pinned (.plain (OpenSpec.upto fnHostNSSpec)) fnHostNSUptoCard

/-- THE SECOND FORM's CARD OF 'laws.FnPlainNS'. -/
def fnPlainNSUptoCard : Claim7 := { stood := { row := fnPlainNSUptoRow, standIns := [], harness := (true, "2d7f6d9f7e9f22e7d5ac2bd0f32e220181d6cf59a69b81d4a57e09a2642784dd"), looks := true }, kinds := [], alts := [], laidByText := true, laidKinds := [.sentinel, .sentinel, .sentinel, .sentinel, .sentinel, .sentinel, .sentinel, .sentinel, .sentinel, .sentinel, .sentinel], laidTests := true, laidLooks := .later }
def FnPlainNSUptoCardSaid : Prop := Claim7.holds Tryd.pinned (.plain (OpenSpec.upto fnPlainNSSpec)) fnPlainNSUptoCard

/-- THE SECOND FORM's CARD OF 'laws.FnBehindPTR'. -/
def fnBehindPTRUptoCard : Claim7 := { stood := { row := fnBehindPTRUptoRow, standIns := [], harness := (true, "2d7f6d9f7e9f22e7d5ac2bd0f32e220181d6cf59a69b81d4a57e09a2642784dd"), looks := true }, kinds := [], alts := [], laidByText := true, laidKinds := [.sentinel, .sentinel, .sentinel, .sentinel, .sentinel, .sentinel, .sentinel, .sentinel, .sentinel, .sentinel, .sentinel], laidTests := true, laidLooks := .later }
def FnBehindPTRUptoCardSaid : Prop := Claim7.holds Tryd.pinned (.plain (OpenSpec.upto fnBehindPTRSpec)) fnBehindPTRUptoCard

/-- THE SECOND FORM's CARD OF 'laws.FnEarlyPTR'. -/
def fnEarlyPTRUptoCard : Claim7 := { stood := { row := fnEarlyPTRUptoRow, standIns := [], harness := (true, "2d7f6d9f7e9f22e7d5ac2bd0f32e220181d6cf59a69b81d4a57e09a2642784dd"), looks := true }, kinds := [], alts := [], laidByText := true, laidKinds := [.sentinel, .sentinel, .sentinel, .sentinel, .sentinel, .sentinel, .sentinel, .sentinel, .sentinel, .sentinel, .sentinel], laidTests := true, laidLooks := .later }
def FnEarlyPTRUptoCardSaid : Prop := Claim7.holds Tryd.pinned (.plain (OpenSpec.upto fnEarlyPTRSpec)) fnEarlyPTRUptoCard

/-- THE SECOND FORM's CARD OF 'laws.FnPlainPTR'. -/
def fnPlainPTRUptoCard : Claim7 := { stood := { row := fnPlainPTRUptoRow, standIns := [], harness := (true, "2d7f6d9f7e9f22e7d5ac2bd0f32e220181d6cf59a69b81d4a57e09a2642784dd"), looks := true }, kinds := [], alts := [], laidByText := true, laidKinds := [.sentinel, .sentinel, .sentinel, .sentinel, .sentinel, .sentinel, .sentinel, .sentinel, .sentinel, .sentinel, .sentinel], laidTests := true, laidLooks := .later }
def FnPlainPTRUptoCardSaid : Prop := Claim7.holds Tryd.pinned (.plain (OpenSpec.upto fnPlainPTRSpec)) fnPlainPTRUptoCard

/-- THE SECOND FORM's CARD OF 'laws.FnBehindCNAME'. -/
def fnBehindCNAMEUptoCard : Claim7 := { stood := { row := fnBehindCNAMEUptoRow, standIns := [], harness := (true, "2d7f6d9f7e9f22e7d5ac2bd0f32e220181d6cf59a69b81d4a57e09a2642784dd"), looks := true }, kinds := [], alts := [], laidByText := true, laidKinds := [.sentinel, .sentinel, .sentinel, .sentinel, .sentinel, .sentinel, .sentinel, .sentinel, .sentinel, .sentinel, .sentinel], laidTests := true, laidLooks := .later }
def FnBehindCNAMEUptoCardSaid : Prop := Claim7.holds Tryd.pinned (.plain (OpenSpec.upto fnBehindCNAMESpec)) fnBehindCNAMEUptoCard

/-- THE SECOND FORM's CARD OF 'laws.FnEarlyCNAME'. -/
def fnEarlyCNAMEUptoCard : Claim7 := { stood := { row := fnEarlyCNAMEUptoRow, standIns := [], harness := (true, "2d7f6d9f7e9f22e7d5ac2bd0f32e220181d6cf59a69b81d4a57e09a2642784dd"), looks := true }, kinds := [], alts := [], laidByText := true, laidKinds := [.sentinel, .sentinel, .sentinel, .sentinel, .sentinel, .sentinel, .sentinel, .sentinel, .sentinel, .sentinel, .sentinel], laidTests := true, laidLooks := .later }
def FnEarlyCNAMEUptoCardSaid : Prop := Claim7.holds Tryd.pinned (.plain (OpenSpec.upto fnEarlyCNAMESpec)) fnEarlyCNAMEUptoCard

/-- THE SECOND FORM's CARD OF 'laws.FnOwnerCNAME'. -/
def fnOwnerCNAMEUptoCard : Claim7 := { stood := { row := fnOwnerCNAMEUptoRow, standIns := [], harness := (true, "2d7f6d9f7e9f22e7d5ac2bd0f32e220181d6cf59a69b81d4a57e09a2642784dd"), looks := true }, kinds := [], alts := [], laidByText := true, laidKinds := [.sentinel, .sentinel, .sentinel, .sentinel, .sentinel, .sentinel, .sentinel, .sentinel, .sentinel, .sentinel, .sentinel], laidTests := true, laidLooks := .later }
def FnOwnerCNAMEUptoCardSaid : Prop := Claim7.holds Tryd.pinned (.plain (OpenSpec.upto fnOwnerCNAMESpec)) fnOwnerCNAMEUptoCard

/-- THE SECOND FORM's CARD OF 'laws.FnPlainCNAME'. -/
def fnPlainCNAMEUptoCard : Claim7 := { stood := { row := fnPlainCNAMEUptoRow, standIns := [], harness := (true, "2d7f6d9f7e9f22e7d5ac2bd0f32e220181d6cf59a69b81d4a57e09a2642784dd"), looks := true }, kinds := [], alts := [], laidByText := true, laidKinds := [.sentinel, .sentinel, .sentinel, .sentinel, .sentinel, .sentinel, .sentinel, .sentinel, .sentinel, .sentinel, .sentinel], laidTests := true, laidLooks := .later }
def FnPlainCNAMEUptoCardSaid : Prop := Claim7.holds Tryd.pinned (.plain (OpenSpec.upto fnPlainCNAMESpec)) fnPlainCNAMEUptoCard
end Rows
end Go.Proofs.YtninngfjcobfnaaDoor
