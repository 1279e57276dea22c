/-
  DERIVED. GIVEN WITH THE SEED: THE CARDS: each row of YtgkhfpkfjajdjaaDoorRows.lean that lists a variable, with what it lists TIED to the program's text (the seventh form; the later family's looks); each row that meets fmt, with fmt's text TOLD by the authors' own Lean function (tested against real Go, not proved from fmt's source: count such statements apart). THE CARD IS WHAT COUNTS. Prove the row's statement (the work); the ties are given (YtgkhfpkfjajdjaaDoorTie.lean); close each card by the builder's one call (the guide's Derived/Test/ToyasCard.lean, 'card_holds'). Laid BY PROGRAM, IN A SANDBOX (cutbox-door.mjs). By AI agents, Wed Nov 11 2026. No macro, syntax, notation, axiom, sorry.
-/
import Derived.Test.YtgkhfpkfjajdjaaDoorRows
import GoSem.ClaimSeven
namespace Go.Proofs.YtgkhfpkfjajdjaaDoor
namespace Rows

/-- THE TIED CARD OF 'laws.FnEarlyHTTPS'. -/
def fnEarlyHTTPSCard : Claim7 := { stood := { row := fnEarlyHTTPSRow, standIns := [], harness := (true, "31c2ea4c6e901748695eb3b581fcfecb7371f5e58b40706fbc6ab5ebfd1f5f18"), looks := true }, kinds := [], alts := [], laidByText := true, laidKinds := [.sentinel, .sentinel, .sentinel, .sentinel, .sentinel, .sentinel, .sentinel, .sentinel, .sentinel, .sentinel, .sentinel, .sentinel, .sentinel], laidTests := true, laidLooks := .later }
def FnEarlyHTTPSCardSaid : Prop := Claim7.holds Tryd.pinned (.plain (OpenSpec.ofChange fnEarlyHTTPSSpec)) fnEarlyHTTPSCard

/-- THE TIED CARD OF 'laws.FnPlainHTTPS'. -/
def fnPlainHTTPSCard : Claim7 := { stood := { row := fnPlainHTTPSRow, standIns := [], harness := (true, "31c2ea4c6e901748695eb3b581fcfecb7371f5e58b40706fbc6ab5ebfd1f5f18"), looks := true }, kinds := [], alts := [], laidByText := true, laidKinds := [.sentinel, .sentinel, .sentinel, .sentinel, .sentinel, .sentinel, .sentinel, .sentinel, .sentinel, .sentinel, .sentinel, .sentinel, .sentinel], laidTests := true, laidLooks := .later }
def FnPlainHTTPSCardSaid : Prop := Claim7.holds Tryd.pinned (.plain (OpenSpec.ofChange fnPlainHTTPSSpec)) fnPlainHTTPSCard

/-- THE TIED CARD OF 'laws.FnWholeHTTPS'. -/
def fnWholeHTTPSCard : Claim7 := { stood := { row := fnWholeHTTPSRow, standIns := [], harness := (true, "31c2ea4c6e901748695eb3b581fcfecb7371f5e58b40706fbc6ab5ebfd1f5f18"), looks := true }, kinds := [], alts := [], laidByText := true, laidKinds := [.sentinel, .sentinel, .sentinel, .sentinel, .sentinel, .sentinel, .sentinel, .sentinel, .sentinel, .sentinel, .sentinel, .sentinel, .sentinel], laidTests := true, laidLooks := .later }
def FnWholeHTTPSCardSaid : Prop := Claim7.holds Tryd.pinned (.plain (OpenSpec.ofChange fnWholeHTTPSSpec)) fnWholeHTTPSCard

/-- THE TIED CARD OF 'laws.FnBehindSVCB'. -/
def fnBehindSVCBCard : Claim7 := { stood := { row := fnBehindSVCBRow, standIns := [], harness := (true, "31c2ea4c6e901748695eb3b581fcfecb7371f5e58b40706fbc6ab5ebfd1f5f18"), looks := true }, kinds := [], alts := [], laidByText := true, laidKinds := [.sentinel, .sentinel, .sentinel, .sentinel, .sentinel, .sentinel, .sentinel, .sentinel, .sentinel, .sentinel, .sentinel, .sentinel, .sentinel], laidTests := true, laidLooks := .later }
def FnBehindSVCBCardSaid : Prop := Claim7.holds Tryd.pinned (.plain (OpenSpec.ofChange fnBehindSVCBSpec)) fnBehindSVCBCard

/-- THE TIED CARD OF 'laws.FnEarlySVCB'. -/
def fnEarlySVCBCard : Claim7 := { stood := { row := fnEarlySVCBRow, standIns := [], harness := (true, "31c2ea4c6e901748695eb3b581fcfecb7371f5e58b40706fbc6ab5ebfd1f5f18"), looks := true }, kinds := [], alts := [], laidByText := true, laidKinds := [.sentinel, .sentinel, .sentinel, .sentinel, .sentinel, .sentinel, .sentinel, .sentinel, .sentinel, .sentinel, .sentinel, .sentinel, .sentinel], laidTests := true, laidLooks := .later }
def FnEarlySVCBCardSaid : Prop := Claim7.holds Tryd.pinned (.plain (OpenSpec.ofChange fnEarlySVCBSpec)) fnEarlySVCBCard

/-- THE TIED CARD OF 'laws.FnHostSVCB'. -/
def fnHostSVCBCard : Claim7 := { stood := { row := fnHostSVCBRow, standIns := [], harness := (true, "31c2ea4c6e901748695eb3b581fcfecb7371f5e58b40706fbc6ab5ebfd1f5f18"), looks := true }, kinds := [], alts := [], laidByText := true, laidKinds := [.sentinel, .sentinel, .sentinel, .sentinel, .sentinel, .sentinel, .sentinel, .sentinel, .sentinel, .sentinel, .sentinel, .sentinel, .sentinel], laidTests := true, laidLooks := .later }
def FnHostSVCBCardSaid : Prop := Claim7.holds Tryd.pinned (.plain (OpenSpec.ofChange fnHostSVCBSpec)) fnHostSVCBCard

/-- THE TIED CARD OF 'laws.FnPlainSVCB'. -/
def fnPlainSVCBCard : Claim7 := { stood := { row := fnPlainSVCBRow, standIns := [], harness := (true, "31c2ea4c6e901748695eb3b581fcfecb7371f5e58b40706fbc6ab5ebfd1f5f18"), looks := true }, kinds := [], alts := [], laidByText := true, laidKinds := [.sentinel, .sentinel, .sentinel, .sentinel, .sentinel, .sentinel, .sentinel, .sentinel, .sentinel, .sentinel, .sentinel, .sentinel, .sentinel], laidTests := true, laidLooks := .later }
def FnPlainSVCBCardSaid : Prop := Claim7.holds Tryd.pinned (.plain (OpenSpec.ofChange fnPlainSVCBSpec)) fnPlainSVCBCard

/-- THE TIED CARD OF 'laws.FnUnsortedSVCB'. -/
def fnUnsortedSVCBCard : Claim7 := { stood := { row := fnUnsortedSVCBRow, standIns := [], harness := (true, "31c2ea4c6e901748695eb3b581fcfecb7371f5e58b40706fbc6ab5ebfd1f5f18"), looks := true }, kinds := [], alts := [], laidByText := true, laidKinds := [.sentinel, .sentinel, .sentinel, .sentinel, .sentinel, .sentinel, .sentinel, .sentinel, .sentinel, .sentinel, .sentinel, .sentinel, .sentinel], laidTests := true, laidLooks := .later }
def FnUnsortedSVCBCardSaid : Prop := Claim7.holds Tryd.pinned (.plain (OpenSpec.ofChange fnUnsortedSVCBSpec)) fnUnsortedSVCBCard

/-- THE TIED CARD OF 'laws.FnBehindHTTPS'. -/
def fnBehindHTTPSCard : Claim7 := { stood := { row := fnBehindHTTPSRow, standIns := [], harness := (true, "31c2ea4c6e901748695eb3b581fcfecb7371f5e58b40706fbc6ab5ebfd1f5f18"), looks := true }, kinds := [], alts := [], laidByText := true, laidKinds := [.sentinel, .sentinel, .sentinel, .sentinel, .sentinel, .sentinel, .sentinel, .sentinel, .sentinel, .sentinel, .sentinel, .sentinel, .sentinel], laidTests := true, laidLooks := .later }
def FnBehindHTTPSCardSaid : Prop := Claim7.holds Tryd.pinned (.plain (OpenSpec.ofChange fnBehindHTTPSSpec)) fnBehindHTTPSCard

/-- THE SECOND FORM's CARD OF 'laws.FnEarlyHTTPS'. -/
def fnEarlyHTTPSUptoCard : Claim7 := { stood := { row := fnEarlyHTTPSUptoRow, standIns := [], harness := (true, "31c2ea4c6e901748695eb3b581fcfecb7371f5e58b40706fbc6ab5ebfd1f5f18"), looks := true }, kinds := [], alts := [], laidByText := true, laidKinds := [.sentinel, .sentinel, .sentinel, .sentinel, .sentinel, .sentinel, .sentinel, .sentinel, .sentinel, .sentinel, .sentinel, .sentinel, .sentinel], laidTests := true, laidLooks := .later }
def FnEarlyHTTPSUptoCardSaid : Prop := Claim7.holds Tryd.pinned (.plain (OpenSpec.upto fnEarlyHTTPSSpec)) fnEarlyHTTPSUptoCard

/-- THE SECOND FORM's CARD OF 'laws.FnPlainHTTPS'. -/
def fnPlainHTTPSUptoCard : Claim7 := { stood := { row := fnPlainHTTPSUptoRow, standIns := [], harness := (true, "31c2ea4c6e901748695eb3b581fcfecb7371f5e58b40706fbc6ab5ebfd1f5f18"), looks := true }, kinds := [], alts := [], laidByText := true, laidKinds := [.sentinel, .sentinel, .sentinel, .sentinel, .sentinel, .sentinel, .sentinel, .sentinel, .sentinel, .sentinel, .sentinel, .sentinel, .sentinel], laidTests := true, laidLooks := .later }
def FnPlainHTTPSUptoCardSaid : Prop := Claim7.holds Tryd.pinned (.plain (OpenSpec.upto fnPlainHTTPSSpec)) fnPlainHTTPSUptoCard

/-- THE SECOND FORM's CARD OF 'laws.FnWholeHTTPS'. -/
def fnWholeHTTPSUptoCard : Claim7 := { stood := { row := fnWholeHTTPSUptoRow, standIns := [], harness := (true, "31c2ea4c6e901748695eb3b581fcfecb7371f5e58b40706fbc6ab5ebfd1f5f18"), looks := true }, kinds := [], alts := [], laidByText := true, laidKinds := [.sentinel, .sentinel, .sentinel, .sentinel, .sentinel, .sentinel, .sentinel, .sentinel, .sentinel, .sentinel, .sentinel, .sentinel, .sentinel], laidTests := true, laidLooks := .later }
def FnWholeHTTPSUptoCardSaid : Prop := Claim7.holds Tryd.pinned (.plain (OpenSpec.upto fnWholeHTTPSSpec)) fnWholeHTTPSUptoCard

/-- THE SECOND FORM's CARD OF 'laws.FnBehindSVCB'. -/
def fnBehindSVCBUptoCard : Claim7 := { stood := { row := fnBehindSVCBUptoRow, standIns := [], harness := (true, "31c2ea4c6e901748695eb3b581fcfecb7371f5e58b40706fbc6ab5ebfd1f5f18"), looks := true }, kinds := [], alts := [], laidByText := true, laidKinds := [.sentinel, .sentinel, .sentinel, .sentinel, .sentinel, .sentinel, .sentinel, .sentinel, .sentinel, .sentinel, .sentinel, .sentinel, .sentinel], laidTests := true, laidLooks := .later }
def FnBehindSVCBUptoCardSaid : Prop := Claim7.holds Tryd.pinned (.plain (OpenSpec.upto fnBehindSVCBSpec)) fnBehindSVCBUptoCard

/-- THE SECOND FORM's CARD OF 'laws.FnEarlySVCB'. -/
def fnEarlySVCBUptoCard : Claim7 := { stood := { row := fnEarlySVCBUptoRow, standIns := [], harness := (true, "31c2ea4c6e901748695eb3b581fcfecb7371f5e58b40706fbc6ab5ebfd1f5f18"), looks := true }, kinds := [], alts := [], laidByText := true, laidKinds := [.sentinel, .sentinel, .sentinel, .sentinel, .sentinel, .sentinel, .sentinel, .sentinel, .sentinel, .sentinel, .sentinel, .sentinel, .sentinel], laidTests := true, laidLooks := .later }
def FnEarlySVCBUptoCardSaid : Prop := Claim7.holds Tryd.pinned (.plain (OpenSpec.upto fnEarlySVCBSpec)) fnEarlySVCBUptoCard

/-- THE SECOND FORM's CARD OF 'laws.FnHostSVCB'. -/
def fnHostSVCBUptoCard : Claim7 := { stood := { row := fnHostSVCBUptoRow, standIns := [], harness := (true, "31c2ea4c6e901748695eb3b581fcfecb7371f5e58b40706fbc6ab5ebfd1f5f18"), looks := true }, kinds := [], alts := [], laidByText := true, laidKinds := [.sentinel, .sentinel, .sentinel, .sentinel, .sentinel, .sentinel, .sentinel, .sentinel, .sentinel, .sentinel, .sentinel, .sentinel, .sentinel], laidTests := true, laidLooks := .later }
def FnHostSVCBUptoCardSaid : Prop := Claim7.holds Tryd.pinned (.plain (OpenSpec.upto fnHostSVCBSpec)) fnHostSVCBUptoCard

/-- THE SECOND FORM's CARD OF 'laws.FnPlainSVCB'. -/
def fnPlainSVCBUptoCard : Claim7 := { stood := { row := fnPlainSVCBUptoRow, standIns := [], harness := (true, "31c2ea4c6e901748695eb3b581fcfecb7371f5e58b40706fbc6ab5ebfd1f5f18"), looks := true }, kinds := [], alts := [], laidByText := true, laidKinds := [.sentinel, .sentinel, .sentinel, .sentinel, .sentinel, .sentinel, .sentinel, .sentinel, .sentinel, .sentinel, .sentinel, .sentinel, .sentinel], laidTests := true, laidLooks := .later }
def FnPlainSVCBUptoCardSaid : Prop := Claim7.holds Tryd.pinned (.plain (OpenSpec.upto fnPlainSVCBSpec)) fnPlainSVCBUptoCard

/-- THE SECOND FORM's CARD OF 'laws.FnUnsortedSVCB'. -/
def fnUnsortedSVCBUptoCard : Claim7 := { stood := { row := fnUnsortedSVCBUptoRow, standIns := [], harness := (true, "31c2ea4c6e901748695eb3b581fcfecb7371f5e58b40706fbc6ab5ebfd1f5f18"), looks := true }, kinds := [], alts := [], laidByText := true, laidKinds := [.sentinel, .sentinel, .sentinel, .sentinel, .sentinel, .sentinel, .sentinel, .sentinel, .sentinel, .sentinel, .sentinel, .sentinel, .sentinel], laidTests := true, laidLooks := .later }
def FnUnsortedSVCBUptoCardSaid : Prop := Claim7.holds Tryd.pinned (.plain (OpenSpec.upto fnUnsortedSVCBSpec)) fnUnsortedSVCBUptoCard

/-- THE SECOND FORM's CARD OF 'laws.FnBehindHTTPS'. -/
def fnBehindHTTPSUptoCard : Claim7 := { stood := { row := fnBehindHTTPSUptoRow, standIns := [], harness := (true, "31c2ea4c6e901748695eb3b581fcfecb7371f5e58b40706fbc6ab5ebfd1f5f18"), looks := true }, kinds := [], alts := [], laidByText := true, laidKinds := [.sentinel, .sentinel, .sentinel, .sentinel, .sentinel, .sentinel, .sentinel, .sentinel, .sentinel, .sentinel, .sentinel, .sentinel, .sentinel], laidTests := true, laidLooks := .later }
def FnBehindHTTPSUptoCardSaid : Prop := Claim7.holds Tryd.pinned (.plain (OpenSpec.upto fnBehindHTTPSSpec)) fnBehindHTTPSUptoCard
end Rows
end Go.Proofs.YtgkhfpkfjajdjaaDoor
