/-
  DERIVED. GIVEN WITH THE SEED: THE CARDS: each row of YtcggiljcimhfcaaDoorRows.lean that lists a variable, with what it lists TIED to the program's text (the seventh form; the later family's looks); each row that meets fmt, with fmt's text TOLD by the authors' own Lean function (tested against real Go, not proved from fmt's source: count such statements apart). THE CARD IS WHAT COUNTS. Prove the row's statement (the work); the ties are given (YtcggiljcimhfcaaDoorTie.lean); close each card by the builder's one call (the guide's Derived/Test/ToyasCard.lean, 'card_holds'). Laid BY PROGRAM, IN A SANDBOX (cutbox-door.mjs). By AI agents, Wed Nov 11 2026. No macro, syntax, notation, axiom, sorry.
-/
import Derived.Test.YtcggiljcimhfcaaDoorRows
import GoSem.ClaimSeven
namespace Go.Proofs.YtcggiljcimhfcaaDoor
namespace Rows

/-- THE TIED CARD OF 'laws.FnVerifyRequestWrite'. -/
def fnVerifyRequestWriteCard : Claim7 := { stood := { row := fnVerifyRequestWriteRow, standIns := [], harness := (true, "d8a602a3bd9206fde59bbe8da94b5f8d17c1be8cb6eb00389c4ba2cfa61fb6a3"), looks := false }, kinds := [], alts := [], laidByText := true, laidKinds := [.sentinel], laidTests := true, laidLooks := .later }
def FnVerifyRequestWriteCardSaid : Prop := Claim7.holds Tryd.pinned (.plain (OpenSpec.ofChange fnVerifyRequestWriteSpec)) fnVerifyRequestWriteCard

/-- THE TIED CARD OF 'laws.FnAlertBack'. -/
def fnAlertBackCard : Claim7 := { stood := { row := fnAlertBackRow, standIns := [], harness := (true, "d8a602a3bd9206fde59bbe8da94b5f8d17c1be8cb6eb00389c4ba2cfa61fb6a3"), looks := false }, kinds := [], alts := [], laidByText := true, laidKinds := [.sentinel], laidTests := true, laidLooks := .later }
def FnAlertBackCardSaid : Prop := Claim7.holds Tryd.pinned (.plain (OpenSpec.ofChange fnAlertBackSpec)) fnAlertBackCard

/-- THE TIED CARD OF 'laws.FnDatagramCIDBack'. -/
def fnDatagramCIDBackCard : Claim7 := { stood := { row := fnDatagramCIDBackRow, standIns := [], harness := (true, "d8a602a3bd9206fde59bbe8da94b5f8d17c1be8cb6eb00389c4ba2cfa61fb6a3"), looks := false }, kinds := [], alts := [], laidByText := true, laidKinds := [.sentinel], laidTests := true, laidLooks := .later }
def FnDatagramCIDBackCardSaid : Prop := Claim7.holds Tryd.pinned (.plain (OpenSpec.ofChange fnDatagramCIDBackSpec)) fnDatagramCIDBackCard

/-- THE SECOND FORM's CARD OF 'laws.FnVerifyRequestWrite'. -/
def fnVerifyRequestWriteUptoCard : Claim7 := { stood := { row := fnVerifyRequestWriteUptoRow, standIns := [], harness := (true, "d8a602a3bd9206fde59bbe8da94b5f8d17c1be8cb6eb00389c4ba2cfa61fb6a3"), looks := false }, kinds := [], alts := [], laidByText := true, laidKinds := [.sentinel], laidTests := true, laidLooks := .later }
def FnVerifyRequestWriteUptoCardSaid : Prop := Claim7.holds Tryd.pinned (.plain (OpenSpec.upto fnVerifyRequestWriteSpec)) fnVerifyRequestWriteUptoCard

/-- THE SECOND FORM's CARD OF 'laws.FnAlertBack'. -/
def fnAlertBackUptoCard : Claim7 := { stood := { row := fnAlertBackUptoRow, standIns := [], harness := (true, "d8a602a3bd9206fde59bbe8da94b5f8d17c1be8cb6eb00389c4ba2cfa61fb6a3"), looks := false }, kinds := [], alts := [], laidByText := true, laidKinds := [.sentinel], laidTests := true, laidLooks := .later }
def FnAlertBackUptoCardSaid : Prop := Claim7.holds Tryd.pinned (.plain (OpenSpec.upto fnAlertBackSpec)) fnAlertBackUptoCard

/-- THE SECOND FORM's CARD OF 'laws.FnDatagramCIDBack'. -/
def fnDatagramCIDBackUptoCard : Claim7 := { stood := { row := fnDatagramCIDBackUptoRow, standIns := [], harness := (true, "d8a602a3bd9206fde59bbe8da94b5f8d17c1be8cb6eb00389c4ba2cfa61fb6a3"), looks := false }, kinds := [], alts := [], laidByText := true, laidKinds := [.sentinel], laidTests := true, laidLooks := .later }
def FnDatagramCIDBackUptoCardSaid : Prop := Claim7.holds Tryd.pinned (.plain (OpenSpec.upto fnDatagramCIDBackSpec)) fnDatagramCIDBackUptoCard
end Rows
end Go.Proofs.YtcggiljcimhfcaaDoor
