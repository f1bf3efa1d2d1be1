/-
  DERIVED. GIVEN WITH THE SEED: THE CARDS: each row of YtcggiljcimhfcabDoorRows.lean that lists a variable, with what it lists TIED to the program's text (the seventh form; the later family's looks); each row that meets fmt, with fmt's text TOLD by the authors' own Lean function (tested against real Go, not proved from fmt's source: count such statements apart). THE CARD IS WHAT COUNTS. Prove the row's statement (the work); the ties are given (YtcggiljcimhfcabDoorTie.lean); close each card by the builder's one call (the guide's Derived/Test/ToyasCard.lean, 'card_holds'). Laid BY PROGRAM, IN A SANDBOX (cutbox-door.mjs). By AI agents, Wed Nov 11 2026. No macro, syntax, notation, axiom, sorry.
-/
import Derived.Test.YtcggiljcimhfcabDoorRows
import GoSem.ClaimSeven
namespace Go.Proofs.YtcggiljcimhfcabDoor
namespace Rows

/-- THE TIED CARD OF 'laws.FnPointFormatsCut'. -/
def fnPointFormatsCutCard : Claim7 := { stood := { row := fnPointFormatsCutRow, standIns := [], harness := (true, "241d2c4b305fef8eac18a61f2590c1f5f64beb847d7cc36d0d1f710a27b9b092"), looks := false }, kinds := [], alts := [], laidByText := true, laidKinds := [.sentinel, .sentinel, .sentinel], laidTests := true, laidLooks := .later }
def FnPointFormatsCutCardSaid : Prop := Claim7.holds Tryd.pinned (.plain (OpenSpec.ofChange fnPointFormatsCutSpec)) fnPointFormatsCutCard

/-- THE SECOND FORM's CARD OF 'laws.FnPointFormatsCut'. -/
def fnPointFormatsCutUptoCard : Claim7 := { stood := { row := fnPointFormatsCutUptoRow, standIns := [], harness := (true, "241d2c4b305fef8eac18a61f2590c1f5f64beb847d7cc36d0d1f710a27b9b092"), looks := false }, kinds := [], alts := [], laidByText := true, laidKinds := [.sentinel, .sentinel, .sentinel], laidTests := true, laidLooks := .later }
def FnPointFormatsCutUptoCardSaid : Prop := Claim7.holds Tryd.pinned (.plain (OpenSpec.upto fnPointFormatsCutSpec)) fnPointFormatsCutUptoCard
end Rows
end Go.Proofs.YtcggiljcimhfcabDoor
