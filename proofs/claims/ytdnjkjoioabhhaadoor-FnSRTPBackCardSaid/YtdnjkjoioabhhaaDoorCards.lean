/-
  DERIVED. GIVEN WITH THE SEED: THE CARDS: each row of YtdnjkjoioabhhaaDoorRows.lean that lists a variable, with what it lists TIED to the program's text (the seventh form; the later family's looks); each row that meets fmt, with fmt's text TOLD by the authors' own Lean function (tested against real Go, not proved from fmt's source: count such statements apart). THE CARD IS WHAT COUNTS. Prove the row's statement (the work); the ties are given (YtdnjkjoioabhhaaDoorTie.lean); close each card by the builder's one call (the guide's Derived/Test/ToyasCard.lean, 'card_holds'). Laid BY PROGRAM, IN A SANDBOX (cutbox-door.mjs). By AI agents, Wed Nov 11 2026. No macro, syntax, notation, axiom, sorry.
-/
import Derived.Test.YtdnjkjoioabhhaaDoorRows
import GoSem.ClaimSeven
namespace Go.Proofs.YtdnjkjoioabhhaaDoor
namespace Rows

/-- THE TIED CARD OF 'laws.FnClientKeyBothCut'. -/
def fnClientKeyBothCutCard : Claim7 := { stood := { row := fnClientKeyBothCutRow, standIns := [], harness := (true, "31f8f10ee1c5d80dbf85dabef7d3ed65016d00d413780ebffafb892839d631b5"), looks := false }, kinds := [], alts := [], laidByText := true, laidKinds := [.sentinel, .sentinel], laidTests := true, laidLooks := .later }
def FnClientKeyBothCutCardSaid : Prop := Claim7.holds Tryd.pinned (.plain (OpenSpec.ofChange fnClientKeyBothCutSpec)) fnClientKeyBothCutCard

/-- THE TIED CARD OF 'laws.FnClientKeyEcdheBack'. -/
def fnClientKeyEcdheBackCard : Claim7 := { stood := { row := fnClientKeyEcdheBackRow, standIns := [], harness := (true, "31f8f10ee1c5d80dbf85dabef7d3ed65016d00d413780ebffafb892839d631b5"), looks := false }, kinds := [], alts := [], laidByText := true, laidKinds := [.sentinel, .sentinel], laidTests := true, laidLooks := .later }
def FnClientKeyEcdheBackCardSaid : Prop := Claim7.holds Tryd.pinned (.plain (OpenSpec.ofChange fnClientKeyEcdheBackSpec)) fnClientKeyEcdheBackCard

/-- THE TIED CARD OF 'laws.FnClientKeyPskWrite'. -/
def fnClientKeyPskWriteCard : Claim7 := { stood := { row := fnClientKeyPskWriteRow, standIns := [], harness := (true, "31f8f10ee1c5d80dbf85dabef7d3ed65016d00d413780ebffafb892839d631b5"), looks := false }, kinds := [], alts := [], laidByText := true, laidKinds := [.sentinel, .sentinel], laidTests := true, laidLooks := .later }
def FnClientKeyPskWriteCardSaid : Prop := Claim7.holds Tryd.pinned (.plain (OpenSpec.ofChange fnClientKeyPskWriteSpec)) fnClientKeyPskWriteCard

/-- THE TIED CARD OF 'laws.FnSRTPRefused'. -/
def fnSRTPRefusedCard : Claim7 := { stood := { row := fnSRTPRefusedRow, standIns := [], harness := (true, "31f8f10ee1c5d80dbf85dabef7d3ed65016d00d413780ebffafb892839d631b5"), looks := false }, kinds := [], alts := [], laidByText := true, laidKinds := [.sentinel, .sentinel], laidTests := true, laidLooks := .later }
def FnSRTPRefusedCardSaid : Prop := Claim7.holds Tryd.pinned (.plain (OpenSpec.ofChange fnSRTPRefusedSpec)) fnSRTPRefusedCard

/-- THE TIED CARD OF 'laws.FnHeaderWrite'. -/
def fnHeaderWriteCard : Claim7 := { stood := { row := fnHeaderWriteRow, standIns := [], harness := (true, "31f8f10ee1c5d80dbf85dabef7d3ed65016d00d413780ebffafb892839d631b5"), looks := false }, kinds := [], alts := [], laidByText := true, laidKinds := [.sentinel], laidTests := true, laidLooks := .later }
def FnHeaderWriteCardSaid : Prop := Claim7.holds Tryd.pinned (.plain (OpenSpec.ofChange fnHeaderWriteSpec)) fnHeaderWriteCard

/-- THE TIED CARD OF 'laws.FnGroupsBack'. -/
def fnGroupsBackCard : Claim7 := { stood := { row := fnGroupsBackRow, standIns := [], harness := (true, "31f8f10ee1c5d80dbf85dabef7d3ed65016d00d413780ebffafb892839d631b5"), looks := false }, kinds := [], alts := [], laidByText := true, laidKinds := [.sentinel, .sentinel, .sentinel], laidTests := true, laidLooks := .later }
def FnGroupsBackCardSaid : Prop := Claim7.holds Tryd.pinned (.plain (OpenSpec.ofChange fnGroupsBackSpec)) fnGroupsBackCard

/-- THE TIED CARD OF 'laws.FnCompressionBack'. -/
def fnCompressionBackCard : Claim7 := { stood := { row := fnCompressionBackRow, standIns := [], harness := (true, "31f8f10ee1c5d80dbf85dabef7d3ed65016d00d413780ebffafb892839d631b5"), looks := false }, kinds := [], alts := [], laidByText := true, laidKinds := [.sentinel], laidTests := true, laidLooks := .later }
def FnCompressionBackCardSaid : Prop := Claim7.holds Tryd.pinned (.plain (OpenSpec.ofChange fnCompressionBackSpec)) fnCompressionBackCard

/-- THE TIED CARD OF 'laws.FnPostHandshake'. -/
def fnPostHandshakeCard : Claim7 := { stood := { row := fnPostHandshakeRow, standIns := [], harness := (true, "31f8f10ee1c5d80dbf85dabef7d3ed65016d00d413780ebffafb892839d631b5"), looks := false }, kinds := [], alts := [], laidByText := true, laidKinds := [.sentinel, .sentinel, .sentinel], laidTests := true, laidLooks := .later }
def FnPostHandshakeCardSaid : Prop := Claim7.holds Tryd.pinned (.plain (OpenSpec.ofChange fnPostHandshakeSpec)) fnPostHandshakeCard

/-- THE TIED CARD OF 'laws.FnCertificateBack'. -/
def fnCertificateBackCard : Claim7 := { stood := { row := fnCertificateBackRow, standIns := [], harness := (true, "31f8f10ee1c5d80dbf85dabef7d3ed65016d00d413780ebffafb892839d631b5"), looks := false }, kinds := [], alts := [], laidByText := true, laidKinds := [.sentinel, .sentinel], laidTests := true, laidLooks := .later }
def FnCertificateBackCardSaid : Prop := Claim7.holds Tryd.pinned (.plain (OpenSpec.ofChange fnCertificateBackSpec)) fnCertificateBackCard

/-- THE TIED CARD OF 'laws.FnSRTPBack'. -/
def fnSRTPBackCard : Claim7 := { stood := { row := fnSRTPBackRow, standIns := [], harness := (true, "31f8f10ee1c5d80dbf85dabef7d3ed65016d00d413780ebffafb892839d631b5"), looks := false }, kinds := [], alts := [], laidByText := true, laidKinds := [.sentinel, .sentinel, .sentinel], laidTests := true, laidLooks := .later }
def FnSRTPBackCardSaid : Prop := Claim7.holds Tryd.pinned (.plain (OpenSpec.ofChange fnSRTPBackSpec)) fnSRTPBackCard

/-- THE TIED CARD OF 'laws.FnCookieBack'. -/
def fnCookieBackCard : Claim7 := { stood := { row := fnCookieBackRow, standIns := [], harness := (true, "31f8f10ee1c5d80dbf85dabef7d3ed65016d00d413780ebffafb892839d631b5"), looks := false }, kinds := [], alts := [], laidByText := true, laidKinds := [.sentinel, .sentinel, .sentinel, .sentinel], laidTests := true, laidLooks := .later }
def FnCookieBackCardSaid : Prop := Claim7.holds Tryd.pinned (.plain (OpenSpec.ofChange fnCookieBackSpec)) fnCookieBackCard

/-- THE TIED CARD OF 'laws.FnHandshakeHeaderBack'. -/
def fnHandshakeHeaderBackCard : Claim7 := { stood := { row := fnHandshakeHeaderBackRow, standIns := [], harness := (true, "31f8f10ee1c5d80dbf85dabef7d3ed65016d00d413780ebffafb892839d631b5"), looks := false }, kinds := [], alts := [], laidByText := true, laidKinds := [.sentinel], laidTests := true, laidLooks := .later }
def FnHandshakeHeaderBackCardSaid : Prop := Claim7.holds Tryd.pinned (.plain (OpenSpec.ofChange fnHandshakeHeaderBackSpec)) fnHandshakeHeaderBackCard

/-- THE SECOND FORM's CARD OF 'laws.FnClientKeyBothCut'. -/
def fnClientKeyBothCutUptoCard : Claim7 := { stood := { row := fnClientKeyBothCutUptoRow, standIns := [], harness := (true, "31f8f10ee1c5d80dbf85dabef7d3ed65016d00d413780ebffafb892839d631b5"), looks := false }, kinds := [], alts := [], laidByText := true, laidKinds := [.sentinel, .sentinel], laidTests := true, laidLooks := .later }
def FnClientKeyBothCutUptoCardSaid : Prop := Claim7.holds Tryd.pinned (.plain (OpenSpec.upto fnClientKeyBothCutSpec)) fnClientKeyBothCutUptoCard

/-- THE SECOND FORM's CARD OF 'laws.FnClientKeyEcdheBack'. -/
def fnClientKeyEcdheBackUptoCard : Claim7 := { stood := { row := fnClientKeyEcdheBackUptoRow, standIns := [], harness := (true, "31f8f10ee1c5d80dbf85dabef7d3ed65016d00d413780ebffafb892839d631b5"), looks := false }, kinds := [], alts := [], laidByText := true, laidKinds := [.sentinel, .sentinel], laidTests := true, laidLooks := .later }
def FnClientKeyEcdheBackUptoCardSaid : Prop := Claim7.holds Tryd.pinned (.plain (OpenSpec.upto fnClientKeyEcdheBackSpec)) fnClientKeyEcdheBackUptoCard

/-- THE SECOND FORM's CARD OF 'laws.FnClientKeyPskWrite'. -/
def fnClientKeyPskWriteUptoCard : Claim7 := { stood := { row := fnClientKeyPskWriteUptoRow, standIns := [], harness := (true, "31f8f10ee1c5d80dbf85dabef7d3ed65016d00d413780ebffafb892839d631b5"), looks := false }, kinds := [], alts := [], laidByText := true, laidKinds := [.sentinel, .sentinel], laidTests := true, laidLooks := .later }
def FnClientKeyPskWriteUptoCardSaid : Prop := Claim7.holds Tryd.pinned (.plain (OpenSpec.upto fnClientKeyPskWriteSpec)) fnClientKeyPskWriteUptoCard

/-- THE SECOND FORM's CARD OF 'laws.FnSRTPRefused'. -/
def fnSRTPRefusedUptoCard : Claim7 := { stood := { row := fnSRTPRefusedUptoRow, standIns := [], harness := (true, "31f8f10ee1c5d80dbf85dabef7d3ed65016d00d413780ebffafb892839d631b5"), looks := false }, kinds := [], alts := [], laidByText := true, laidKinds := [.sentinel, .sentinel], laidTests := true, laidLooks := .later }
def FnSRTPRefusedUptoCardSaid : Prop := Claim7.holds Tryd.pinned (.plain (OpenSpec.upto fnSRTPRefusedSpec)) fnSRTPRefusedUptoCard

/-- THE SECOND FORM's CARD OF 'laws.FnHeaderWrite'. -/
def fnHeaderWriteUptoCard : Claim7 := { stood := { row := fnHeaderWriteUptoRow, standIns := [], harness := (true, "31f8f10ee1c5d80dbf85dabef7d3ed65016d00d413780ebffafb892839d631b5"), looks := false }, kinds := [], alts := [], laidByText := true, laidKinds := [.sentinel], laidTests := true, laidLooks := .later }
def FnHeaderWriteUptoCardSaid : Prop := Claim7.holds Tryd.pinned (.plain (OpenSpec.upto fnHeaderWriteSpec)) fnHeaderWriteUptoCard

/-- THE SECOND FORM's CARD OF 'laws.FnGroupsBack'. -/
def fnGroupsBackUptoCard : Claim7 := { stood := { row := fnGroupsBackUptoRow, standIns := [], harness := (true, "31f8f10ee1c5d80dbf85dabef7d3ed65016d00d413780ebffafb892839d631b5"), looks := false }, kinds := [], alts := [], laidByText := true, laidKinds := [.sentinel, .sentinel, .sentinel], laidTests := true, laidLooks := .later }
def FnGroupsBackUptoCardSaid : Prop := Claim7.holds Tryd.pinned (.plain (OpenSpec.upto fnGroupsBackSpec)) fnGroupsBackUptoCard

/-- THE SECOND FORM's CARD OF 'laws.FnCompressionBack'. -/
def fnCompressionBackUptoCard : Claim7 := { stood := { row := fnCompressionBackUptoRow, standIns := [], harness := (true, "31f8f10ee1c5d80dbf85dabef7d3ed65016d00d413780ebffafb892839d631b5"), looks := false }, kinds := [], alts := [], laidByText := true, laidKinds := [.sentinel], laidTests := true, laidLooks := .later }
def FnCompressionBackUptoCardSaid : Prop := Claim7.holds Tryd.pinned (.plain (OpenSpec.upto fnCompressionBackSpec)) fnCompressionBackUptoCard

/-- THE SECOND FORM's CARD OF 'laws.FnPostHandshake'. -/
def fnPostHandshakeUptoCard : Claim7 := { stood := { row := fnPostHandshakeUptoRow, standIns := [], harness := (true, "31f8f10ee1c5d80dbf85dabef7d3ed65016d00d413780ebffafb892839d631b5"), looks := false }, kinds := [], alts := [], laidByText := true, laidKinds := [.sentinel, .sentinel, .sentinel], laidTests := true, laidLooks := .later }
def FnPostHandshakeUptoCardSaid : Prop := Claim7.holds Tryd.pinned (.plain (OpenSpec.upto fnPostHandshakeSpec)) fnPostHandshakeUptoCard

/-- THE SECOND FORM's CARD OF 'laws.FnCertificateBack'. -/
def fnCertificateBackUptoCard : Claim7 := { stood := { row := fnCertificateBackUptoRow, standIns := [], harness := (true, "31f8f10ee1c5d80dbf85dabef7d3ed65016d00d413780ebffafb892839d631b5"), looks := false }, kinds := [], alts := [], laidByText := true, laidKinds := [.sentinel, .sentinel], laidTests := true, laidLooks := .later }
def FnCertificateBackUptoCardSaid : Prop := Claim7.holds Tryd.pinned (.plain (OpenSpec.upto fnCertificateBackSpec)) fnCertificateBackUptoCard

/-- THE SECOND FORM's CARD OF 'laws.FnSRTPBack'. -/
def fnSRTPBackUptoCard : Claim7 := { stood := { row := fnSRTPBackUptoRow, standIns := [], harness := (true, "31f8f10ee1c5d80dbf85dabef7d3ed65016d00d413780ebffafb892839d631b5"), looks := false }, kinds := [], alts := [], laidByText := true, laidKinds := [.sentinel, .sentinel, .sentinel], laidTests := true, laidLooks := .later }
def FnSRTPBackUptoCardSaid : Prop := Claim7.holds Tryd.pinned (.plain (OpenSpec.upto fnSRTPBackSpec)) fnSRTPBackUptoCard

/-- THE SECOND FORM's CARD OF 'laws.FnCookieBack'. -/
def fnCookieBackUptoCard : Claim7 := { stood := { row := fnCookieBackUptoRow, standIns := [], harness := (true, "31f8f10ee1c5d80dbf85dabef7d3ed65016d00d413780ebffafb892839d631b5"), looks := false }, kinds := [], alts := [], laidByText := true, laidKinds := [.sentinel, .sentinel, .sentinel, .sentinel], laidTests := true, laidLooks := .later }
def FnCookieBackUptoCardSaid : Prop := Claim7.holds Tryd.pinned (.plain (OpenSpec.upto fnCookieBackSpec)) fnCookieBackUptoCard

/-- THE SECOND FORM's CARD OF 'laws.FnHandshakeHeaderBack'. -/
def fnHandshakeHeaderBackUptoCard : Claim7 := { stood := { row := fnHandshakeHeaderBackUptoRow, standIns := [], harness := (true, "31f8f10ee1c5d80dbf85dabef7d3ed65016d00d413780ebffafb892839d631b5"), looks := false }, kinds := [], alts := [], laidByText := true, laidKinds := [.sentinel], laidTests := true, laidLooks := .later }
def FnHandshakeHeaderBackUptoCardSaid : Prop := Claim7.holds Tryd.pinned (.plain (OpenSpec.upto fnHandshakeHeaderBackSpec)) fnHandshakeHeaderBackUptoCard
end Rows
end Go.Proofs.YtdnjkjoioabhhaaDoor
