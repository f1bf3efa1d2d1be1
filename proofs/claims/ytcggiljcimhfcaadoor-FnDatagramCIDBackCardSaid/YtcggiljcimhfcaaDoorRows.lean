/-
  NARROWER THAN 'FOR EVERY INPUT', by the rows' own cells (each row's printed sentence says how): FnVerifyRequestWrite: laid · FnAlertBack: laid · FnDatagramCIDBack: laid.
  DERIVED. THE GIVEN ROWS OF THIS SEAT. 3 by the template 'for every input the law returns true; each argument reads behind the call as it read before'; 0 by the template 'total and deterministic' (their statements: YtcggiljcimhfcaaDoorTotals.lean).
  GIVEN WITH THE SEED: the statements are not yours to turn. If you find one false, say at which input.
  Laid BY PROGRAM, IN A SANDBOX (cutbox-rows.mjs): the forced cells as the released guide's own fill.sh prints them over the translation 489338415cd4d972… (all of the seat's roots in one cut). By AI agents, Wed Nov 11 2026. No macro, syntax, notation, axiom, sorry.
-/
import Derived.Test.YtcggiljcimhfcaaDoorChecked
import GoSem.Claim
import GoSem.ClaimJoined
import GoSem.ClaimMapViews
import Derived.JoinedTies
import Derived.KernelRfl
namespace Go.Proofs.YtcggiljcimhfcaaDoor
/- THE CELL 'sum', in the pinned program and in every row, IS THE sha256 OF THE DUMP (.gsa) THAT YtcggiljcimhfcaaDoorProg.lean LOADS. Nothing in Lean hashes anything: it is a label: what it is worth is what the hold of that sum in a sandbox is worth. -/
noncomputable def Tryd.pinned : Pinned := { name := "ytcggiljcimhfcaadoor", sum := "489338415cd4d972bdb9298d29e13250121d97b7aa7e39338528e4f81ca9618d", checked := Tryd.checked }
namespace Rows
def none {H : Type} : Left H := { results := [], args := [] }

/- WHAT THE LISTED PACKAGE-LEVEL VARIABLES READ AS WHEN THE CALL BEGINS. Each datum BY PROGRAM (the guide's laid-datum.mjs) off the statement by which the dump's own 'gosem.cut.vars' lays the variable. In a bare row this is a premise. The card (YtcggiljcimhfcaaDoorCards.lean) ties it to the program's text. -/
def laid_pub_convoy_pub_dtls_pkg_protocol_handshake_errCookieTooLong {H : Type} : DataW H := .iface "*errors.errorString" (.ptr (.agg [.lit (.string [99, 111, 111, 107, 105, 101, 32, 109, 117, 115, 116, 32, 110, 111, 116, 32, 98, 101, 32, 108, 111, 110, 103, 101, 114, 32, 116, 104, 97, 110, 32, 50, 53, 53, 32, 98, 121, 116, 101, 115])]))
def laid_pub_convoy_pub_dtls_pkg_protocol_alert_errBufferTooSmall {H : Type} : DataW H := .iface "*errors.errorString" (.ptr (.agg [.lit (.string [98, 117, 102, 102, 101, 114, 32, 105, 115, 32, 116, 111, 111, 32, 115, 109, 97, 108, 108])]))
def laid_pub_convoy_pub_dtls_pkg_protocol_recordlayer_ErrInvalidPacketLength {H : Type} : DataW H := .iface "*errors.errorString" (.ptr (.agg [.lit (.string [112, 97, 99, 107, 101, 116, 32, 108, 101, 110, 103, 116, 104, 32, 97, 110, 100, 32, 100, 101, 99, 108, 97, 114, 101, 100, 32, 108, 101, 110, 103, 116, 104, 32, 100, 111, 32, 110, 111, 116, 32, 109, 97, 116, 99, 104])]))

/-- 'laws.FnVerifyRequestWrite': WHATEVER THE INPUT: true; the input reads as it did. -/
def fnVerifyRequestWriteSpec : ChangeSpec := { name := "fnVerifyRequestWrite", fn := fun _ => fun
  | [d] => { results := [.lit (.bool true)], args := [d] }
  | _ => none }
def fnVerifyRequestWriteRow : OpenClaim := { program := "ytcggiljcimhfcaadoor", sum := "489338415cd4d972bdb9298d29e13250121d97b7aa7e39338528e4f81ca9618d", func := "pub-convoy/laws.FnVerifyRequestWrite", spec := "fnVerifyRequestWrite", named := ["pub-convoy/pub/dtls/pkg/protocol/handshake.errCookieTooLong"], apart := false, laid := [("pub-convoy/pub/dtls/pkg/protocol/handshake.errCookieTooLong", laid_pub_convoy_pub_dtls_pkg_protocol_handshake_errCookieTooLong)] }
def FnVerifyRequestWriteSaid : Prop := fnVerifyRequestWriteRow.holds Tryd.pinned (OpenSpec.ofChange fnVerifyRequestWriteSpec)

/-- ITS FALSE NEIGHBOUR: 'it returns false'. Refute it at one input. -/
def fnVerifyRequestWriteWrong : ChangeSpec := { name := "fnVerifyRequestWrite", fn := fun _ => fun
  | [d] => { results := [.lit (.bool false)], args := [d] }
  | _ => none }
def FnVerifyRequestWriteWrongFalsely : Prop := fnVerifyRequestWriteRow.holds Tryd.pinned (OpenSpec.ofChange fnVerifyRequestWriteWrong)

/-- 'laws.FnAlertBack': WHATEVER THE INPUT: true; the input reads as it did. -/
def fnAlertBackSpec : ChangeSpec := { name := "fnAlertBack", fn := fun _ => fun
  | [d1, d2] => { results := [.lit (.bool true)], args := [d1, d2] }
  | _ => none }
def fnAlertBackRow : OpenClaim := { program := "ytcggiljcimhfcaadoor", sum := "489338415cd4d972bdb9298d29e13250121d97b7aa7e39338528e4f81ca9618d", func := "pub-convoy/laws.FnAlertBack", spec := "fnAlertBack", named := ["pub-convoy/pub/dtls/pkg/protocol/alert.errBufferTooSmall"], apart := false, laid := [("pub-convoy/pub/dtls/pkg/protocol/alert.errBufferTooSmall", laid_pub_convoy_pub_dtls_pkg_protocol_alert_errBufferTooSmall)] }
def FnAlertBackSaid : Prop := fnAlertBackRow.holds Tryd.pinned (OpenSpec.ofChange fnAlertBackSpec)

/-- ITS FALSE NEIGHBOUR: 'it returns false'. Refute it at one input. -/
def fnAlertBackWrong : ChangeSpec := { name := "fnAlertBack", fn := fun _ => fun
  | [d1, d2] => { results := [.lit (.bool false)], args := [d1, d2] }
  | _ => none }
def FnAlertBackWrongFalsely : Prop := fnAlertBackRow.holds Tryd.pinned (OpenSpec.ofChange fnAlertBackWrong)

/-- 'laws.FnDatagramCIDBack': WHATEVER THE INPUT: true; the input reads as it did. -/
def fnDatagramCIDBackSpec : ChangeSpec := { name := "fnDatagramCIDBack", fn := fun _ => fun
  | [d1, d2, d3] => { results := [.lit (.bool true)], args := [d1, d2, d3] }
  | _ => none }
def fnDatagramCIDBackRow : OpenClaim := { program := "ytcggiljcimhfcaadoor", sum := "489338415cd4d972bdb9298d29e13250121d97b7aa7e39338528e4f81ca9618d", func := "pub-convoy/laws.FnDatagramCIDBack", spec := "fnDatagramCIDBack", named := ["pub-convoy/pub/dtls/pkg/protocol/recordlayer.ErrInvalidPacketLength", "encoding/binary.BigEndian"], apart := false, laid := [("pub-convoy/pub/dtls/pkg/protocol/recordlayer.ErrInvalidPacketLength", laid_pub_convoy_pub_dtls_pkg_protocol_recordlayer_ErrInvalidPacketLength)] }
def FnDatagramCIDBackSaid : Prop := fnDatagramCIDBackRow.holds Tryd.pinned (OpenSpec.ofChange fnDatagramCIDBackSpec)

/-- ITS FALSE NEIGHBOUR: 'it returns false'. Refute it at one input. -/
def fnDatagramCIDBackWrong : ChangeSpec := { name := "fnDatagramCIDBack", fn := fun _ => fun
  | [d1, d2, d3] => { results := [.lit (.bool false)], args := [d1, d2, d3] }
  | _ => none }
def FnDatagramCIDBackWrongFalsely : Prop := fnDatagramCIDBackRow.holds Tryd.pinned (OpenSpec.ofChange fnDatagramCIDBackWrong)

/- THE SECOND FORM. 'bulk': how many values and letters a reading holds, each counted each time it is reached (what is shared counts as often as it is met; a slice's spare places count too). A statement '..UptoSaid' is the law's where the arguments, and the package variables that the reading takes, are together of bulk at most 1048576: NARROWER than '..Said'. Prove '..Said' where nothing that the law and all that it calls make is longer than what came in: it says more and counts as full. Else prove '..UptoSaid'. A law counts once. -/
mutual
def uptoBulk {H : Type} : DataW H → Nat
  | .lit (.string bytes) => bytes.length + 1
  | .lit _ => 1
  | .nil => 1
  | .ptr d => uptoBulk d + 1
  | .slice elems spare => uptoBulkAll elems + uptoBulkAll spare + 1
  | .agg parts => uptoBulkAll parts + 1
  | .iface _ d => uptoBulk d + 1
  | .map entries => uptoBulkEntries entries + 1
  | .held _ => 1
def uptoBulkAll {H : Type} : List (DataW H) → Nat
  | [] => 0
  | d :: r => uptoBulk d + uptoBulkAll r
def uptoBulkEntries {H : Type} : List (Lit × DataW H) → Nat
  | [] => 0
  | x :: r => uptoBulkEntry x + uptoBulkEntries r
def uptoBulkEntry {H : Type} : Lit × DataW H → Nat
  | (.string bytes, d) => bytes.length + uptoBulk d + 1
  | (_, d) => uptoBulk d + 1
 end
def uptoSmall : (H : Type) → List (DataW H) → Bool := fun _ ds => decide (uptoBulkAll ds ≤ 1048576)
def OpenSpec.upto (s : _root_.Go.ChangeSpec) : _root_.Go.OpenSpec := { _root_.Go.OpenSpec.ofChange s with cond := some uptoSmall }

/-- 'laws.FnVerifyRequestWrite', WHERE WHAT IT READS IS OF BULK AT MOST 1048576: true; the input reads as it did. -/
def fnVerifyRequestWriteUptoRow : OpenClaim := { program := "ytcggiljcimhfcaadoor", sum := "489338415cd4d972bdb9298d29e13250121d97b7aa7e39338528e4f81ca9618d", func := "pub-convoy/laws.FnVerifyRequestWrite", spec := "fnVerifyRequestWrite", named := ["pub-convoy/pub/dtls/pkg/protocol/handshake.errCookieTooLong"], apart := false, laid := [("pub-convoy/pub/dtls/pkg/protocol/handshake.errCookieTooLong", laid_pub_convoy_pub_dtls_pkg_protocol_handshake_errCookieTooLong)], narrowed := true }
def FnVerifyRequestWriteUptoSaid : Prop := fnVerifyRequestWriteUptoRow.holds Tryd.pinned (OpenSpec.upto fnVerifyRequestWriteSpec)

/-- 'laws.FnAlertBack', WHERE WHAT IT READS IS OF BULK AT MOST 1048576: true; the input reads as it did. -/
def fnAlertBackUptoRow : OpenClaim := { program := "ytcggiljcimhfcaadoor", sum := "489338415cd4d972bdb9298d29e13250121d97b7aa7e39338528e4f81ca9618d", func := "pub-convoy/laws.FnAlertBack", spec := "fnAlertBack", named := ["pub-convoy/pub/dtls/pkg/protocol/alert.errBufferTooSmall"], apart := false, laid := [("pub-convoy/pub/dtls/pkg/protocol/alert.errBufferTooSmall", laid_pub_convoy_pub_dtls_pkg_protocol_alert_errBufferTooSmall)], narrowed := true }
def FnAlertBackUptoSaid : Prop := fnAlertBackUptoRow.holds Tryd.pinned (OpenSpec.upto fnAlertBackSpec)

/-- 'laws.FnDatagramCIDBack', WHERE WHAT IT READS IS OF BULK AT MOST 1048576: true; the input reads as it did. -/
def fnDatagramCIDBackUptoRow : OpenClaim := { program := "ytcggiljcimhfcaadoor", sum := "489338415cd4d972bdb9298d29e13250121d97b7aa7e39338528e4f81ca9618d", func := "pub-convoy/laws.FnDatagramCIDBack", spec := "fnDatagramCIDBack", named := ["pub-convoy/pub/dtls/pkg/protocol/recordlayer.ErrInvalidPacketLength", "encoding/binary.BigEndian"], apart := false, laid := [("pub-convoy/pub/dtls/pkg/protocol/recordlayer.ErrInvalidPacketLength", laid_pub_convoy_pub_dtls_pkg_protocol_recordlayer_ErrInvalidPacketLength)], narrowed := true }
def FnDatagramCIDBackUptoSaid : Prop := fnDatagramCIDBackUptoRow.holds Tryd.pinned (OpenSpec.upto fnDatagramCIDBackSpec)

end Rows
end Go.Proofs.YtcggiljcimhfcaaDoor
