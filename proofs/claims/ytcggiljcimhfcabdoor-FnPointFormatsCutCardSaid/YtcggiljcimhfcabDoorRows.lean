/-
  NARROWER THAN 'FOR EVERY INPUT', by the rows' own cells (each row's printed sentence says how): FnPointFormatsCut: laid.
  DERIVED. THE GIVEN ROWS OF THIS SEAT. 1 by the template 'for every input the law returns true; each argument reads behind the call as it read before'; 0 by the template 'total and deterministic' (their statements: YtcggiljcimhfcabDoorTotals.lean).
  GIVEN WITH THE SEED: the statements are not yours to turn. If you find one false, say at which input.
  Laid BY PROGRAM, IN A SANDBOX (cutbox-rows.mjs): the forced cells as the released guide's own fill.sh prints them over the translation 55df655ca14b5a46… (all of the seat's roots in one cut). By AI agents, Wed Nov 11 2026. No macro, syntax, notation, axiom, sorry.
-/
import Derived.Test.YtcggiljcimhfcabDoorChecked
import GoSem.Claim
import GoSem.ClaimJoined
import GoSem.ClaimMapViews
import Derived.JoinedTies
import Derived.KernelRfl
namespace Go.Proofs.YtcggiljcimhfcabDoor
/- THE CELL 'sum', in the pinned program and in every row, IS THE sha256 OF THE DUMP (.gsa) THAT YtcggiljcimhfcabDoorProg.lean LOADS. Nothing in Lean hashes anything: it is a label: what it is worth is what the hold of that sum in a sandbox is worth. -/
noncomputable def Tryd.pinned : Pinned := { name := "ytcggiljcimhfcabdoor", sum := "55df655ca14b5a46398273dcc3367304808ae8ec014c4e8f54399f8f5b59f672", checked := Tryd.checked }
namespace Rows
def none {H : Type} : Left H := { results := [], args := [] }

/- WHAT THE LISTED PACKAGE-LEVEL VARIABLES READ AS WHEN THE CALL BEGINS. Each datum BY PROGRAM (the guide's laid-datum.mjs) off the statement by which the dump's own 'gosem.cut.vars' lays the variable. In a bare row this is a premise. The card (YtcggiljcimhfcabDoorCards.lean) ties it to the program's text. -/
def laid_pub_convoy_pub_dtls_pkg_protocol_extension_errBufferTooSmall {H : Type} : DataW H := .iface "*errors.errorString" (.ptr (.agg [.lit (.string [98, 117, 102, 102, 101, 114, 32, 105, 115, 32, 116, 111, 111, 32, 115, 109, 97, 108, 108])]))
def laid_pub_convoy_pub_dtls_pkg_protocol_extension_errInvalidExtensionType {H : Type} : DataW H := .iface "*errors.errorString" (.ptr (.agg [.lit (.string [105, 110, 118, 97, 108, 105, 100, 32, 101, 120, 116, 101, 110, 115, 105, 111, 110, 32, 116, 121, 112, 101])]))
def laid_pub_convoy_pub_dtls_pkg_protocol_extension_errLengthMismatch {H : Type} : DataW H := .iface "*errors.errorString" (.ptr (.agg [.lit (.string [100, 97, 116, 97, 32, 108, 101, 110, 103, 116, 104, 32, 97, 110, 100, 32, 100, 101, 99, 108, 97, 114, 101, 100, 32, 108, 101, 110, 103, 116, 104, 32, 100, 111, 32, 110, 111, 116, 32, 109, 97, 116, 99, 104])]))

/-- 'laws.FnPointFormatsCut': WHATEVER THE INPUT: true; the input reads as it did. -/
def fnPointFormatsCutSpec : ChangeSpec := { name := "fnPointFormatsCut", fn := fun _ => fun
  | [d1, d2] => { results := [.lit (.bool true)], args := [d1, d2] }
  | _ => none }
def fnPointFormatsCutRow : OpenClaim := { program := "ytcggiljcimhfcabdoor", sum := "55df655ca14b5a46398273dcc3367304808ae8ec014c4e8f54399f8f5b59f672", func := "pub-convoy/laws.FnPointFormatsCut", spec := "fnPointFormatsCut", named := ["pub-convoy/pub/dtls/pkg/protocol/extension.errBufferTooSmall", "encoding/binary.BigEndian", "pub-convoy/pub/dtls/pkg/protocol/extension.errInvalidExtensionType", "pub-convoy/pub/dtls/pkg/protocol/extension.errLengthMismatch"], apart := false, laid := [("pub-convoy/pub/dtls/pkg/protocol/extension.errBufferTooSmall", laid_pub_convoy_pub_dtls_pkg_protocol_extension_errBufferTooSmall), ("pub-convoy/pub/dtls/pkg/protocol/extension.errInvalidExtensionType", laid_pub_convoy_pub_dtls_pkg_protocol_extension_errInvalidExtensionType), ("pub-convoy/pub/dtls/pkg/protocol/extension.errLengthMismatch", laid_pub_convoy_pub_dtls_pkg_protocol_extension_errLengthMismatch)] }
def FnPointFormatsCutSaid : Prop := fnPointFormatsCutRow.holds Tryd.pinned (OpenSpec.ofChange fnPointFormatsCutSpec)

/-- ITS FALSE NEIGHBOUR: 'it returns false'. Refute it at one input. -/
def fnPointFormatsCutWrong : ChangeSpec := { name := "fnPointFormatsCut", fn := fun _ => fun
  | [d1, d2] => { results := [.lit (.bool false)], args := [d1, d2] }
  | _ => none }
def FnPointFormatsCutWrongFalsely : Prop := fnPointFormatsCutRow.holds Tryd.pinned (OpenSpec.ofChange fnPointFormatsCutWrong)

/- THE SECOND FORM. 'bulk': how many values and letters a reading holds, each counted each time it is reached (what is shared counts as often as it is met; a slice's spare places count too). A statement '..UptoSaid' is the law's where the arguments, and the package variables that the reading takes, are together of bulk at most 1048576: NARROWER than '..Said'. Prove '..Said' where nothing that the law and all that it calls make is longer than what came in: it says more and counts as full. Else prove '..UptoSaid'. A law counts once. -/
mutual
def uptoBulk {H : Type} : DataW H → Nat
  | .lit (.string bytes) => bytes.length + 1
  | .lit _ => 1
  | .nil => 1
  | .ptr d => uptoBulk d + 1
  | .slice elems spare => uptoBulkAll elems + uptoBulkAll spare + 1
  | .agg parts => uptoBulkAll parts + 1
  | .iface _ d => uptoBulk d + 1
  | .map entries => uptoBulkEntries entries + 1
  | .held _ => 1
def uptoBulkAll {H : Type} : List (DataW H) → Nat
  | [] => 0
  | d :: r => uptoBulk d + uptoBulkAll r
def uptoBulkEntries {H : Type} : List (Lit × DataW H) → Nat
  | [] => 0
  | x :: r => uptoBulkEntry x + uptoBulkEntries r
def uptoBulkEntry {H : Type} : Lit × DataW H → Nat
  | (.string bytes, d) => bytes.length + uptoBulk d + 1
  | (_, d) => uptoBulk d + 1
 end
def uptoSmall : (H : Type) → List (DataW H) → Bool := fun _ ds => decide (uptoBulkAll ds ≤ 1048576)
def OpenSpec.upto (s : _root_.Go.ChangeSpec) : _root_.Go.OpenSpec := { _root_.Go.OpenSpec.ofChange s with cond := some uptoSmall }

/-- 'laws.FnPointFormatsCut', WHERE WHAT IT READS IS OF BULK AT MOST 1048576: true; the input reads as it did. -/
def fnPointFormatsCutUptoRow : OpenClaim := { program := "ytcggiljcimhfcabdoor", sum := "55df655ca14b5a46398273dcc3367304808ae8ec014c4e8f54399f8f5b59f672", func := "pub-convoy/laws.FnPointFormatsCut", spec := "fnPointFormatsCut", named := ["pub-convoy/pub/dtls/pkg/protocol/extension.errBufferTooSmall", "encoding/binary.BigEndian", "pub-convoy/pub/dtls/pkg/protocol/extension.errInvalidExtensionType", "pub-convoy/pub/dtls/pkg/protocol/extension.errLengthMismatch"], apart := false, laid := [("pub-convoy/pub/dtls/pkg/protocol/extension.errBufferTooSmall", laid_pub_convoy_pub_dtls_pkg_protocol_extension_errBufferTooSmall), ("pub-convoy/pub/dtls/pkg/protocol/extension.errInvalidExtensionType", laid_pub_convoy_pub_dtls_pkg_protocol_extension_errInvalidExtensionType), ("pub-convoy/pub/dtls/pkg/protocol/extension.errLengthMismatch", laid_pub_convoy_pub_dtls_pkg_protocol_extension_errLengthMismatch)], narrowed := true }
def FnPointFormatsCutUptoSaid : Prop := fnPointFormatsCutUptoRow.holds Tryd.pinned (OpenSpec.upto fnPointFormatsCutSpec)

end Rows
end Go.Proofs.YtcggiljcimhfcabDoor
