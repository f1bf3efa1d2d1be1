/-
  NARROWER THAN 'FOR EVERY INPUT', by the rows' own cells (each row's printed sentence says how): FnClientKeyBothCut: laid · FnClientKeyEcdheBack: laid · FnClientKeyPskWrite: laid · FnSRTPRefused: laid · FnHeaderWrite: laid · FnGroupsBack: laid · FnCompressionBack: laid · FnPostHandshake: laid · FnCertificateBack: laid · FnSRTPBack: laid · FnCookieBack: laid · FnHandshakeHeaderBack: laid.
  DERIVED. THE GIVEN ROWS OF THIS SEAT. 12 by the template 'for every input the law returns true; each argument reads behind the call as it read before'; 0 by the template 'total and deterministic' (their statements: YtdnjkjoioabhhaaDoorTotals.lean).
  GIVEN WITH THE SEED: the statements are not yours to turn. If you find one false, say at which input.
  Laid BY PROGRAM, IN A SANDBOX (cutbox-rows.mjs): the forced cells as the released guide's own fill.sh prints them over the translation e2684d7bb6782f9d… (all of the seat's roots in one cut). By AI agents, Wed Nov 11 2026. No macro, syntax, notation, axiom, sorry.
-/
import Derived.Test.YtdnjkjoioabhhaaDoorChecked
import GoSem.Claim
import GoSem.ClaimJoined
import GoSem.ClaimMapViews
import Derived.JoinedTies
import Derived.KernelRfl
namespace Go.Proofs.YtdnjkjoioabhhaaDoor
/- THE CELL 'sum', in the pinned program and in every row, IS THE sha256 OF THE DUMP (.gsa) THAT YtdnjkjoioabhhaaDoorProg.lean LOADS. Nothing in Lean hashes anything: it is a label: what it is worth is what the hold of that sum in a sandbox is worth. -/
noncomputable def Tryd.pinned : Pinned := { name := "ytdnjkjoioabhhaadoor", sum := "e2684d7bb6782f9d7140e8d7efcfc08c9a6d42f95bb9a67ff3ea810851f163f1", checked := Tryd.checked }
namespace Rows
def none {H : Type} : Left H := { results := [], args := [] }

/- WHAT THE LISTED PACKAGE-LEVEL VARIABLES READ AS WHEN THE CALL BEGINS. Each datum BY PROGRAM (the guide's laid-datum.mjs) off the statement by which the dump's own 'gosem.cut.vars' lays the variable. In a bare row this is a premise. The card (YtdnjkjoioabhhaaDoorCards.lean) ties it to the program's text. -/
def laid_pub_convoy_pub_dtls_pkg_protocol_handshake_errBufferTooSmall {H : Type} : DataW H := .iface "*errors.errorString" (.ptr (.agg [.lit (.string [98, 117, 102, 102, 101, 114, 32, 105, 115, 32, 116, 111, 111, 32, 115, 109, 97, 108, 108])]))
def laid_pub_convoy_pub_dtls_pkg_protocol_handshake_errCipherSuiteUnset {H : Type} : DataW H := .iface "*errors.errorString" (.ptr (.agg [.lit (.string [115, 101, 114, 118, 101, 114, 32, 104, 101, 108, 108, 111, 32, 99, 97, 110, 32, 110, 111, 116, 32, 98, 101, 32, 99, 114, 101, 97, 116, 101, 100, 32, 119, 105, 116, 104, 111, 117, 116, 32, 97, 32, 99, 105, 112, 104, 101, 114, 32, 115, 117, 105, 116, 101])]))
def laid_pub_convoy_pub_dtls_pkg_protocol_handshake_errInvalidClientKeyExchange {H : Type} : DataW H := .iface "*errors.errorString" (.ptr (.agg [.lit (.string [117, 110, 97, 98, 108, 101, 32, 116, 111, 32, 100, 101, 116, 101, 114, 109, 105, 110, 101, 32, 105, 102, 32, 67, 108, 105, 101, 110, 116, 75, 101, 121, 69, 120, 99, 104, 97, 110, 103, 101, 32, 105, 115, 32, 97, 32, 112, 117, 98, 108, 105, 99, 32, 107, 101, 121, 32, 111, 114, 32, 80, 83, 75, 32, 73, 100, 101, 110, 116, 105, 116, 121])]))
def laid_pub_convoy_pub_dtls_pkg_protocol_handshake_errPublicKeyTooLong {H : Type} : DataW H := .iface "*errors.errorString" (.ptr (.agg [.lit (.string [112, 117, 98, 108, 105, 99, 32, 107, 101, 121, 32, 109, 117, 115, 116, 32, 110, 111, 116, 32, 98, 101, 32, 108, 111, 110, 103, 101, 114, 32, 116, 104, 97, 110, 32, 50, 53, 53, 32, 98, 121, 116, 101, 115])]))
def laid_pub_convoy_pub_dtls_pkg_protocol_extension_errMasterKeyIdentifierTooLarge {H : Type} : DataW H := .iface "*errors.errorString" (.ptr (.agg [.lit (.string [109, 97, 115, 116, 101, 114, 32, 107, 101, 121, 32, 105, 100, 101, 110, 116, 105, 102, 105, 101, 114, 32, 105, 115, 32, 111, 118, 101, 114, 32, 50, 53, 53, 32, 98, 121, 116, 101, 115])]))
def laid_pub_convoy_pub_dtls_pkg_protocol_extension_errUseSRTPDataTooLarge {H : Type} : DataW H := .iface "*errors.errorString" (.ptr (.agg [.lit (.string [117, 115, 101, 95, 115, 114, 116, 112, 32, 101, 120, 116, 101, 110, 115, 105, 111, 110, 32, 100, 97, 116, 97, 32, 101, 120, 99, 101, 101, 100, 115, 32, 117, 105, 110, 116, 49, 54, 32, 108, 101, 110, 103, 116, 104])]))
def laid_pub_convoy_pub_dtls_pkg_protocol_recordlayer_errSequenceNumberOverflow {H : Type} : DataW H := .iface "*errors.errorString" (.ptr (.agg [.lit (.string [115, 101, 113, 117, 101, 110, 99, 101, 32, 110, 117, 109, 98, 101, 114, 32, 111, 118, 101, 114, 102, 108, 111, 119])]))
def laid_pub_convoy_pub_dtls_pkg_protocol_extension_errBufferTooSmall {H : Type} : DataW H := .iface "*errors.errorString" (.ptr (.agg [.lit (.string [98, 117, 102, 102, 101, 114, 32, 105, 115, 32, 116, 111, 111, 32, 115, 109, 97, 108, 108])]))
def laid_pub_convoy_pub_dtls_pkg_protocol_extension_errInvalidExtensionType {H : Type} : DataW H := .iface "*errors.errorString" (.ptr (.agg [.lit (.string [105, 110, 118, 97, 108, 105, 100, 32, 101, 120, 116, 101, 110, 115, 105, 111, 110, 32, 116, 121, 112, 101])]))
def laid_pub_convoy_pub_dtls_pkg_protocol_extension_errLengthMismatch {H : Type} : DataW H := .iface "*errors.errorString" (.ptr (.agg [.lit (.string [100, 97, 116, 97, 32, 108, 101, 110, 103, 116, 104, 32, 97, 110, 100, 32, 100, 101, 99, 108, 97, 114, 101, 100, 32, 108, 101, 110, 103, 116, 104, 32, 100, 111, 32, 110, 111, 116, 32, 109, 97, 116, 99, 104])]))
def laid_pub_convoy_pub_dtls_pkg_protocol_errBufferTooSmall {H : Type} : DataW H := .iface "*errors.errorString" (.ptr (.agg [.lit (.string [98, 117, 102, 102, 101, 114, 32, 105, 115, 32, 116, 111, 111, 32, 115, 109, 97, 108, 108])]))
def laid_pub_convoy_pub_dtls_pkg_protocol_handshake_errLengthMismatch {H : Type} : DataW H := .iface "*errors.errorString" (.ptr (.agg [.lit (.string [100, 97, 116, 97, 32, 108, 101, 110, 103, 116, 104, 32, 97, 110, 100, 32, 100, 101, 99, 108, 97, 114, 101, 100, 32, 108, 101, 110, 103, 116, 104, 32, 100, 111, 32, 110, 111, 116, 32, 109, 97, 116, 99, 104])]))
def laid_pub_convoy_pub_dtls_pkg_protocol_extension_errCookieExtFormat {H : Type} : DataW H := .iface "*errors.errorString" (.ptr (.agg [.lit (.string [105, 110, 118, 97, 108, 105, 100, 32, 99, 111, 111, 107, 105, 101, 32, 102, 111, 114, 109, 97, 116])]))

/-- 'laws.FnClientKeyBothCut': WHATEVER THE INPUT: true; the input reads as it did. -/
def fnClientKeyBothCutSpec : ChangeSpec := { name := "fnClientKeyBothCut", fn := fun _ => fun
  | [d1, d2, d3] => { results := [.lit (.bool true)], args := [d1, d2, d3] }
  | _ => none }
def fnClientKeyBothCutRow : OpenClaim := { program := "ytdnjkjoioabhhaadoor", sum := "e2684d7bb6782f9d7140e8d7efcfc08c9a6d42f95bb9a67ff3ea810851f163f1", func := "pub-convoy/laws.FnClientKeyBothCut", spec := "fnClientKeyBothCut", named := ["pub-convoy/pub/dtls/pkg/protocol/handshake.errBufferTooSmall", "pub-convoy/pub/dtls/pkg/protocol/handshake.errCipherSuiteUnset", "encoding/binary.BigEndian"], apart := false, laid := [("pub-convoy/pub/dtls/pkg/protocol/handshake.errBufferTooSmall", laid_pub_convoy_pub_dtls_pkg_protocol_handshake_errBufferTooSmall), ("pub-convoy/pub/dtls/pkg/protocol/handshake.errCipherSuiteUnset", laid_pub_convoy_pub_dtls_pkg_protocol_handshake_errCipherSuiteUnset)] }
def FnClientKeyBothCutSaid : Prop := fnClientKeyBothCutRow.holds Tryd.pinned (OpenSpec.ofChange fnClientKeyBothCutSpec)

/-- ITS FALSE NEIGHBOUR: 'it returns false'. Refute it at one input. -/
def fnClientKeyBothCutWrong : ChangeSpec := { name := "fnClientKeyBothCut", fn := fun _ => fun
  | [d1, d2, d3] => { results := [.lit (.bool false)], args := [d1, d2, d3] }
  | _ => none }
def FnClientKeyBothCutWrongFalsely : Prop := fnClientKeyBothCutRow.holds Tryd.pinned (OpenSpec.ofChange fnClientKeyBothCutWrong)

/-- 'laws.FnClientKeyEcdheBack': WHATEVER THE INPUT: true; the input reads as it did. -/
def fnClientKeyEcdheBackSpec : ChangeSpec := { name := "fnClientKeyEcdheBack", fn := fun _ => fun
  | [d] => { results := [.lit (.bool true)], args := [d] }
  | _ => none }
def fnClientKeyEcdheBackRow : OpenClaim := { program := "ytdnjkjoioabhhaadoor", sum := "e2684d7bb6782f9d7140e8d7efcfc08c9a6d42f95bb9a67ff3ea810851f163f1", func := "pub-convoy/laws.FnClientKeyEcdheBack", spec := "fnClientKeyEcdheBack", unfollowed := true, recurses := true, named := ["pub-convoy/pub/dtls/pkg/protocol/handshake.errBufferTooSmall", "pub-convoy/pub/dtls/pkg/protocol/handshake.errCipherSuiteUnset", "encoding/binary.BigEndian"], apart := false, laid := [("pub-convoy/pub/dtls/pkg/protocol/handshake.errBufferTooSmall", laid_pub_convoy_pub_dtls_pkg_protocol_handshake_errBufferTooSmall), ("pub-convoy/pub/dtls/pkg/protocol/handshake.errCipherSuiteUnset", laid_pub_convoy_pub_dtls_pkg_protocol_handshake_errCipherSuiteUnset)] }
def FnClientKeyEcdheBackSaid : Prop := fnClientKeyEcdheBackRow.holds Tryd.pinned (OpenSpec.ofChange fnClientKeyEcdheBackSpec)

/-- ITS FALSE NEIGHBOUR: 'it returns false'. Refute it at one input. -/
def fnClientKeyEcdheBackWrong : ChangeSpec := { name := "fnClientKeyEcdheBack", fn := fun _ => fun
  | [d] => { results := [.lit (.bool false)], args := [d] }
  | _ => none }
def FnClientKeyEcdheBackWrongFalsely : Prop := fnClientKeyEcdheBackRow.holds Tryd.pinned (OpenSpec.ofChange fnClientKeyEcdheBackWrong)

/-- 'laws.FnClientKeyPskWrite': WHATEVER THE INPUT: true; the input reads as it did. -/
def fnClientKeyPskWriteSpec : ChangeSpec := { name := "fnClientKeyPskWrite", fn := fun _ => fun
  | [d] => { results := [.lit (.bool true)], args := [d] }
  | _ => none }
def fnClientKeyPskWriteRow : OpenClaim := { program := "ytdnjkjoioabhhaadoor", sum := "e2684d7bb6782f9d7140e8d7efcfc08c9a6d42f95bb9a67ff3ea810851f163f1", func := "pub-convoy/laws.FnClientKeyPskWrite", spec := "fnClientKeyPskWrite", named := ["pub-convoy/pub/dtls/pkg/protocol/handshake.errInvalidClientKeyExchange", "encoding/binary.BigEndian", "pub-convoy/pub/dtls/pkg/protocol/handshake.errPublicKeyTooLong"], apart := false, laid := [("pub-convoy/pub/dtls/pkg/protocol/handshake.errInvalidClientKeyExchange", laid_pub_convoy_pub_dtls_pkg_protocol_handshake_errInvalidClientKeyExchange), ("pub-convoy/pub/dtls/pkg/protocol/handshake.errPublicKeyTooLong", laid_pub_convoy_pub_dtls_pkg_protocol_handshake_errPublicKeyTooLong)] }
def FnClientKeyPskWriteSaid : Prop := fnClientKeyPskWriteRow.holds Tryd.pinned (OpenSpec.ofChange fnClientKeyPskWriteSpec)

/-- ITS FALSE NEIGHBOUR: 'it returns false'. Refute it at one input. -/
def fnClientKeyPskWriteWrong : ChangeSpec := { name := "fnClientKeyPskWrite", fn := fun _ => fun
  | [d] => { results := [.lit (.bool false)], args := [d] }
  | _ => none }
def FnClientKeyPskWriteWrongFalsely : Prop := fnClientKeyPskWriteRow.holds Tryd.pinned (OpenSpec.ofChange fnClientKeyPskWriteWrong)

/-- 'laws.FnSRTPRefused': WHATEVER THE INPUT: true; the input reads as it did. -/
def fnSRTPRefusedSpec : ChangeSpec := { name := "fnSRTPRefused", fn := fun _ => fun
  | [d] => { results := [.lit (.bool true)], args := [d] }
  | _ => none }
def fnSRTPRefusedRow : OpenClaim := { program := "ytdnjkjoioabhhaadoor", sum := "e2684d7bb6782f9d7140e8d7efcfc08c9a6d42f95bb9a67ff3ea810851f163f1", func := "pub-convoy/laws.FnSRTPRefused", spec := "fnSRTPRefused", named := ["pub-convoy/pub/dtls/pkg/protocol/extension.errMasterKeyIdentifierTooLarge", "pub-convoy/pub/dtls/pkg/protocol/extension.errUseSRTPDataTooLarge", "encoding/binary.BigEndian"], apart := false, laid := [("pub-convoy/pub/dtls/pkg/protocol/extension.errMasterKeyIdentifierTooLarge", laid_pub_convoy_pub_dtls_pkg_protocol_extension_errMasterKeyIdentifierTooLarge), ("pub-convoy/pub/dtls/pkg/protocol/extension.errUseSRTPDataTooLarge", laid_pub_convoy_pub_dtls_pkg_protocol_extension_errUseSRTPDataTooLarge)] }
def FnSRTPRefusedSaid : Prop := fnSRTPRefusedRow.holds Tryd.pinned (OpenSpec.ofChange fnSRTPRefusedSpec)

/-- ITS FALSE NEIGHBOUR: 'it returns false'. Refute it at one input. -/
def fnSRTPRefusedWrong : ChangeSpec := { name := "fnSRTPRefused", fn := fun _ => fun
  | [d] => { results := [.lit (.bool false)], args := [d] }
  | _ => none }
def FnSRTPRefusedWrongFalsely : Prop := fnSRTPRefusedRow.holds Tryd.pinned (OpenSpec.ofChange fnSRTPRefusedWrong)

/-- 'laws.FnHeaderWrite': WHATEVER THE INPUT: true; the input reads as it did. -/
def fnHeaderWriteSpec : ChangeSpec := { name := "fnHeaderWrite", fn := fun _ => fun
  | [d] => { results := [.lit (.bool true)], args := [d] }
  | _ => none }
def fnHeaderWriteRow : OpenClaim := { program := "ytdnjkjoioabhhaadoor", sum := "e2684d7bb6782f9d7140e8d7efcfc08c9a6d42f95bb9a67ff3ea810851f163f1", func := "pub-convoy/laws.FnHeaderWrite", spec := "fnHeaderWrite", named := ["pub-convoy/pub/dtls/pkg/protocol/recordlayer.errSequenceNumberOverflow", "encoding/binary.BigEndian"], apart := false, laid := [("pub-convoy/pub/dtls/pkg/protocol/recordlayer.errSequenceNumberOverflow", laid_pub_convoy_pub_dtls_pkg_protocol_recordlayer_errSequenceNumberOverflow)] }
def FnHeaderWriteSaid : Prop := fnHeaderWriteRow.holds Tryd.pinned (OpenSpec.ofChange fnHeaderWriteSpec)

/-- ITS FALSE NEIGHBOUR: 'it returns false'. Refute it at one input. -/
def fnHeaderWriteWrong : ChangeSpec := { name := "fnHeaderWrite", fn := fun _ => fun
  | [d] => { results := [.lit (.bool false)], args := [d] }
  | _ => none }
def FnHeaderWriteWrongFalsely : Prop := fnHeaderWriteRow.holds Tryd.pinned (OpenSpec.ofChange fnHeaderWriteWrong)

/-- 'laws.FnGroupsBack': WHATEVER THE INPUT: true; the input reads as it did. -/
def fnGroupsBackSpec : ChangeSpec := { name := "fnGroupsBack", fn := fun _ => fun
  | [d] => { results := [.lit (.bool true)], args := [d] }
  | _ => none }
def fnGroupsBackRow : OpenClaim := { program := "ytdnjkjoioabhhaadoor", sum := "e2684d7bb6782f9d7140e8d7efcfc08c9a6d42f95bb9a67ff3ea810851f163f1", func := "pub-convoy/laws.FnGroupsBack", spec := "fnGroupsBack", unfollowed := true, recurses := true, named := ["pub-convoy/pub/dtls/pkg/protocol/extension.errBufferTooSmall", "encoding/binary.BigEndian", "pub-convoy/pub/dtls/pkg/protocol/extension.errInvalidExtensionType", "pub-convoy/pub/dtls/pkg/protocol/extension.errLengthMismatch"], apart := false, laid := [("pub-convoy/pub/dtls/pkg/protocol/extension.errBufferTooSmall", laid_pub_convoy_pub_dtls_pkg_protocol_extension_errBufferTooSmall), ("pub-convoy/pub/dtls/pkg/protocol/extension.errInvalidExtensionType", laid_pub_convoy_pub_dtls_pkg_protocol_extension_errInvalidExtensionType), ("pub-convoy/pub/dtls/pkg/protocol/extension.errLengthMismatch", laid_pub_convoy_pub_dtls_pkg_protocol_extension_errLengthMismatch)] }
def FnGroupsBackSaid : Prop := fnGroupsBackRow.holds Tryd.pinned (OpenSpec.ofChange fnGroupsBackSpec)

/-- ITS FALSE NEIGHBOUR: 'it returns false'. Refute it at one input. -/
def fnGroupsBackWrong : ChangeSpec := { name := "fnGroupsBack", fn := fun _ => fun
  | [d] => { results := [.lit (.bool false)], args := [d] }
  | _ => none }
def FnGroupsBackWrongFalsely : Prop := fnGroupsBackRow.holds Tryd.pinned (OpenSpec.ofChange fnGroupsBackWrong)

/-- 'laws.FnCompressionBack': WHATEVER THE INPUT: true; the input reads as it did. -/
def fnCompressionBackSpec : ChangeSpec := { name := "fnCompressionBack", fn := fun _ => fun
  | [d1, d2, d3] => { results := [.lit (.bool true)], args := [d1, d2, d3] }
  | _ => none }
def fnCompressionBackRow : OpenClaim := { program := "ytdnjkjoioabhhaadoor", sum := "e2684d7bb6782f9d7140e8d7efcfc08c9a6d42f95bb9a67ff3ea810851f163f1", func := "pub-convoy/laws.FnCompressionBack", spec := "fnCompressionBack", named := ["pub-convoy/pub/dtls/pkg/protocol.errBufferTooSmall"], apart := false, laid := [("pub-convoy/pub/dtls/pkg/protocol.errBufferTooSmall", laid_pub_convoy_pub_dtls_pkg_protocol_errBufferTooSmall)] }
def FnCompressionBackSaid : Prop := fnCompressionBackRow.holds Tryd.pinned (OpenSpec.ofChange fnCompressionBackSpec)

/-- ITS FALSE NEIGHBOUR: 'it returns false'. Refute it at one input. -/
def fnCompressionBackWrong : ChangeSpec := { name := "fnCompressionBack", fn := fun _ => fun
  | [d1, d2, d3] => { results := [.lit (.bool false)], args := [d1, d2, d3] }
  | _ => none }
def FnCompressionBackWrongFalsely : Prop := fnCompressionBackRow.holds Tryd.pinned (OpenSpec.ofChange fnCompressionBackWrong)

/-- 'laws.FnPostHandshake': WHATEVER THE INPUT: true; the input reads as it did. -/
def fnPostHandshakeSpec : ChangeSpec := { name := "fnPostHandshake", fn := fun _ => fun
  | [d] => { results := [.lit (.bool true)], args := [d] }
  | _ => none }
def fnPostHandshakeRow : OpenClaim := { program := "ytdnjkjoioabhhaadoor", sum := "e2684d7bb6782f9d7140e8d7efcfc08c9a6d42f95bb9a67ff3ea810851f163f1", func := "pub-convoy/laws.FnPostHandshake", spec := "fnPostHandshake", unfollowed := true, recurses := true, named := ["encoding/binary.BigEndian", "pub-convoy/pub/dtls/pkg/protocol/extension.errBufferTooSmall", "pub-convoy/pub/dtls/pkg/protocol/extension.errLengthMismatch", "pub-convoy/pub/dtls/pkg/protocol/extension.errInvalidExtensionType"], apart := false, laid := [("pub-convoy/pub/dtls/pkg/protocol/extension.errBufferTooSmall", laid_pub_convoy_pub_dtls_pkg_protocol_extension_errBufferTooSmall), ("pub-convoy/pub/dtls/pkg/protocol/extension.errInvalidExtensionType", laid_pub_convoy_pub_dtls_pkg_protocol_extension_errInvalidExtensionType), ("pub-convoy/pub/dtls/pkg/protocol/extension.errLengthMismatch", laid_pub_convoy_pub_dtls_pkg_protocol_extension_errLengthMismatch)] }
def FnPostHandshakeSaid : Prop := fnPostHandshakeRow.holds Tryd.pinned (OpenSpec.ofChange fnPostHandshakeSpec)

/-- ITS FALSE NEIGHBOUR: 'it returns false'. Refute it at one input. -/
def fnPostHandshakeWrong : ChangeSpec := { name := "fnPostHandshake", fn := fun _ => fun
  | [d] => { results := [.lit (.bool false)], args := [d] }
  | _ => none }
def FnPostHandshakeWrongFalsely : Prop := fnPostHandshakeRow.holds Tryd.pinned (OpenSpec.ofChange fnPostHandshakeWrong)

/-- 'laws.FnCertificateBack': WHATEVER THE INPUT: true; the input reads as it did. -/
def fnCertificateBackSpec : ChangeSpec := { name := "fnCertificateBack", fn := fun _ => fun
  | [d] => { results := [.lit (.bool true)], args := [d] }
  | _ => none }
def fnCertificateBackRow : OpenClaim := { program := "ytdnjkjoioabhhaadoor", sum := "e2684d7bb6782f9d7140e8d7efcfc08c9a6d42f95bb9a67ff3ea810851f163f1", func := "pub-convoy/laws.FnCertificateBack", spec := "fnCertificateBack", unfollowed := true, recurses := true, named := ["pub-convoy/pub/dtls/pkg/protocol/handshake.errBufferTooSmall", "pub-convoy/pub/dtls/pkg/protocol/handshake.errLengthMismatch", "encoding/binary.BigEndian"], apart := false, laid := [("pub-convoy/pub/dtls/pkg/protocol/handshake.errBufferTooSmall", laid_pub_convoy_pub_dtls_pkg_protocol_handshake_errBufferTooSmall), ("pub-convoy/pub/dtls/pkg/protocol/handshake.errLengthMismatch", laid_pub_convoy_pub_dtls_pkg_protocol_handshake_errLengthMismatch)] }
def FnCertificateBackSaid : Prop := fnCertificateBackRow.holds Tryd.pinned (OpenSpec.ofChange fnCertificateBackSpec)

/-- ITS FALSE NEIGHBOUR: 'it returns false'. Refute it at one input. -/
def fnCertificateBackWrong : ChangeSpec := { name := "fnCertificateBack", fn := fun _ => fun
  | [d] => { results := [.lit (.bool false)], args := [d] }
  | _ => none }
def FnCertificateBackWrongFalsely : Prop := fnCertificateBackRow.holds Tryd.pinned (OpenSpec.ofChange fnCertificateBackWrong)

/-- 'laws.FnSRTPBack': WHATEVER THE INPUT: true; the input reads as it did. -/
def fnSRTPBackSpec : ChangeSpec := { name := "fnSRTPBack", fn := fun _ => fun
  | [d1, d2] => { results := [.lit (.bool true)], args := [d1, d2] }
  | _ => none }
def fnSRTPBackRow : OpenClaim := { program := "ytdnjkjoioabhhaadoor", sum := "e2684d7bb6782f9d7140e8d7efcfc08c9a6d42f95bb9a67ff3ea810851f163f1", func := "pub-convoy/laws.FnSRTPBack", spec := "fnSRTPBack", unfollowed := true, recurses := true, named := ["pub-convoy/pub/dtls/pkg/protocol/extension.errBufferTooSmall", "encoding/binary.BigEndian", "pub-convoy/pub/dtls/pkg/protocol/extension.errInvalidExtensionType", "pub-convoy/pub/dtls/pkg/protocol/extension.errLengthMismatch"], apart := false, laid := [("pub-convoy/pub/dtls/pkg/protocol/extension.errBufferTooSmall", laid_pub_convoy_pub_dtls_pkg_protocol_extension_errBufferTooSmall), ("pub-convoy/pub/dtls/pkg/protocol/extension.errInvalidExtensionType", laid_pub_convoy_pub_dtls_pkg_protocol_extension_errInvalidExtensionType), ("pub-convoy/pub/dtls/pkg/protocol/extension.errLengthMismatch", laid_pub_convoy_pub_dtls_pkg_protocol_extension_errLengthMismatch)] }
def FnSRTPBackSaid : Prop := fnSRTPBackRow.holds Tryd.pinned (OpenSpec.ofChange fnSRTPBackSpec)

/-- ITS FALSE NEIGHBOUR: 'it returns false'. Refute it at one input. -/
def fnSRTPBackWrong : ChangeSpec := { name := "fnSRTPBack", fn := fun _ => fun
  | [d1, d2] => { results := [.lit (.bool false)], args := [d1, d2] }
  | _ => none }
def FnSRTPBackWrongFalsely : Prop := fnSRTPBackRow.holds Tryd.pinned (OpenSpec.ofChange fnSRTPBackWrong)

/-- 'laws.FnCookieBack': WHATEVER THE INPUT: true; the input reads as it did. -/
def fnCookieBackSpec : ChangeSpec := { name := "fnCookieBack", fn := fun _ => fun
  | [d] => { results := [.lit (.bool true)], args := [d] }
  | _ => none }
def fnCookieBackRow : OpenClaim := { program := "ytdnjkjoioabhhaadoor", sum := "e2684d7bb6782f9d7140e8d7efcfc08c9a6d42f95bb9a67ff3ea810851f163f1", func := "pub-convoy/laws.FnCookieBack", spec := "fnCookieBack", unfollowed := true, recurses := true, named := ["pub-convoy/pub/dtls/pkg/protocol/extension.errInvalidExtensionType", "pub-convoy/pub/dtls/pkg/protocol/extension.errBufferTooSmall", "pub-convoy/pub/dtls/pkg/protocol/extension.errCookieExtFormat", "pub-convoy/pub/dtls/pkg/protocol/extension.errLengthMismatch"], apart := false, laid := [("pub-convoy/pub/dtls/pkg/protocol/extension.errBufferTooSmall", laid_pub_convoy_pub_dtls_pkg_protocol_extension_errBufferTooSmall), ("pub-convoy/pub/dtls/pkg/protocol/extension.errInvalidExtensionType", laid_pub_convoy_pub_dtls_pkg_protocol_extension_errInvalidExtensionType), ("pub-convoy/pub/dtls/pkg/protocol/extension.errLengthMismatch", laid_pub_convoy_pub_dtls_pkg_protocol_extension_errLengthMismatch), ("pub-convoy/pub/dtls/pkg/protocol/extension.errCookieExtFormat", laid_pub_convoy_pub_dtls_pkg_protocol_extension_errCookieExtFormat)] }
def FnCookieBackSaid : Prop := fnCookieBackRow.holds Tryd.pinned (OpenSpec.ofChange fnCookieBackSpec)

/-- ITS FALSE NEIGHBOUR: 'it returns false'. Refute it at one input. -/
def fnCookieBackWrong : ChangeSpec := { name := "fnCookieBack", fn := fun _ => fun
  | [d] => { results := [.lit (.bool false)], args := [d] }
  | _ => none }
def FnCookieBackWrongFalsely : Prop := fnCookieBackRow.holds Tryd.pinned (OpenSpec.ofChange fnCookieBackWrong)

/-- 'laws.FnHandshakeHeaderBack': WHATEVER THE INPUT: true; the input reads as it did. -/
def fnHandshakeHeaderBackSpec : ChangeSpec := { name := "fnHandshakeHeaderBack", fn := fun _ => fun
  | [d1, d2] => { results := [.lit (.bool true)], args := [d1, d2] }
  | _ => none }
def fnHandshakeHeaderBackRow : OpenClaim := { program := "ytdnjkjoioabhhaadoor", sum := "e2684d7bb6782f9d7140e8d7efcfc08c9a6d42f95bb9a67ff3ea810851f163f1", func := "pub-convoy/laws.FnHandshakeHeaderBack", spec := "fnHandshakeHeaderBack", named := ["encoding/binary.BigEndian", "pub-convoy/pub/dtls/pkg/protocol/handshake.errBufferTooSmall"], apart := false, laid := [("pub-convoy/pub/dtls/pkg/protocol/handshake.errBufferTooSmall", laid_pub_convoy_pub_dtls_pkg_protocol_handshake_errBufferTooSmall)] }
def FnHandshakeHeaderBackSaid : Prop := fnHandshakeHeaderBackRow.holds Tryd.pinned (OpenSpec.ofChange fnHandshakeHeaderBackSpec)

/-- ITS FALSE NEIGHBOUR: 'it returns false'. Refute it at one input. -/
def fnHandshakeHeaderBackWrong : ChangeSpec := { name := "fnHandshakeHeaderBack", fn := fun _ => fun
  | [d1, d2] => { results := [.lit (.bool false)], args := [d1, d2] }
  | _ => none }
def FnHandshakeHeaderBackWrongFalsely : Prop := fnHandshakeHeaderBackRow.holds Tryd.pinned (OpenSpec.ofChange fnHandshakeHeaderBackWrong)

/- THE SECOND FORM. 'bulk': how many values and letters a reading holds, each counted each time it is reached (what is shared counts as often as it is met; a slice's spare places count too). A statement '..UptoSaid' is the law's where the arguments, and the package variables that the reading takes, are together of bulk at most 1048576: NARROWER than '..Said'. Prove '..Said' where nothing that the law and all that it calls make is longer than what came in: it says more and counts as full. Else prove '..UptoSaid'. A law counts once. -/
mutual
def uptoBulk {H : Type} : DataW H → Nat
  | .lit (.string bytes) => bytes.length + 1
  | .lit _ => 1
  | .nil => 1
  | .ptr d => uptoBulk d + 1
  | .slice elems spare => uptoBulkAll elems + uptoBulkAll spare + 1
  | .agg parts => uptoBulkAll parts + 1
  | .iface _ d => uptoBulk d + 1
  | .map entries => uptoBulkEntries entries + 1
  | .held _ => 1
def uptoBulkAll {H : Type} : List (DataW H) → Nat
  | [] => 0
  | d :: r => uptoBulk d + uptoBulkAll r
def uptoBulkEntries {H : Type} : List (Lit × DataW H) → Nat
  | [] => 0
  | x :: r => uptoBulkEntry x + uptoBulkEntries r
def uptoBulkEntry {H : Type} : Lit × DataW H → Nat
  | (.string bytes, d) => bytes.length + uptoBulk d + 1
  | (_, d) => uptoBulk d + 1
 end
def uptoSmall : (H : Type) → List (DataW H) → Bool := fun _ ds => decide (uptoBulkAll ds ≤ 1048576)
def OpenSpec.upto (s : _root_.Go.ChangeSpec) : _root_.Go.OpenSpec := { _root_.Go.OpenSpec.ofChange s with cond := some uptoSmall }

/-- 'laws.FnClientKeyBothCut', WHERE WHAT IT READS IS OF BULK AT MOST 1048576: true; the input reads as it did. -/
def fnClientKeyBothCutUptoRow : OpenClaim := { program := "ytdnjkjoioabhhaadoor", sum := "e2684d7bb6782f9d7140e8d7efcfc08c9a6d42f95bb9a67ff3ea810851f163f1", func := "pub-convoy/laws.FnClientKeyBothCut", spec := "fnClientKeyBothCut", named := ["pub-convoy/pub/dtls/pkg/protocol/handshake.errBufferTooSmall", "pub-convoy/pub/dtls/pkg/protocol/handshake.errCipherSuiteUnset", "encoding/binary.BigEndian"], apart := false, laid := [("pub-convoy/pub/dtls/pkg/protocol/handshake.errBufferTooSmall", laid_pub_convoy_pub_dtls_pkg_protocol_handshake_errBufferTooSmall), ("pub-convoy/pub/dtls/pkg/protocol/handshake.errCipherSuiteUnset", laid_pub_convoy_pub_dtls_pkg_protocol_handshake_errCipherSuiteUnset)], narrowed := true }
def FnClientKeyBothCutUptoSaid : Prop := fnClientKeyBothCutUptoRow.holds Tryd.pinned (OpenSpec.upto fnClientKeyBothCutSpec)

/-- 'laws.FnClientKeyEcdheBack', WHERE WHAT IT READS IS OF BULK AT MOST 1048576: true; the input reads as it did. -/
def fnClientKeyEcdheBackUptoRow : OpenClaim := { program := "ytdnjkjoioabhhaadoor", sum := "e2684d7bb6782f9d7140e8d7efcfc08c9a6d42f95bb9a67ff3ea810851f163f1", func := "pub-convoy/laws.FnClientKeyEcdheBack", spec := "fnClientKeyEcdheBack", unfollowed := true, recurses := true, named := ["pub-convoy/pub/dtls/pkg/protocol/handshake.errBufferTooSmall", "pub-convoy/pub/dtls/pkg/protocol/handshake.errCipherSuiteUnset", "encoding/binary.BigEndian"], apart := false, laid := [("pub-convoy/pub/dtls/pkg/protocol/handshake.errBufferTooSmall", laid_pub_convoy_pub_dtls_pkg_protocol_handshake_errBufferTooSmall), ("pub-convoy/pub/dtls/pkg/protocol/handshake.errCipherSuiteUnset", laid_pub_convoy_pub_dtls_pkg_protocol_handshake_errCipherSuiteUnset)], narrowed := true }
def FnClientKeyEcdheBackUptoSaid : Prop := fnClientKeyEcdheBackUptoRow.holds Tryd.pinned (OpenSpec.upto fnClientKeyEcdheBackSpec)

/-- 'laws.FnClientKeyPskWrite', WHERE WHAT IT READS IS OF BULK AT MOST 1048576: true; the input reads as it did. -/
def fnClientKeyPskWriteUptoRow : OpenClaim := { program := "ytdnjkjoioabhhaadoor", sum := "e2684d7bb6782f9d7140e8d7efcfc08c9a6d42f95bb9a67ff3ea810851f163f1", func := "pub-convoy/laws.FnClientKeyPskWrite", spec := "fnClientKeyPskWrite", named := ["pub-convoy/pub/dtls/pkg/protocol/handshake.errInvalidClientKeyExchange", "encoding/binary.BigEndian", "pub-convoy/pub/dtls/pkg/protocol/handshake.errPublicKeyTooLong"], apart := false, laid := [("pub-convoy/pub/dtls/pkg/protocol/handshake.errInvalidClientKeyExchange", laid_pub_convoy_pub_dtls_pkg_protocol_handshake_errInvalidClientKeyExchange), ("pub-convoy/pub/dtls/pkg/protocol/handshake.errPublicKeyTooLong", laid_pub_convoy_pub_dtls_pkg_protocol_handshake_errPublicKeyTooLong)], narrowed := true }
def FnClientKeyPskWriteUptoSaid : Prop := fnClientKeyPskWriteUptoRow.holds Tryd.pinned (OpenSpec.upto fnClientKeyPskWriteSpec)

/-- 'laws.FnSRTPRefused', WHERE WHAT IT READS IS OF BULK AT MOST 1048576: true; the input reads as it did. -/
def fnSRTPRefusedUptoRow : OpenClaim := { program := "ytdnjkjoioabhhaadoor", sum := "e2684d7bb6782f9d7140e8d7efcfc08c9a6d42f95bb9a67ff3ea810851f163f1", func := "pub-convoy/laws.FnSRTPRefused", spec := "fnSRTPRefused", named := ["pub-convoy/pub/dtls/pkg/protocol/extension.errMasterKeyIdentifierTooLarge", "pub-convoy/pub/dtls/pkg/protocol/extension.errUseSRTPDataTooLarge", "encoding/binary.BigEndian"], apart := false, laid := [("pub-convoy/pub/dtls/pkg/protocol/extension.errMasterKeyIdentifierTooLarge", laid_pub_convoy_pub_dtls_pkg_protocol_extension_errMasterKeyIdentifierTooLarge), ("pub-convoy/pub/dtls/pkg/protocol/extension.errUseSRTPDataTooLarge", laid_pub_convoy_pub_dtls_pkg_protocol_extension_errUseSRTPDataTooLarge)], narrowed := true }
def FnSRTPRefusedUptoSaid : Prop := fnSRTPRefusedUptoRow.holds Tryd.pinned (OpenSpec.upto fnSRTPRefusedSpec)

/-- 'laws.FnHeaderWrite', WHERE WHAT IT READS IS OF BULK AT MOST 1048576: true; the input reads as it did. -/
def fnHeaderWriteUptoRow : OpenClaim := { program := "ytdnjkjoioabhhaadoor", sum := "e2684d7bb6782f9d7140e8d7efcfc08c9a6d42f95bb9a67ff3ea810851f163f1", func := "pub-convoy/laws.FnHeaderWrite", spec := "fnHeaderWrite", named := ["pub-convoy/pub/dtls/pkg/protocol/recordlayer.errSequenceNumberOverflow", "encoding/binary.BigEndian"], apart := false, laid := [("pub-convoy/pub/dtls/pkg/protocol/recordlayer.errSequenceNumberOverflow", laid_pub_convoy_pub_dtls_pkg_protocol_recordlayer_errSequenceNumberOverflow)], narrowed := true }
def FnHeaderWriteUptoSaid : Prop := fnHeaderWriteUptoRow.holds Tryd.pinned (OpenSpec.upto fnHeaderWriteSpec)

/-- 'laws.FnGroupsBack', WHERE WHAT IT READS IS OF BULK AT MOST 1048576: true; the input reads as it did. -/
def fnGroupsBackUptoRow : OpenClaim := { program := "ytdnjkjoioabhhaadoor", sum := "e2684d7bb6782f9d7140e8d7efcfc08c9a6d42f95bb9a67ff3ea810851f163f1", func := "pub-convoy/laws.FnGroupsBack", spec := "fnGroupsBack", unfollowed := true, recurses := true, named := ["pub-convoy/pub/dtls/pkg/protocol/extension.errBufferTooSmall", "encoding/binary.BigEndian", "pub-convoy/pub/dtls/pkg/protocol/extension.errInvalidExtensionType", "pub-convoy/pub/dtls/pkg/protocol/extension.errLengthMismatch"], apart := false, laid := [("pub-convoy/pub/dtls/pkg/protocol/extension.errBufferTooSmall", laid_pub_convoy_pub_dtls_pkg_protocol_extension_errBufferTooSmall), ("pub-convoy/pub/dtls/pkg/protocol/extension.errInvalidExtensionType", laid_pub_convoy_pub_dtls_pkg_protocol_extension_errInvalidExtensionType), ("pub-convoy/pub/dtls/pkg/protocol/extension.errLengthMismatch", laid_pub_convoy_pub_dtls_pkg_protocol_extension_errLengthMismatch)], narrowed := true }
def FnGroupsBackUptoSaid : Prop := fnGroupsBackUptoRow.holds Tryd.pinned (OpenSpec.upto fnGroupsBackSpec)

/-- 'laws.FnCompressionBack', WHERE WHAT IT READS IS OF BULK AT MOST 1048576: true; the input reads as it did. -/
def fnCompressionBackUptoRow : OpenClaim := { program := "ytdnjkjoioabhhaadoor", sum := "e2684d7bb6782f9d7140e8d7efcfc08c9a6d42f95bb9a67ff3ea810851f163f1", func := "pub-convoy/laws.FnCompressionBack", spec := "fnCompressionBack", named := ["pub-convoy/pub/dtls/pkg/protocol.errBufferTooSmall"], apart := false, laid := [("pub-convoy/pub/dtls/pkg/protocol.errBufferTooSmall", laid_pub_convoy_pub_dtls_pkg_protocol_errBufferTooSmall)], narrowed := true }
def FnCompressionBackUptoSaid : Prop := fnCompressionBackUptoRow.holds Tryd.pinned (OpenSpec.upto fnCompressionBackSpec)

/-- 'laws.FnPostHandshake', WHERE WHAT IT READS IS OF BULK AT MOST 1048576: true; the input reads as it did. -/
def fnPostHandshakeUptoRow : OpenClaim := { program := "ytdnjkjoioabhhaadoor", sum := "e2684d7bb6782f9d7140e8d7efcfc08c9a6d42f95bb9a67ff3ea810851f163f1", func := "pub-convoy/laws.FnPostHandshake", spec := "fnPostHandshake", unfollowed := true, recurses := true, named := ["encoding/binary.BigEndian", "pub-convoy/pub/dtls/pkg/protocol/extension.errBufferTooSmall", "pub-convoy/pub/dtls/pkg/protocol/extension.errLengthMismatch", "pub-convoy/pub/dtls/pkg/protocol/extension.errInvalidExtensionType"], apart := false, laid := [("pub-convoy/pub/dtls/pkg/protocol/extension.errBufferTooSmall", laid_pub_convoy_pub_dtls_pkg_protocol_extension_errBufferTooSmall), ("pub-convoy/pub/dtls/pkg/protocol/extension.errInvalidExtensionType", laid_pub_convoy_pub_dtls_pkg_protocol_extension_errInvalidExtensionType), ("pub-convoy/pub/dtls/pkg/protocol/extension.errLengthMismatch", laid_pub_convoy_pub_dtls_pkg_protocol_extension_errLengthMismatch)], narrowed := true }
def FnPostHandshakeUptoSaid : Prop := fnPostHandshakeUptoRow.holds Tryd.pinned (OpenSpec.upto fnPostHandshakeSpec)

/-- 'laws.FnCertificateBack', WHERE WHAT IT READS IS OF BULK AT MOST 1048576: true; the input reads as it did. -/
def fnCertificateBackUptoRow : OpenClaim := { program := "ytdnjkjoioabhhaadoor", sum := "e2684d7bb6782f9d7140e8d7efcfc08c9a6d42f95bb9a67ff3ea810851f163f1", func := "pub-convoy/laws.FnCertificateBack", spec := "fnCertificateBack", unfollowed := true, recurses := true, named := ["pub-convoy/pub/dtls/pkg/protocol/handshake.errBufferTooSmall", "pub-convoy/pub/dtls/pkg/protocol/handshake.errLengthMismatch", "encoding/binary.BigEndian"], apart := false, laid := [("pub-convoy/pub/dtls/pkg/protocol/handshake.errBufferTooSmall", laid_pub_convoy_pub_dtls_pkg_protocol_handshake_errBufferTooSmall), ("pub-convoy/pub/dtls/pkg/protocol/handshake.errLengthMismatch", laid_pub_convoy_pub_dtls_pkg_protocol_handshake_errLengthMismatch)], narrowed := true }
def FnCertificateBackUptoSaid : Prop := fnCertificateBackUptoRow.holds Tryd.pinned (OpenSpec.upto fnCertificateBackSpec)

/-- 'laws.FnSRTPBack', WHERE WHAT IT READS IS OF BULK AT MOST 1048576: true; the input reads as it did. -/
def fnSRTPBackUptoRow : OpenClaim := { program := "ytdnjkjoioabhhaadoor", sum := "e2684d7bb6782f9d7140e8d7efcfc08c9a6d42f95bb9a67ff3ea810851f163f1", func := "pub-convoy/laws.FnSRTPBack", spec := "fnSRTPBack", unfollowed := true, recurses := true, named := ["pub-convoy/pub/dtls/pkg/protocol/extension.errBufferTooSmall", "encoding/binary.BigEndian", "pub-convoy/pub/dtls/pkg/protocol/extension.errInvalidExtensionType", "pub-convoy/pub/dtls/pkg/protocol/extension.errLengthMismatch"], apart := false, laid := [("pub-convoy/pub/dtls/pkg/protocol/extension.errBufferTooSmall", laid_pub_convoy_pub_dtls_pkg_protocol_extension_errBufferTooSmall), ("pub-convoy/pub/dtls/pkg/protocol/extension.errInvalidExtensionType", laid_pub_convoy_pub_dtls_pkg_protocol_extension_errInvalidExtensionType), ("pub-convoy/pub/dtls/pkg/protocol/extension.errLengthMismatch", laid_pub_convoy_pub_dtls_pkg_protocol_extension_errLengthMismatch)], narrowed := true }
def FnSRTPBackUptoSaid : Prop := fnSRTPBackUptoRow.holds Tryd.pinned (OpenSpec.upto fnSRTPBackSpec)

/-- 'laws.FnCookieBack', WHERE WHAT IT READS IS OF BULK AT MOST 1048576: true; the input reads as it did. -/
def fnCookieBackUptoRow : OpenClaim := { program := "ytdnjkjoioabhhaadoor", sum := "e2684d7bb6782f9d7140e8d7efcfc08c9a6d42f95bb9a67ff3ea810851f163f1", func := "pub-convoy/laws.FnCookieBack", spec := "fnCookieBack", unfollowed := true, recurses := true, named := ["pub-convoy/pub/dtls/pkg/protocol/extension.errInvalidExtensionType", "pub-convoy/pub/dtls/pkg/protocol/extension.errBufferTooSmall", "pub-convoy/pub/dtls/pkg/protocol/extension.errCookieExtFormat", "pub-convoy/pub/dtls/pkg/protocol/extension.errLengthMismatch"], apart := false, laid := [("pub-convoy/pub/dtls/pkg/protocol/extension.errBufferTooSmall", laid_pub_convoy_pub_dtls_pkg_protocol_extension_errBufferTooSmall), ("pub-convoy/pub/dtls/pkg/protocol/extension.errInvalidExtensionType", laid_pub_convoy_pub_dtls_pkg_protocol_extension_errInvalidExtensionType), ("pub-convoy/pub/dtls/pkg/protocol/extension.errLengthMismatch", laid_pub_convoy_pub_dtls_pkg_protocol_extension_errLengthMismatch), ("pub-convoy/pub/dtls/pkg/protocol/extension.errCookieExtFormat", laid_pub_convoy_pub_dtls_pkg_protocol_extension_errCookieExtFormat)], narrowed := true }
def FnCookieBackUptoSaid : Prop := fnCookieBackUptoRow.holds Tryd.pinned (OpenSpec.upto fnCookieBackSpec)

/-- 'laws.FnHandshakeHeaderBack', WHERE WHAT IT READS IS OF BULK AT MOST 1048576: true; the input reads as it did. -/
def fnHandshakeHeaderBackUptoRow : OpenClaim := { program := "ytdnjkjoioabhhaadoor", sum := "e2684d7bb6782f9d7140e8d7efcfc08c9a6d42f95bb9a67ff3ea810851f163f1", func := "pub-convoy/laws.FnHandshakeHeaderBack", spec := "fnHandshakeHeaderBack", named := ["encoding/binary.BigEndian", "pub-convoy/pub/dtls/pkg/protocol/handshake.errBufferTooSmall"], apart := false, laid := [("pub-convoy/pub/dtls/pkg/protocol/handshake.errBufferTooSmall", laid_pub_convoy_pub_dtls_pkg_protocol_handshake_errBufferTooSmall)], narrowed := true }
def FnHandshakeHeaderBackUptoSaid : Prop := fnHandshakeHeaderBackUptoRow.holds Tryd.pinned (OpenSpec.upto fnHandshakeHeaderBackSpec)

end Rows
end Go.Proofs.YtdnjkjoioabhhaaDoor
