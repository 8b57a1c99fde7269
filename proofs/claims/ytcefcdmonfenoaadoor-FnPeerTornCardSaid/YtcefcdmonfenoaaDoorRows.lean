/-
  NARROWER THAN 'FOR EVERY INPUT', by the rows' own cells (each row's printed sentence says how): FnPeerTorn: laid · FnPeerShortApart: laid · FnKeyApart: laid · FnKeyHalf: laid · FnKeyWires: laid · FnKeyRecordApart: laid · FnKeyTorn: laid · FnKeyWritten: laid · FnKeyAddressLast: laid · FnKeyRecord: laid · FnKeyRecordJoined: laid · FnKeyRecordOrder: laid · FnKeyEnvelopeApart: laid · FnKeyLong: laid · FnKeyEnvelope: laid · FnKeyEnvelopeKey: laid · FnKeyEnvelopeTorn: laid.
  DERIVED. THE GIVEN ROWS OF THIS SEAT. 17 by the template 'for every input the law returns true; each argument reads behind the call as it read before'; 0 by the template 'total and deterministic' (their statements: YtcefcdmonfenoaaDoorTotals.lean).
  GIVEN WITH THE SEED: the statements are not yours to turn. If you find one false, say at which input.
  Laid BY PROGRAM, IN A SANDBOX (cutbox-rows.mjs): the forced cells as the released guide's own fill.sh prints them over the translation 9cce95cadc39963c… (all of the seat's roots in one cut). By AI agents, Wed Nov 11 2026. No macro, syntax, notation, axiom, sorry.
-/
import Derived.Test.YtcefcdmonfenoaaDoorChecked
import GoSem.Claim
import GoSem.ClaimJoined
import GoSem.ClaimMapViews
import Derived.JoinedTies
import Derived.KernelRfl
namespace Go.Proofs.YtcefcdmonfenoaaDoor
/- THE CELL 'sum', in the pinned program and in every row, IS THE sha256 OF THE DUMP (.gsa) THAT YtcefcdmonfenoaaDoorProg.lean LOADS. Nothing in Lean hashes anything: it is a label: what it is worth is what the hold of that sum in a sandbox is worth. -/
noncomputable def Tryd.pinned : Pinned := { name := "ytcefcdmonfenoaadoor", sum := "9cce95cadc39963c8ea0a239489f54630ec9a72e45858d1e40086e69f082b2a1", checked := Tryd.checked }
namespace Rows
def none {H : Type} : Left H := { results := [], args := [] }

/- WHAT THE LISTED PACKAGE-LEVEL VARIABLES READ AS WHEN THE CALL BEGINS. Each datum BY PROGRAM (the guide's laid-datum.mjs) off the statement by which the dump's own 'gosem.cut.vars' lays the variable. In a bare row this is a premise. The card (YtcefcdmonfenoaaDoorCards.lean) ties it to the program's text. -/
def laid_pub_symmory_pub_govarint_ErrOverflow {H : Type} : DataW H := .iface "*errors.errorString" (.ptr (.agg [.lit (.string [118, 97, 114, 105, 110, 116, 115, 32, 108, 97, 114, 103, 101, 114, 32, 116, 104, 97, 110, 32, 117, 105, 110, 116, 54, 51, 32, 110, 111, 116, 32, 115, 117, 112, 112, 111, 114, 116, 101, 100])]))
def laid_pub_symmory_pub_govarint_ErrUnderflow {H : Type} : DataW H := .iface "*errors.errorString" (.ptr (.agg [.lit (.string [118, 97, 114, 105, 110, 116, 115, 32, 109, 97, 108, 102, 111, 114, 109, 101, 100, 44, 32, 99, 111, 117, 108, 100, 32, 110, 111, 116, 32, 114, 101, 97, 99, 104, 32, 116, 104, 101, 32, 101, 110, 100])]))
def laid_pub_symmory_pub_govarint_ErrNotMinimal {H : Type} : DataW H := .iface "*errors.errorString" (.ptr (.agg [.lit (.string [118, 97, 114, 105, 110, 116, 32, 110, 111, 116, 32, 109, 105, 110, 105, 109, 97, 108, 108, 121, 32, 101, 110, 99, 111, 100, 101, 100])]))
def laid_pub_symmory_pub_gomultihash_ErrTooShort {H : Type} : DataW H := .iface "*errors.errorString" (.ptr (.agg [.lit (.string [109, 117, 108, 116, 105, 104, 97, 115, 104, 32, 116, 111, 111, 32, 115, 104, 111, 114, 116, 46, 32, 109, 117, 115, 116, 32, 98, 101, 32, 62, 61, 32, 50, 32, 98, 121, 116, 101, 115])]))
def laid_pub_symmory_pub_gomultihash_ErrVarintBufferShort {H : Type} : DataW H := .iface "*errors.errorString" (.ptr (.agg [.lit (.string [117, 118, 97, 114, 105, 110, 116, 58, 32, 98, 117, 102, 102, 101, 114, 32, 116, 111, 111, 32, 115, 109, 97, 108, 108])]))
def laid_pub_symmory_pub_gomultihash_ErrVarintTooLong {H : Type} : DataW H := .iface "*errors.errorString" (.ptr (.agg [.lit (.string [117, 118, 97, 114, 105, 110, 116, 58, 32, 118, 97, 114, 105, 110, 116, 32, 116, 111, 111, 32, 98, 105, 103, 32, 40, 109, 97, 120, 32, 54, 52, 98, 105, 116, 41])]))
def laid_io_ErrUnexpectedEOF {H : Type} : DataW H := .iface "*errors.errorString" (.ptr (.agg [.lit (.string [117, 110, 101, 120, 112, 101, 99, 116, 101, 100, 32, 69, 79, 70])]))
def laid_pub_symmory_pub_protowire_errFieldNumber {H : Type} : DataW H := .iface "*errors.errorString" (.ptr (.agg [.lit (.string [105, 110, 118, 97, 108, 105, 100, 32, 102, 105, 101, 108, 100, 32, 110, 117, 109, 98, 101, 114])]))
def laid_pub_symmory_pub_protowire_errOverflow {H : Type} : DataW H := .iface "*errors.errorString" (.ptr (.agg [.lit (.string [118, 97, 114, 105, 97, 98, 108, 101, 32, 108, 101, 110, 103, 116, 104, 32, 105, 110, 116, 101, 103, 101, 114, 32, 111, 118, 101, 114, 102, 108, 111, 119])]))
def laid_pub_symmory_pub_protowire_errReserved {H : Type} : DataW H := .iface "*errors.errorString" (.ptr (.agg [.lit (.string [99, 97, 110, 110, 111, 116, 32, 112, 97, 114, 115, 101, 32, 114, 101, 115, 101, 114, 118, 101, 100, 32, 119, 105, 114, 101, 32, 116, 121, 112, 101])]))
def laid_pub_symmory_pub_protowire_errEndGroup {H : Type} : DataW H := .iface "*errors.errorString" (.ptr (.agg [.lit (.string [109, 105, 115, 109, 97, 116, 99, 104, 105, 110, 103, 32, 101, 110, 100, 32, 103, 114, 111, 117, 112, 32, 109, 97, 114, 107, 101, 114])]))
def laid_pub_symmory_pub_protowire_errParse {H : Type} : DataW H := .iface "*errors.errorString" (.ptr (.agg [.lit (.string [112, 97, 114, 115, 101, 32, 101, 114, 114, 111, 114])]))
def laid_pub_symmory_pub_libp2p_core_crypto_pb_errNumber {H : Type} : DataW H := .iface "*errors.errorString" (.ptr (.agg [.lit (.string [112, 114, 111, 116, 111, 58, 32, 105, 110, 118, 97, 108, 105, 100, 32, 102, 105, 101, 108, 100, 32, 110, 117, 109, 98, 101, 114])]))
def laid_pub_symmory_pub_libp2p_core_crypto_pb_errRequired {H : Type} : DataW H := .iface "*errors.errorString" (.ptr (.agg [.lit (.string [112, 114, 111, 116, 111, 58, 32, 114, 101, 113, 117, 105, 114, 101, 100, 32, 102, 105, 101, 108, 100, 32, 110, 111, 116, 32, 115, 101, 116])]))
def laid_pub_symmory_pub_libp2p_core_peer_pb_errNumber {H : Type} : DataW H := .iface "*errors.errorString" (.ptr (.agg [.lit (.string [112, 114, 111, 116, 111, 58, 32, 105, 110, 118, 97, 108, 105, 100, 32, 102, 105, 101, 108, 100, 32, 110, 117, 109, 98, 101, 114])]))
def laid_pub_symmory_pub_libp2p_core_record_pb_errNumber {H : Type} : DataW H := .iface "*errors.errorString" (.ptr (.agg [.lit (.string [112, 114, 111, 116, 111, 58, 32, 105, 110, 118, 97, 108, 105, 100, 32, 102, 105, 101, 108, 100, 32, 110, 117, 109, 98, 101, 114])]))

/-- 'laws.FnPeerTorn': WHATEVER THE INPUT: true; the input reads as it did. -/
def fnPeerTornSpec : ChangeSpec := { name := "fnPeerTorn", fn := fun _ => fun
  | [d1, d2, d3, d4] => { results := [.lit (.bool true)], args := [d1, d2, d3, d4] }
  | _ => none }
def fnPeerTornRow : OpenClaim := { program := "ytcefcdmonfenoaadoor", sum := "9cce95cadc39963c8ea0a239489f54630ec9a72e45858d1e40086e69f082b2a1", func := "pub-symmory/laws.FnPeerTorn", spec := "fnPeerTorn", named := ["pub-symmory/pub/gomultihash.ErrTooShort", "pub-symmory/pub/gomultihash.ErrVarintBufferShort", "pub-symmory/pub/gomultihash.ErrVarintTooLong", "pub-symmory/pub/govarint.ErrOverflow", "pub-symmory/pub/govarint.ErrNotMinimal", "pub-symmory/pub/govarint.ErrUnderflow"], apart := false, laid := [("pub-symmory/pub/govarint.ErrOverflow", laid_pub_symmory_pub_govarint_ErrOverflow), ("pub-symmory/pub/govarint.ErrUnderflow", laid_pub_symmory_pub_govarint_ErrUnderflow), ("pub-symmory/pub/govarint.ErrNotMinimal", laid_pub_symmory_pub_govarint_ErrNotMinimal), ("pub-symmory/pub/gomultihash.ErrTooShort", laid_pub_symmory_pub_gomultihash_ErrTooShort), ("pub-symmory/pub/gomultihash.ErrVarintBufferShort", laid_pub_symmory_pub_gomultihash_ErrVarintBufferShort), ("pub-symmory/pub/gomultihash.ErrVarintTooLong", laid_pub_symmory_pub_gomultihash_ErrVarintTooLong)] }
def FnPeerTornSaid : Prop := fnPeerTornRow.holds Tryd.pinned (OpenSpec.ofChange fnPeerTornSpec)

/-- ITS FALSE NEIGHBOUR: 'it returns false'. Refute it at one input. -/
def fnPeerTornWrong : ChangeSpec := { name := "fnPeerTorn", fn := fun _ => fun
  | [d1, d2, d3, d4] => { results := [.lit (.bool false)], args := [d1, d2, d3, d4] }
  | _ => none }
def FnPeerTornWrongFalsely : Prop := fnPeerTornRow.holds Tryd.pinned (OpenSpec.ofChange fnPeerTornWrong)

/-- 'laws.FnPeerShortApart': WHATEVER THE INPUT: true; the input reads as it did. -/
def fnPeerShortApartSpec : ChangeSpec := { name := "fnPeerShortApart", fn := fun _ => fun
  | [d1, d2] => { results := [.lit (.bool true)], args := [d1, d2] }
  | _ => none }
def fnPeerShortApartRow : OpenClaim := { program := "ytcefcdmonfenoaadoor", sum := "9cce95cadc39963c8ea0a239489f54630ec9a72e45858d1e40086e69f082b2a1", func := "pub-symmory/laws.FnPeerShortApart", spec := "fnPeerShortApart", named := ["pub-symmory/pub/gomultihash.ErrTooShort", "pub-symmory/pub/gomultihash.ErrVarintBufferShort", "pub-symmory/pub/gomultihash.ErrVarintTooLong", "pub-symmory/pub/govarint.ErrOverflow", "pub-symmory/pub/govarint.ErrNotMinimal", "pub-symmory/pub/govarint.ErrUnderflow"], apart := false, laid := [("pub-symmory/pub/govarint.ErrOverflow", laid_pub_symmory_pub_govarint_ErrOverflow), ("pub-symmory/pub/govarint.ErrUnderflow", laid_pub_symmory_pub_govarint_ErrUnderflow), ("pub-symmory/pub/govarint.ErrNotMinimal", laid_pub_symmory_pub_govarint_ErrNotMinimal), ("pub-symmory/pub/gomultihash.ErrTooShort", laid_pub_symmory_pub_gomultihash_ErrTooShort), ("pub-symmory/pub/gomultihash.ErrVarintBufferShort", laid_pub_symmory_pub_gomultihash_ErrVarintBufferShort), ("pub-symmory/pub/gomultihash.ErrVarintTooLong", laid_pub_symmory_pub_gomultihash_ErrVarintTooLong)] }
def FnPeerShortApartSaid : Prop := fnPeerShortApartRow.holds Tryd.pinned (OpenSpec.ofChange fnPeerShortApartSpec)

/-- ITS FALSE NEIGHBOUR: 'it returns false'. Refute it at one input. -/
def fnPeerShortApartWrong : ChangeSpec := { name := "fnPeerShortApart", fn := fun _ => fun
  | [d1, d2] => { results := [.lit (.bool false)], args := [d1, d2] }
  | _ => none }
def FnPeerShortApartWrongFalsely : Prop := fnPeerShortApartRow.holds Tryd.pinned (OpenSpec.ofChange fnPeerShortApartWrong)

/-- 'laws.FnKeyApart': WHATEVER THE INPUT: true; the input reads as it did. -/
def fnKeyApartSpec : ChangeSpec := { name := "fnKeyApart", fn := fun _ => fun
  | [d1, d2, d3, d4] => { results := [.lit (.bool true)], args := [d1, d2, d3, d4] }
  | _ => none }
def fnKeyApartRow : OpenClaim := { program := "ytcefcdmonfenoaadoor", sum := "9cce95cadc39963c8ea0a239489f54630ec9a72e45858d1e40086e69f082b2a1", func := "pub-symmory/laws.FnKeyApart", spec := "fnKeyApart", recurses := true, named := ["pub-symmory/pub/libp2p/core/crypto/pb.errRequired", "pub-symmory/pub/libp2p/core/crypto/pb.errNumber", "io.ErrUnexpectedEOF", "pub-symmory/pub/protowire.errFieldNumber", "pub-symmory/pub/protowire.errOverflow", "pub-symmory/pub/protowire.errReserved", "pub-symmory/pub/protowire.errEndGroup", "pub-symmory/pub/protowire.errParse"], apart := false, laid := [("io.ErrUnexpectedEOF", laid_io_ErrUnexpectedEOF), ("pub-symmory/pub/protowire.errFieldNumber", laid_pub_symmory_pub_protowire_errFieldNumber), ("pub-symmory/pub/protowire.errOverflow", laid_pub_symmory_pub_protowire_errOverflow), ("pub-symmory/pub/protowire.errReserved", laid_pub_symmory_pub_protowire_errReserved), ("pub-symmory/pub/protowire.errEndGroup", laid_pub_symmory_pub_protowire_errEndGroup), ("pub-symmory/pub/protowire.errParse", laid_pub_symmory_pub_protowire_errParse), ("pub-symmory/pub/libp2p/core/crypto/pb.errNumber", laid_pub_symmory_pub_libp2p_core_crypto_pb_errNumber), ("pub-symmory/pub/libp2p/core/crypto/pb.errRequired", laid_pub_symmory_pub_libp2p_core_crypto_pb_errRequired)] }
def FnKeyApartSaid : Prop := fnKeyApartRow.holds Tryd.pinned (OpenSpec.ofChange fnKeyApartSpec)

/-- ITS FALSE NEIGHBOUR: 'it returns false'. Refute it at one input. -/
def fnKeyApartWrong : ChangeSpec := { name := "fnKeyApart", fn := fun _ => fun
  | [d1, d2, d3, d4] => { results := [.lit (.bool false)], args := [d1, d2, d3, d4] }
  | _ => none }
def FnKeyApartWrongFalsely : Prop := fnKeyApartRow.holds Tryd.pinned (OpenSpec.ofChange fnKeyApartWrong)

/-- 'laws.FnKeyHalf': WHATEVER THE INPUT: true; the input reads as it did. -/
def fnKeyHalfSpec : ChangeSpec := { name := "fnKeyHalf", fn := fun _ => fun
  | [d1, d2] => { results := [.lit (.bool true)], args := [d1, d2] }
  | _ => none }
def fnKeyHalfRow : OpenClaim := { program := "ytcefcdmonfenoaadoor", sum := "9cce95cadc39963c8ea0a239489f54630ec9a72e45858d1e40086e69f082b2a1", func := "pub-symmory/laws.FnKeyHalf", spec := "fnKeyHalf", recurses := true, named := ["pub-symmory/pub/libp2p/core/crypto/pb.errRequired", "pub-symmory/pub/libp2p/core/crypto/pb.errNumber", "io.ErrUnexpectedEOF", "pub-symmory/pub/protowire.errFieldNumber", "pub-symmory/pub/protowire.errOverflow", "pub-symmory/pub/protowire.errReserved", "pub-symmory/pub/protowire.errEndGroup", "pub-symmory/pub/protowire.errParse"], apart := false, laid := [("io.ErrUnexpectedEOF", laid_io_ErrUnexpectedEOF), ("pub-symmory/pub/protowire.errFieldNumber", laid_pub_symmory_pub_protowire_errFieldNumber), ("pub-symmory/pub/protowire.errOverflow", laid_pub_symmory_pub_protowire_errOverflow), ("pub-symmory/pub/protowire.errReserved", laid_pub_symmory_pub_protowire_errReserved), ("pub-symmory/pub/protowire.errEndGroup", laid_pub_symmory_pub_protowire_errEndGroup), ("pub-symmory/pub/protowire.errParse", laid_pub_symmory_pub_protowire_errParse), ("pub-symmory/pub/libp2p/core/crypto/pb.errNumber", laid_pub_symmory_pub_libp2p_core_crypto_pb_errNumber), ("pub-symmory/pub/libp2p/core/crypto/pb.errRequired", laid_pub_symmory_pub_libp2p_core_crypto_pb_errRequired)] }
def FnKeyHalfSaid : Prop := fnKeyHalfRow.holds Tryd.pinned (OpenSpec.ofChange fnKeyHalfSpec)

/-- ITS FALSE NEIGHBOUR: 'it returns false'. Refute it at one input. -/
def fnKeyHalfWrong : ChangeSpec := { name := "fnKeyHalf", fn := fun _ => fun
  | [d1, d2] => { results := [.lit (.bool false)], args := [d1, d2] }
  | _ => none }
def FnKeyHalfWrongFalsely : Prop := fnKeyHalfRow.holds Tryd.pinned (OpenSpec.ofChange fnKeyHalfWrong)

/-- 'laws.FnKeyWires': WHATEVER THE INPUT: true; the input reads as it did. -/
def fnKeyWiresSpec : ChangeSpec := { name := "fnKeyWires", fn := fun _ => fun
  | [d1, d2, d3, d4] => { results := [.lit (.bool true)], args := [d1, d2, d3, d4] }
  | _ => none }
def fnKeyWiresRow : OpenClaim := { program := "ytcefcdmonfenoaadoor", sum := "9cce95cadc39963c8ea0a239489f54630ec9a72e45858d1e40086e69f082b2a1", func := "pub-symmory/laws.FnKeyWires", spec := "fnKeyWires", recurses := true, named := ["pub-symmory/pub/libp2p/core/crypto/pb.errRequired", "pub-symmory/pub/libp2p/core/crypto/pb.errNumber", "io.ErrUnexpectedEOF", "pub-symmory/pub/protowire.errFieldNumber", "pub-symmory/pub/protowire.errOverflow", "pub-symmory/pub/protowire.errReserved", "pub-symmory/pub/protowire.errEndGroup", "pub-symmory/pub/protowire.errParse"], apart := false, laid := [("io.ErrUnexpectedEOF", laid_io_ErrUnexpectedEOF), ("pub-symmory/pub/protowire.errFieldNumber", laid_pub_symmory_pub_protowire_errFieldNumber), ("pub-symmory/pub/protowire.errOverflow", laid_pub_symmory_pub_protowire_errOverflow), ("pub-symmory/pub/protowire.errReserved", laid_pub_symmory_pub_protowire_errReserved), ("pub-symmory/pub/protowire.errEndGroup", laid_pub_symmory_pub_protowire_errEndGroup), ("pub-symmory/pub/protowire.errParse", laid_pub_symmory_pub_protowire_errParse), ("pub-symmory/pub/libp2p/core/crypto/pb.errNumber", laid_pub_symmory_pub_libp2p_core_crypto_pb_errNumber), ("pub-symmory/pub/libp2p/core/crypto/pb.errRequired", laid_pub_symmory_pub_libp2p_core_crypto_pb_errRequired)] }
def FnKeyWiresSaid : Prop := fnKeyWiresRow.holds Tryd.pinned (OpenSpec.ofChange fnKeyWiresSpec)

/-- ITS FALSE NEIGHBOUR: 'it returns false'. Refute it at one input. -/
def fnKeyWiresWrong : ChangeSpec := { name := "fnKeyWires", fn := fun _ => fun
  | [d1, d2, d3, d4] => { results := [.lit (.bool false)], args := [d1, d2, d3, d4] }
  | _ => none }
def FnKeyWiresWrongFalsely : Prop := fnKeyWiresRow.holds Tryd.pinned (OpenSpec.ofChange fnKeyWiresWrong)

/-- 'laws.FnKeyRecordApart': WHATEVER THE INPUT: true; the input reads as it did. -/
def fnKeyRecordApartSpec : ChangeSpec := { name := "fnKeyRecordApart", fn := fun _ => fun
  | [d1, d2] => { results := [.lit (.bool true)], args := [d1, d2] }
  | _ => none }
def fnKeyRecordApartRow : OpenClaim := { program := "ytcefcdmonfenoaadoor", sum := "9cce95cadc39963c8ea0a239489f54630ec9a72e45858d1e40086e69f082b2a1", func := "pub-symmory/laws.FnKeyRecordApart", spec := "fnKeyRecordApart", unfollowed := true, recurses := true, named := ["pub-symmory/pub/libp2p/core/peer/pb.errNumber", "io.ErrUnexpectedEOF", "pub-symmory/pub/protowire.errFieldNumber", "pub-symmory/pub/protowire.errOverflow", "pub-symmory/pub/protowire.errReserved", "pub-symmory/pub/protowire.errEndGroup", "pub-symmory/pub/protowire.errParse"], apart := false, laid := [("io.ErrUnexpectedEOF", laid_io_ErrUnexpectedEOF), ("pub-symmory/pub/protowire.errFieldNumber", laid_pub_symmory_pub_protowire_errFieldNumber), ("pub-symmory/pub/protowire.errOverflow", laid_pub_symmory_pub_protowire_errOverflow), ("pub-symmory/pub/protowire.errReserved", laid_pub_symmory_pub_protowire_errReserved), ("pub-symmory/pub/protowire.errEndGroup", laid_pub_symmory_pub_protowire_errEndGroup), ("pub-symmory/pub/protowire.errParse", laid_pub_symmory_pub_protowire_errParse), ("pub-symmory/pub/libp2p/core/peer/pb.errNumber", laid_pub_symmory_pub_libp2p_core_peer_pb_errNumber)] }
def FnKeyRecordApartSaid : Prop := fnKeyRecordApartRow.holds Tryd.pinned (OpenSpec.ofChange fnKeyRecordApartSpec)

/-- ITS FALSE NEIGHBOUR: 'it returns false'. Refute it at one input. -/
def fnKeyRecordApartWrong : ChangeSpec := { name := "fnKeyRecordApart", fn := fun _ => fun
  | [d1, d2] => { results := [.lit (.bool false)], args := [d1, d2] }
  | _ => none }
def FnKeyRecordApartWrongFalsely : Prop := fnKeyRecordApartRow.holds Tryd.pinned (OpenSpec.ofChange fnKeyRecordApartWrong)

/-- 'laws.FnKeyTorn': WHATEVER THE INPUT: true; the input reads as it did. -/
def fnKeyTornSpec : ChangeSpec := { name := "fnKeyTorn", fn := fun _ => fun
  | [d1, d2, d3] => { results := [.lit (.bool true)], args := [d1, d2, d3] }
  | _ => none }
def fnKeyTornRow : OpenClaim := { program := "ytcefcdmonfenoaadoor", sum := "9cce95cadc39963c8ea0a239489f54630ec9a72e45858d1e40086e69f082b2a1", func := "pub-symmory/laws.FnKeyTorn", spec := "fnKeyTorn", recurses := true, named := ["pub-symmory/pub/libp2p/core/crypto/pb.errRequired", "pub-symmory/pub/libp2p/core/crypto/pb.errNumber", "io.ErrUnexpectedEOF", "pub-symmory/pub/protowire.errFieldNumber", "pub-symmory/pub/protowire.errOverflow", "pub-symmory/pub/protowire.errReserved", "pub-symmory/pub/protowire.errEndGroup", "pub-symmory/pub/protowire.errParse"], apart := false, laid := [("io.ErrUnexpectedEOF", laid_io_ErrUnexpectedEOF), ("pub-symmory/pub/protowire.errFieldNumber", laid_pub_symmory_pub_protowire_errFieldNumber), ("pub-symmory/pub/protowire.errOverflow", laid_pub_symmory_pub_protowire_errOverflow), ("pub-symmory/pub/protowire.errReserved", laid_pub_symmory_pub_protowire_errReserved), ("pub-symmory/pub/protowire.errEndGroup", laid_pub_symmory_pub_protowire_errEndGroup), ("pub-symmory/pub/protowire.errParse", laid_pub_symmory_pub_protowire_errParse), ("pub-symmory/pub/libp2p/core/crypto/pb.errNumber", laid_pub_symmory_pub_libp2p_core_crypto_pb_errNumber), ("pub-symmory/pub/libp2p/core/crypto/pb.errRequired", laid_pub_symmory_pub_libp2p_core_crypto_pb_errRequired)] }
def FnKeyTornSaid : Prop := fnKeyTornRow.holds Tryd.pinned (OpenSpec.ofChange fnKeyTornSpec)

/-- ITS FALSE NEIGHBOUR: 'it returns false'. Refute it at one input. -/
def fnKeyTornWrong : ChangeSpec := { name := "fnKeyTorn", fn := fun _ => fun
  | [d1, d2, d3] => { results := [.lit (.bool false)], args := [d1, d2, d3] }
  | _ => none }
def FnKeyTornWrongFalsely : Prop := fnKeyTornRow.holds Tryd.pinned (OpenSpec.ofChange fnKeyTornWrong)

/-- 'laws.FnKeyWritten': WHATEVER THE INPUT: true; the input reads as it did. -/
def fnKeyWrittenSpec : ChangeSpec := { name := "fnKeyWritten", fn := fun _ => fun
  | [d1, d2] => { results := [.lit (.bool true)], args := [d1, d2] }
  | _ => none }
def fnKeyWrittenRow : OpenClaim := { program := "ytcefcdmonfenoaadoor", sum := "9cce95cadc39963c8ea0a239489f54630ec9a72e45858d1e40086e69f082b2a1", func := "pub-symmory/laws.FnKeyWritten", spec := "fnKeyWritten", recurses := true, named := ["pub-symmory/pub/libp2p/core/crypto/pb.errRequired", "pub-symmory/pub/libp2p/core/crypto/pb.errNumber", "io.ErrUnexpectedEOF", "pub-symmory/pub/protowire.errFieldNumber", "pub-symmory/pub/protowire.errOverflow", "pub-symmory/pub/protowire.errReserved", "pub-symmory/pub/protowire.errEndGroup", "pub-symmory/pub/protowire.errParse"], apart := false, laid := [("io.ErrUnexpectedEOF", laid_io_ErrUnexpectedEOF), ("pub-symmory/pub/protowire.errFieldNumber", laid_pub_symmory_pub_protowire_errFieldNumber), ("pub-symmory/pub/protowire.errOverflow", laid_pub_symmory_pub_protowire_errOverflow), ("pub-symmory/pub/protowire.errReserved", laid_pub_symmory_pub_protowire_errReserved), ("pub-symmory/pub/protowire.errEndGroup", laid_pub_symmory_pub_protowire_errEndGroup), ("pub-symmory/pub/protowire.errParse", laid_pub_symmory_pub_protowire_errParse), ("pub-symmory/pub/libp2p/core/crypto/pb.errNumber", laid_pub_symmory_pub_libp2p_core_crypto_pb_errNumber), ("pub-symmory/pub/libp2p/core/crypto/pb.errRequired", laid_pub_symmory_pub_libp2p_core_crypto_pb_errRequired)] }
def FnKeyWrittenSaid : Prop := fnKeyWrittenRow.holds Tryd.pinned (OpenSpec.ofChange fnKeyWrittenSpec)

/-- ITS FALSE NEIGHBOUR: 'it returns false'. Refute it at one input. -/
def fnKeyWrittenWrong : ChangeSpec := { name := "fnKeyWritten", fn := fun _ => fun
  | [d1, d2] => { results := [.lit (.bool false)], args := [d1, d2] }
  | _ => none }
def FnKeyWrittenWrongFalsely : Prop := fnKeyWrittenRow.holds Tryd.pinned (OpenSpec.ofChange fnKeyWrittenWrong)

/-- 'laws.FnKeyAddressLast': WHATEVER THE INPUT: true; the input reads as it did. -/
def fnKeyAddressLastSpec : ChangeSpec := { name := "fnKeyAddressLast", fn := fun _ => fun
  | [d] => { results := [.lit (.bool true)], args := [d] }
  | _ => none }
def fnKeyAddressLastRow : OpenClaim := { program := "ytcefcdmonfenoaadoor", sum := "9cce95cadc39963c8ea0a239489f54630ec9a72e45858d1e40086e69f082b2a1", func := "pub-symmory/laws.FnKeyAddressLast", spec := "fnKeyAddressLast", unfollowed := true, recurses := true, named := ["pub-symmory/pub/libp2p/core/peer/pb.errNumber", "io.ErrUnexpectedEOF", "pub-symmory/pub/protowire.errFieldNumber", "pub-symmory/pub/protowire.errOverflow", "pub-symmory/pub/protowire.errReserved", "pub-symmory/pub/protowire.errEndGroup", "pub-symmory/pub/protowire.errParse"], apart := false, laid := [("io.ErrUnexpectedEOF", laid_io_ErrUnexpectedEOF), ("pub-symmory/pub/protowire.errFieldNumber", laid_pub_symmory_pub_protowire_errFieldNumber), ("pub-symmory/pub/protowire.errOverflow", laid_pub_symmory_pub_protowire_errOverflow), ("pub-symmory/pub/protowire.errReserved", laid_pub_symmory_pub_protowire_errReserved), ("pub-symmory/pub/protowire.errEndGroup", laid_pub_symmory_pub_protowire_errEndGroup), ("pub-symmory/pub/protowire.errParse", laid_pub_symmory_pub_protowire_errParse), ("pub-symmory/pub/libp2p/core/peer/pb.errNumber", laid_pub_symmory_pub_libp2p_core_peer_pb_errNumber)] }
def FnKeyAddressLastSaid : Prop := fnKeyAddressLastRow.holds Tryd.pinned (OpenSpec.ofChange fnKeyAddressLastSpec)

/-- ITS FALSE NEIGHBOUR: 'it returns false'. Refute it at one input. -/
def fnKeyAddressLastWrong : ChangeSpec := { name := "fnKeyAddressLast", fn := fun _ => fun
  | [d] => { results := [.lit (.bool false)], args := [d] }
  | _ => none }
def FnKeyAddressLastWrongFalsely : Prop := fnKeyAddressLastRow.holds Tryd.pinned (OpenSpec.ofChange fnKeyAddressLastWrong)

/-- 'laws.FnKeyRecord': WHATEVER THE INPUT: true; the input reads as it did. -/
def fnKeyRecordSpec : ChangeSpec := { name := "fnKeyRecord", fn := fun _ => fun
  | [d] => { results := [.lit (.bool true)], args := [d] }
  | _ => none }
def fnKeyRecordRow : OpenClaim := { program := "ytcefcdmonfenoaadoor", sum := "9cce95cadc39963c8ea0a239489f54630ec9a72e45858d1e40086e69f082b2a1", func := "pub-symmory/laws.FnKeyRecord", spec := "fnKeyRecord", unfollowed := true, recurses := true, named := ["pub-symmory/pub/libp2p/core/peer/pb.errNumber", "io.ErrUnexpectedEOF", "pub-symmory/pub/protowire.errFieldNumber", "pub-symmory/pub/protowire.errOverflow", "pub-symmory/pub/protowire.errReserved", "pub-symmory/pub/protowire.errEndGroup", "pub-symmory/pub/protowire.errParse"], apart := false, laid := [("io.ErrUnexpectedEOF", laid_io_ErrUnexpectedEOF), ("pub-symmory/pub/protowire.errFieldNumber", laid_pub_symmory_pub_protowire_errFieldNumber), ("pub-symmory/pub/protowire.errOverflow", laid_pub_symmory_pub_protowire_errOverflow), ("pub-symmory/pub/protowire.errReserved", laid_pub_symmory_pub_protowire_errReserved), ("pub-symmory/pub/protowire.errEndGroup", laid_pub_symmory_pub_protowire_errEndGroup), ("pub-symmory/pub/protowire.errParse", laid_pub_symmory_pub_protowire_errParse), ("pub-symmory/pub/libp2p/core/peer/pb.errNumber", laid_pub_symmory_pub_libp2p_core_peer_pb_errNumber)] }
def FnKeyRecordSaid : Prop := fnKeyRecordRow.holds Tryd.pinned (OpenSpec.ofChange fnKeyRecordSpec)

/-- ITS FALSE NEIGHBOUR: 'it returns false'. Refute it at one input. -/
def fnKeyRecordWrong : ChangeSpec := { name := "fnKeyRecord", fn := fun _ => fun
  | [d] => { results := [.lit (.bool false)], args := [d] }
  | _ => none }
def FnKeyRecordWrongFalsely : Prop := fnKeyRecordRow.holds Tryd.pinned (OpenSpec.ofChange fnKeyRecordWrong)

/-- 'laws.FnKeyRecordJoined': WHATEVER THE INPUT: true; the input reads as it did. -/
def fnKeyRecordJoinedSpec : ChangeSpec := { name := "fnKeyRecordJoined", fn := fun _ => fun
  | [d1, d2] => { results := [.lit (.bool true)], args := [d1, d2] }
  | _ => none }
def fnKeyRecordJoinedRow : OpenClaim := { program := "ytcefcdmonfenoaadoor", sum := "9cce95cadc39963c8ea0a239489f54630ec9a72e45858d1e40086e69f082b2a1", func := "pub-symmory/laws.FnKeyRecordJoined", spec := "fnKeyRecordJoined", unfollowed := true, recurses := true, named := ["pub-symmory/pub/libp2p/core/peer/pb.errNumber", "io.ErrUnexpectedEOF", "pub-symmory/pub/protowire.errFieldNumber", "pub-symmory/pub/protowire.errOverflow", "pub-symmory/pub/protowire.errReserved", "pub-symmory/pub/protowire.errEndGroup", "pub-symmory/pub/protowire.errParse"], apart := false, laid := [("io.ErrUnexpectedEOF", laid_io_ErrUnexpectedEOF), ("pub-symmory/pub/protowire.errFieldNumber", laid_pub_symmory_pub_protowire_errFieldNumber), ("pub-symmory/pub/protowire.errOverflow", laid_pub_symmory_pub_protowire_errOverflow), ("pub-symmory/pub/protowire.errReserved", laid_pub_symmory_pub_protowire_errReserved), ("pub-symmory/pub/protowire.errEndGroup", laid_pub_symmory_pub_protowire_errEndGroup), ("pub-symmory/pub/protowire.errParse", laid_pub_symmory_pub_protowire_errParse), ("pub-symmory/pub/libp2p/core/peer/pb.errNumber", laid_pub_symmory_pub_libp2p_core_peer_pb_errNumber)] }
def FnKeyRecordJoinedSaid : Prop := fnKeyRecordJoinedRow.holds Tryd.pinned (OpenSpec.ofChange fnKeyRecordJoinedSpec)

/-- ITS FALSE NEIGHBOUR: 'it returns false'. Refute it at one input. -/
def fnKeyRecordJoinedWrong : ChangeSpec := { name := "fnKeyRecordJoined", fn := fun _ => fun
  | [d1, d2] => { results := [.lit (.bool false)], args := [d1, d2] }
  | _ => none }
def FnKeyRecordJoinedWrongFalsely : Prop := fnKeyRecordJoinedRow.holds Tryd.pinned (OpenSpec.ofChange fnKeyRecordJoinedWrong)

/-- 'laws.FnKeyRecordOrder': WHATEVER THE INPUT: true; the input reads as it did. -/
def fnKeyRecordOrderSpec : ChangeSpec := { name := "fnKeyRecordOrder", fn := fun _ => fun
  | [d1, d2] => { results := [.lit (.bool true)], args := [d1, d2] }
  | _ => none }
def fnKeyRecordOrderRow : OpenClaim := { program := "ytcefcdmonfenoaadoor", sum := "9cce95cadc39963c8ea0a239489f54630ec9a72e45858d1e40086e69f082b2a1", func := "pub-symmory/laws.FnKeyRecordOrder", spec := "fnKeyRecordOrder", unfollowed := true, recurses := true, named := ["pub-symmory/pub/libp2p/core/peer/pb.errNumber", "io.ErrUnexpectedEOF", "pub-symmory/pub/protowire.errFieldNumber", "pub-symmory/pub/protowire.errOverflow", "pub-symmory/pub/protowire.errReserved", "pub-symmory/pub/protowire.errEndGroup", "pub-symmory/pub/protowire.errParse"], apart := false, laid := [("io.ErrUnexpectedEOF", laid_io_ErrUnexpectedEOF), ("pub-symmory/pub/protowire.errFieldNumber", laid_pub_symmory_pub_protowire_errFieldNumber), ("pub-symmory/pub/protowire.errOverflow", laid_pub_symmory_pub_protowire_errOverflow), ("pub-symmory/pub/protowire.errReserved", laid_pub_symmory_pub_protowire_errReserved), ("pub-symmory/pub/protowire.errEndGroup", laid_pub_symmory_pub_protowire_errEndGroup), ("pub-symmory/pub/protowire.errParse", laid_pub_symmory_pub_protowire_errParse), ("pub-symmory/pub/libp2p/core/peer/pb.errNumber", laid_pub_symmory_pub_libp2p_core_peer_pb_errNumber)] }
def FnKeyRecordOrderSaid : Prop := fnKeyRecordOrderRow.holds Tryd.pinned (OpenSpec.ofChange fnKeyRecordOrderSpec)

/-- ITS FALSE NEIGHBOUR: 'it returns false'. Refute it at one input. -/
def fnKeyRecordOrderWrong : ChangeSpec := { name := "fnKeyRecordOrder", fn := fun _ => fun
  | [d1, d2] => { results := [.lit (.bool false)], args := [d1, d2] }
  | _ => none }
def FnKeyRecordOrderWrongFalsely : Prop := fnKeyRecordOrderRow.holds Tryd.pinned (OpenSpec.ofChange fnKeyRecordOrderWrong)

/-- 'laws.FnKeyEnvelopeApart': WHATEVER THE INPUT: true; the input reads as it did. -/
def fnKeyEnvelopeApartSpec : ChangeSpec := { name := "fnKeyEnvelopeApart", fn := fun _ => fun
  | [d1, d2] => { results := [.lit (.bool true)], args := [d1, d2] }
  | _ => none }
def fnKeyEnvelopeApartRow : OpenClaim := { program := "ytcefcdmonfenoaadoor", sum := "9cce95cadc39963c8ea0a239489f54630ec9a72e45858d1e40086e69f082b2a1", func := "pub-symmory/laws.FnKeyEnvelopeApart", spec := "fnKeyEnvelopeApart", recurses := true, named := ["pub-symmory/pub/libp2p/core/crypto/pb.errRequired", "pub-symmory/pub/libp2p/core/record/pb.errNumber", "io.ErrUnexpectedEOF", "pub-symmory/pub/protowire.errFieldNumber", "pub-symmory/pub/protowire.errOverflow", "pub-symmory/pub/protowire.errReserved", "pub-symmory/pub/protowire.errEndGroup", "pub-symmory/pub/protowire.errParse", "pub-symmory/pub/libp2p/core/crypto/pb.errNumber"], apart := false, laid := [("io.ErrUnexpectedEOF", laid_io_ErrUnexpectedEOF), ("pub-symmory/pub/protowire.errFieldNumber", laid_pub_symmory_pub_protowire_errFieldNumber), ("pub-symmory/pub/protowire.errOverflow", laid_pub_symmory_pub_protowire_errOverflow), ("pub-symmory/pub/protowire.errReserved", laid_pub_symmory_pub_protowire_errReserved), ("pub-symmory/pub/protowire.errEndGroup", laid_pub_symmory_pub_protowire_errEndGroup), ("pub-symmory/pub/protowire.errParse", laid_pub_symmory_pub_protowire_errParse), ("pub-symmory/pub/libp2p/core/crypto/pb.errNumber", laid_pub_symmory_pub_libp2p_core_crypto_pb_errNumber), ("pub-symmory/pub/libp2p/core/crypto/pb.errRequired", laid_pub_symmory_pub_libp2p_core_crypto_pb_errRequired), ("pub-symmory/pub/libp2p/core/record/pb.errNumber", laid_pub_symmory_pub_libp2p_core_record_pb_errNumber)] }
def FnKeyEnvelopeApartSaid : Prop := fnKeyEnvelopeApartRow.holds Tryd.pinned (OpenSpec.ofChange fnKeyEnvelopeApartSpec)

/-- ITS FALSE NEIGHBOUR: 'it returns false'. Refute it at one input. -/
def fnKeyEnvelopeApartWrong : ChangeSpec := { name := "fnKeyEnvelopeApart", fn := fun _ => fun
  | [d1, d2] => { results := [.lit (.bool false)], args := [d1, d2] }
  | _ => none }
def FnKeyEnvelopeApartWrongFalsely : Prop := fnKeyEnvelopeApartRow.holds Tryd.pinned (OpenSpec.ofChange fnKeyEnvelopeApartWrong)

/-- 'laws.FnKeyLong': WHATEVER THE INPUT: true; the input reads as it did. -/
def fnKeyLongSpec : ChangeSpec := { name := "fnKeyLong", fn := fun _ => fun
  | [d1, d2, d3, d4] => { results := [.lit (.bool true)], args := [d1, d2, d3, d4] }
  | _ => none }
def fnKeyLongRow : OpenClaim := { program := "ytcefcdmonfenoaadoor", sum := "9cce95cadc39963c8ea0a239489f54630ec9a72e45858d1e40086e69f082b2a1", func := "pub-symmory/laws.FnKeyLong", spec := "fnKeyLong", recurses := true, named := ["pub-symmory/pub/libp2p/core/crypto/pb.errRequired", "pub-symmory/pub/libp2p/core/crypto/pb.errNumber", "io.ErrUnexpectedEOF", "pub-symmory/pub/protowire.errFieldNumber", "pub-symmory/pub/protowire.errOverflow", "pub-symmory/pub/protowire.errReserved", "pub-symmory/pub/protowire.errEndGroup", "pub-symmory/pub/protowire.errParse"], apart := false, laid := [("io.ErrUnexpectedEOF", laid_io_ErrUnexpectedEOF), ("pub-symmory/pub/protowire.errFieldNumber", laid_pub_symmory_pub_protowire_errFieldNumber), ("pub-symmory/pub/protowire.errOverflow", laid_pub_symmory_pub_protowire_errOverflow), ("pub-symmory/pub/protowire.errReserved", laid_pub_symmory_pub_protowire_errReserved), ("pub-symmory/pub/protowire.errEndGroup", laid_pub_symmory_pub_protowire_errEndGroup), ("pub-symmory/pub/protowire.errParse", laid_pub_symmory_pub_protowire_errParse), ("pub-symmory/pub/libp2p/core/crypto/pb.errNumber", laid_pub_symmory_pub_libp2p_core_crypto_pb_errNumber), ("pub-symmory/pub/libp2p/core/crypto/pb.errRequired", laid_pub_symmory_pub_libp2p_core_crypto_pb_errRequired)] }
def FnKeyLongSaid : Prop := fnKeyLongRow.holds Tryd.pinned (OpenSpec.ofChange fnKeyLongSpec)

/-- ITS FALSE NEIGHBOUR: 'it returns false'. Refute it at one input. -/
def fnKeyLongWrong : ChangeSpec := { name := "fnKeyLong", fn := fun _ => fun
  | [d1, d2, d3, d4] => { results := [.lit (.bool false)], args := [d1, d2, d3, d4] }
  | _ => none }
def FnKeyLongWrongFalsely : Prop := fnKeyLongRow.holds Tryd.pinned (OpenSpec.ofChange fnKeyLongWrong)

/-- 'laws.FnKeyEnvelope': WHATEVER THE INPUT: true; the input reads as it did. -/
def fnKeyEnvelopeSpec : ChangeSpec := { name := "fnKeyEnvelope", fn := fun _ => fun
  | [d] => { results := [.lit (.bool true)], args := [d] }
  | _ => none }
def fnKeyEnvelopeRow : OpenClaim := { program := "ytcefcdmonfenoaadoor", sum := "9cce95cadc39963c8ea0a239489f54630ec9a72e45858d1e40086e69f082b2a1", func := "pub-symmory/laws.FnKeyEnvelope", spec := "fnKeyEnvelope", recurses := true, named := ["pub-symmory/pub/libp2p/core/crypto/pb.errRequired", "pub-symmory/pub/libp2p/core/record/pb.errNumber", "io.ErrUnexpectedEOF", "pub-symmory/pub/protowire.errFieldNumber", "pub-symmory/pub/protowire.errOverflow", "pub-symmory/pub/protowire.errReserved", "pub-symmory/pub/protowire.errEndGroup", "pub-symmory/pub/protowire.errParse", "pub-symmory/pub/libp2p/core/crypto/pb.errNumber"], apart := false, laid := [("io.ErrUnexpectedEOF", laid_io_ErrUnexpectedEOF), ("pub-symmory/pub/protowire.errFieldNumber", laid_pub_symmory_pub_protowire_errFieldNumber), ("pub-symmory/pub/protowire.errOverflow", laid_pub_symmory_pub_protowire_errOverflow), ("pub-symmory/pub/protowire.errReserved", laid_pub_symmory_pub_protowire_errReserved), ("pub-symmory/pub/protowire.errEndGroup", laid_pub_symmory_pub_protowire_errEndGroup), ("pub-symmory/pub/protowire.errParse", laid_pub_symmory_pub_protowire_errParse), ("pub-symmory/pub/libp2p/core/crypto/pb.errNumber", laid_pub_symmory_pub_libp2p_core_crypto_pb_errNumber), ("pub-symmory/pub/libp2p/core/crypto/pb.errRequired", laid_pub_symmory_pub_libp2p_core_crypto_pb_errRequired), ("pub-symmory/pub/libp2p/core/record/pb.errNumber", laid_pub_symmory_pub_libp2p_core_record_pb_errNumber)] }
def FnKeyEnvelopeSaid : Prop := fnKeyEnvelopeRow.holds Tryd.pinned (OpenSpec.ofChange fnKeyEnvelopeSpec)

/-- ITS FALSE NEIGHBOUR: 'it returns false'. Refute it at one input. -/
def fnKeyEnvelopeWrong : ChangeSpec := { name := "fnKeyEnvelope", fn := fun _ => fun
  | [d] => { results := [.lit (.bool false)], args := [d] }
  | _ => none }
def FnKeyEnvelopeWrongFalsely : Prop := fnKeyEnvelopeRow.holds Tryd.pinned (OpenSpec.ofChange fnKeyEnvelopeWrong)

/-- 'laws.FnKeyEnvelopeKey': WHATEVER THE INPUT: true; the input reads as it did. -/
def fnKeyEnvelopeKeySpec : ChangeSpec := { name := "fnKeyEnvelopeKey", fn := fun _ => fun
  | [d1, d2, d3, d4] => { results := [.lit (.bool true)], args := [d1, d2, d3, d4] }
  | _ => none }
def fnKeyEnvelopeKeyRow : OpenClaim := { program := "ytcefcdmonfenoaadoor", sum := "9cce95cadc39963c8ea0a239489f54630ec9a72e45858d1e40086e69f082b2a1", func := "pub-symmory/laws.FnKeyEnvelopeKey", spec := "fnKeyEnvelopeKey", unfollowed := true, recurses := true, named := ["pub-symmory/pub/libp2p/core/crypto/pb.errRequired", "pub-symmory/pub/libp2p/core/record/pb.errNumber", "io.ErrUnexpectedEOF", "pub-symmory/pub/protowire.errFieldNumber", "pub-symmory/pub/protowire.errOverflow", "pub-symmory/pub/protowire.errReserved", "pub-symmory/pub/protowire.errEndGroup", "pub-symmory/pub/protowire.errParse", "pub-symmory/pub/libp2p/core/crypto/pb.errNumber"], apart := false, laid := [("io.ErrUnexpectedEOF", laid_io_ErrUnexpectedEOF), ("pub-symmory/pub/protowire.errFieldNumber", laid_pub_symmory_pub_protowire_errFieldNumber), ("pub-symmory/pub/protowire.errOverflow", laid_pub_symmory_pub_protowire_errOverflow), ("pub-symmory/pub/protowire.errReserved", laid_pub_symmory_pub_protowire_errReserved), ("pub-symmory/pub/protowire.errEndGroup", laid_pub_symmory_pub_protowire_errEndGroup), ("pub-symmory/pub/protowire.errParse", laid_pub_symmory_pub_protowire_errParse), ("pub-symmory/pub/libp2p/core/crypto/pb.errNumber", laid_pub_symmory_pub_libp2p_core_crypto_pb_errNumber), ("pub-symmory/pub/libp2p/core/crypto/pb.errRequired", laid_pub_symmory_pub_libp2p_core_crypto_pb_errRequired), ("pub-symmory/pub/libp2p/core/record/pb.errNumber", laid_pub_symmory_pub_libp2p_core_record_pb_errNumber)] }
def FnKeyEnvelopeKeySaid : Prop := fnKeyEnvelopeKeyRow.holds Tryd.pinned (OpenSpec.ofChange fnKeyEnvelopeKeySpec)

/-- ITS FALSE NEIGHBOUR: 'it returns false'. Refute it at one input. -/
def fnKeyEnvelopeKeyWrong : ChangeSpec := { name := "fnKeyEnvelopeKey", fn := fun _ => fun
  | [d1, d2, d3, d4] => { results := [.lit (.bool false)], args := [d1, d2, d3, d4] }
  | _ => none }
def FnKeyEnvelopeKeyWrongFalsely : Prop := fnKeyEnvelopeKeyRow.holds Tryd.pinned (OpenSpec.ofChange fnKeyEnvelopeKeyWrong)

/-- 'laws.FnKeyEnvelopeTorn': WHATEVER THE INPUT: true; the input reads as it did. -/
def fnKeyEnvelopeTornSpec : ChangeSpec := { name := "fnKeyEnvelopeTorn", fn := fun _ => fun
  | [d1, d2] => { results := [.lit (.bool true)], args := [d1, d2] }
  | _ => none }
def fnKeyEnvelopeTornRow : OpenClaim := { program := "ytcefcdmonfenoaadoor", sum := "9cce95cadc39963c8ea0a239489f54630ec9a72e45858d1e40086e69f082b2a1", func := "pub-symmory/laws.FnKeyEnvelopeTorn", spec := "fnKeyEnvelopeTorn", unfollowed := true, recurses := true, named := ["pub-symmory/pub/libp2p/core/crypto/pb.errRequired", "pub-symmory/pub/libp2p/core/record/pb.errNumber", "io.ErrUnexpectedEOF", "pub-symmory/pub/protowire.errFieldNumber", "pub-symmory/pub/protowire.errOverflow", "pub-symmory/pub/protowire.errReserved", "pub-symmory/pub/protowire.errEndGroup", "pub-symmory/pub/protowire.errParse", "pub-symmory/pub/libp2p/core/crypto/pb.errNumber"], apart := false, laid := [("io.ErrUnexpectedEOF", laid_io_ErrUnexpectedEOF), ("pub-symmory/pub/protowire.errFieldNumber", laid_pub_symmory_pub_protowire_errFieldNumber), ("pub-symmory/pub/protowire.errOverflow", laid_pub_symmory_pub_protowire_errOverflow), ("pub-symmory/pub/protowire.errReserved", laid_pub_symmory_pub_protowire_errReserved), ("pub-symmory/pub/protowire.errEndGroup", laid_pub_symmory_pub_protowire_errEndGroup), ("pub-symmory/pub/protowire.errParse", laid_pub_symmory_pub_protowire_errParse), ("pub-symmory/pub/libp2p/core/crypto/pb.errNumber", laid_pub_symmory_pub_libp2p_core_crypto_pb_errNumber), ("pub-symmory/pub/libp2p/core/crypto/pb.errRequired", laid_pub_symmory_pub_libp2p_core_crypto_pb_errRequired), ("pub-symmory/pub/libp2p/core/record/pb.errNumber", laid_pub_symmory_pub_libp2p_core_record_pb_errNumber)] }
def FnKeyEnvelopeTornSaid : Prop := fnKeyEnvelopeTornRow.holds Tryd.pinned (OpenSpec.ofChange fnKeyEnvelopeTornSpec)

/-- ITS FALSE NEIGHBOUR: 'it returns false'. Refute it at one input. -/
def fnKeyEnvelopeTornWrong : ChangeSpec := { name := "fnKeyEnvelopeTorn", fn := fun _ => fun
  | [d1, d2] => { results := [.lit (.bool false)], args := [d1, d2] }
  | _ => none }
def FnKeyEnvelopeTornWrongFalsely : Prop := fnKeyEnvelopeTornRow.holds Tryd.pinned (OpenSpec.ofChange fnKeyEnvelopeTornWrong)

/- THE SECOND FORM. 'bulk': how many values and letters a reading holds, each counted each time it is reached (what is shared counts as often as it is met; a slice's spare places count too). A statement '..UptoSaid' is the law's where the arguments, and the package variables that the reading takes, are together of bulk at most 1048576: NARROWER than '..Said'. Prove '..Said' where nothing that the law and all that it calls make is longer than what came in: it says more and counts as full. Else prove '..UptoSaid'. A law counts once. -/
mutual
def uptoBulk {H : Type} : DataW H → Nat
  | .lit (.string bytes) => bytes.length + 1
  | .lit _ => 1
  | .nil => 1
  | .ptr d => uptoBulk d + 1
  | .slice elems spare => uptoBulkAll elems + uptoBulkAll spare + 1
  | .agg parts => uptoBulkAll parts + 1
  | .iface _ d => uptoBulk d + 1
  | .map entries => uptoBulkEntries entries + 1
  | .held _ => 1
def uptoBulkAll {H : Type} : List (DataW H) → Nat
  | [] => 0
  | d :: r => uptoBulk d + uptoBulkAll r
def uptoBulkEntries {H : Type} : List (Lit × DataW H) → Nat
  | [] => 0
  | x :: r => uptoBulkEntry x + uptoBulkEntries r
def uptoBulkEntry {H : Type} : Lit × DataW H → Nat
  | (.string bytes, d) => bytes.length + uptoBulk d + 1
  | (_, d) => uptoBulk d + 1
 end
def uptoSmall : (H : Type) → List (DataW H) → Bool := fun _ ds => decide (uptoBulkAll ds ≤ 1048576)
def OpenSpec.upto (s : _root_.Go.ChangeSpec) : _root_.Go.OpenSpec := { _root_.Go.OpenSpec.ofChange s with cond := some uptoSmall }

/-- 'laws.FnPeerTorn', WHERE WHAT IT READS IS OF BULK AT MOST 1048576: true; the input reads as it did. -/
def fnPeerTornUptoRow : OpenClaim := { program := "ytcefcdmonfenoaadoor", sum := "9cce95cadc39963c8ea0a239489f54630ec9a72e45858d1e40086e69f082b2a1", func := "pub-symmory/laws.FnPeerTorn", spec := "fnPeerTorn", named := ["pub-symmory/pub/gomultihash.ErrTooShort", "pub-symmory/pub/gomultihash.ErrVarintBufferShort", "pub-symmory/pub/gomultihash.ErrVarintTooLong", "pub-symmory/pub/govarint.ErrOverflow", "pub-symmory/pub/govarint.ErrNotMinimal", "pub-symmory/pub/govarint.ErrUnderflow"], apart := false, laid := [("pub-symmory/pub/govarint.ErrOverflow", laid_pub_symmory_pub_govarint_ErrOverflow), ("pub-symmory/pub/govarint.ErrUnderflow", laid_pub_symmory_pub_govarint_ErrUnderflow), ("pub-symmory/pub/govarint.ErrNotMinimal", laid_pub_symmory_pub_govarint_ErrNotMinimal), ("pub-symmory/pub/gomultihash.ErrTooShort", laid_pub_symmory_pub_gomultihash_ErrTooShort), ("pub-symmory/pub/gomultihash.ErrVarintBufferShort", laid_pub_symmory_pub_gomultihash_ErrVarintBufferShort), ("pub-symmory/pub/gomultihash.ErrVarintTooLong", laid_pub_symmory_pub_gomultihash_ErrVarintTooLong)], narrowed := true }
def FnPeerTornUptoSaid : Prop := fnPeerTornUptoRow.holds Tryd.pinned (OpenSpec.upto fnPeerTornSpec)

/-- 'laws.FnPeerShortApart', WHERE WHAT IT READS IS OF BULK AT MOST 1048576: true; the input reads as it did. -/
def fnPeerShortApartUptoRow : OpenClaim := { program := "ytcefcdmonfenoaadoor", sum := "9cce95cadc39963c8ea0a239489f54630ec9a72e45858d1e40086e69f082b2a1", func := "pub-symmory/laws.FnPeerShortApart", spec := "fnPeerShortApart", named := ["pub-symmory/pub/gomultihash.ErrTooShort", "pub-symmory/pub/gomultihash.ErrVarintBufferShort", "pub-symmory/pub/gomultihash.ErrVarintTooLong", "pub-symmory/pub/govarint.ErrOverflow", "pub-symmory/pub/govarint.ErrNotMinimal", "pub-symmory/pub/govarint.ErrUnderflow"], apart := false, laid := [("pub-symmory/pub/govarint.ErrOverflow", laid_pub_symmory_pub_govarint_ErrOverflow), ("pub-symmory/pub/govarint.ErrUnderflow", laid_pub_symmory_pub_govarint_ErrUnderflow), ("pub-symmory/pub/govarint.ErrNotMinimal", laid_pub_symmory_pub_govarint_ErrNotMinimal), ("pub-symmory/pub/gomultihash.ErrTooShort", laid_pub_symmory_pub_gomultihash_ErrTooShort), ("pub-symmory/pub/gomultihash.ErrVarintBufferShort", laid_pub_symmory_pub_gomultihash_ErrVarintBufferShort), ("pub-symmory/pub/gomultihash.ErrVarintTooLong", laid_pub_symmory_pub_gomultihash_ErrVarintTooLong)], narrowed := true }
def FnPeerShortApartUptoSaid : Prop := fnPeerShortApartUptoRow.holds Tryd.pinned (OpenSpec.upto fnPeerShortApartSpec)

/-- 'laws.FnKeyApart', WHERE WHAT IT READS IS OF BULK AT MOST 1048576: true; the input reads as it did. -/
def fnKeyApartUptoRow : OpenClaim := { program := "ytcefcdmonfenoaadoor", sum := "9cce95cadc39963c8ea0a239489f54630ec9a72e45858d1e40086e69f082b2a1", func := "pub-symmory/laws.FnKeyApart", spec := "fnKeyApart", recurses := true, named := ["pub-symmory/pub/libp2p/core/crypto/pb.errRequired", "pub-symmory/pub/libp2p/core/crypto/pb.errNumber", "io.ErrUnexpectedEOF", "pub-symmory/pub/protowire.errFieldNumber", "pub-symmory/pub/protowire.errOverflow", "pub-symmory/pub/protowire.errReserved", "pub-symmory/pub/protowire.errEndGroup", "pub-symmory/pub/protowire.errParse"], apart := false, laid := [("io.ErrUnexpectedEOF", laid_io_ErrUnexpectedEOF), ("pub-symmory/pub/protowire.errFieldNumber", laid_pub_symmory_pub_protowire_errFieldNumber), ("pub-symmory/pub/protowire.errOverflow", laid_pub_symmory_pub_protowire_errOverflow), ("pub-symmory/pub/protowire.errReserved", laid_pub_symmory_pub_protowire_errReserved), ("pub-symmory/pub/protowire.errEndGroup", laid_pub_symmory_pub_protowire_errEndGroup), ("pub-symmory/pub/protowire.errParse", laid_pub_symmory_pub_protowire_errParse), ("pub-symmory/pub/libp2p/core/crypto/pb.errNumber", laid_pub_symmory_pub_libp2p_core_crypto_pb_errNumber), ("pub-symmory/pub/libp2p/core/crypto/pb.errRequired", laid_pub_symmory_pub_libp2p_core_crypto_pb_errRequired)], narrowed := true }
def FnKeyApartUptoSaid : Prop := fnKeyApartUptoRow.holds Tryd.pinned (OpenSpec.upto fnKeyApartSpec)

/-- 'laws.FnKeyHalf', WHERE WHAT IT READS IS OF BULK AT MOST 1048576: true; the input reads as it did. -/
def fnKeyHalfUptoRow : OpenClaim := { program := "ytcefcdmonfenoaadoor", sum := "9cce95cadc39963c8ea0a239489f54630ec9a72e45858d1e40086e69f082b2a1", func := "pub-symmory/laws.FnKeyHalf", spec := "fnKeyHalf", recurses := true, named := ["pub-symmory/pub/libp2p/core/crypto/pb.errRequired", "pub-symmory/pub/libp2p/core/crypto/pb.errNumber", "io.ErrUnexpectedEOF", "pub-symmory/pub/protowire.errFieldNumber", "pub-symmory/pub/protowire.errOverflow", "pub-symmory/pub/protowire.errReserved", "pub-symmory/pub/protowire.errEndGroup", "pub-symmory/pub/protowire.errParse"], apart := false, laid := [("io.ErrUnexpectedEOF", laid_io_ErrUnexpectedEOF), ("pub-symmory/pub/protowire.errFieldNumber", laid_pub_symmory_pub_protowire_errFieldNumber), ("pub-symmory/pub/protowire.errOverflow", laid_pub_symmory_pub_protowire_errOverflow), ("pub-symmory/pub/protowire.errReserved", laid_pub_symmory_pub_protowire_errReserved), ("pub-symmory/pub/protowire.errEndGroup", laid_pub_symmory_pub_protowire_errEndGroup), ("pub-symmory/pub/protowire.errParse", laid_pub_symmory_pub_protowire_errParse), ("pub-symmory/pub/libp2p/core/crypto/pb.errNumber", laid_pub_symmory_pub_libp2p_core_crypto_pb_errNumber), ("pub-symmory/pub/libp2p/core/crypto/pb.errRequired", laid_pub_symmory_pub_libp2p_core_crypto_pb_errRequired)], narrowed := true }
def FnKeyHalfUptoSaid : Prop := fnKeyHalfUptoRow.holds Tryd.pinned (OpenSpec.upto fnKeyHalfSpec)

/-- 'laws.FnKeyWires', WHERE WHAT IT READS IS OF BULK AT MOST 1048576: true; the input reads as it did. -/
def fnKeyWiresUptoRow : OpenClaim := { program := "ytcefcdmonfenoaadoor", sum := "9cce95cadc39963c8ea0a239489f54630ec9a72e45858d1e40086e69f082b2a1", func := "pub-symmory/laws.FnKeyWires", spec := "fnKeyWires", recurses := true, named := ["pub-symmory/pub/libp2p/core/crypto/pb.errRequired", "pub-symmory/pub/libp2p/core/crypto/pb.errNumber", "io.ErrUnexpectedEOF", "pub-symmory/pub/protowire.errFieldNumber", "pub-symmory/pub/protowire.errOverflow", "pub-symmory/pub/protowire.errReserved", "pub-symmory/pub/protowire.errEndGroup", "pub-symmory/pub/protowire.errParse"], apart := false, laid := [("io.ErrUnexpectedEOF", laid_io_ErrUnexpectedEOF), ("pub-symmory/pub/protowire.errFieldNumber", laid_pub_symmory_pub_protowire_errFieldNumber), ("pub-symmory/pub/protowire.errOverflow", laid_pub_symmory_pub_protowire_errOverflow), ("pub-symmory/pub/protowire.errReserved", laid_pub_symmory_pub_protowire_errReserved), ("pub-symmory/pub/protowire.errEndGroup", laid_pub_symmory_pub_protowire_errEndGroup), ("pub-symmory/pub/protowire.errParse", laid_pub_symmory_pub_protowire_errParse), ("pub-symmory/pub/libp2p/core/crypto/pb.errNumber", laid_pub_symmory_pub_libp2p_core_crypto_pb_errNumber), ("pub-symmory/pub/libp2p/core/crypto/pb.errRequired", laid_pub_symmory_pub_libp2p_core_crypto_pb_errRequired)], narrowed := true }
def FnKeyWiresUptoSaid : Prop := fnKeyWiresUptoRow.holds Tryd.pinned (OpenSpec.upto fnKeyWiresSpec)

/-- 'laws.FnKeyRecordApart', WHERE WHAT IT READS IS OF BULK AT MOST 1048576: true; the input reads as it did. -/
def fnKeyRecordApartUptoRow : OpenClaim := { program := "ytcefcdmonfenoaadoor", sum := "9cce95cadc39963c8ea0a239489f54630ec9a72e45858d1e40086e69f082b2a1", func := "pub-symmory/laws.FnKeyRecordApart", spec := "fnKeyRecordApart", unfollowed := true, recurses := true, named := ["pub-symmory/pub/libp2p/core/peer/pb.errNumber", "io.ErrUnexpectedEOF", "pub-symmory/pub/protowire.errFieldNumber", "pub-symmory/pub/protowire.errOverflow", "pub-symmory/pub/protowire.errReserved", "pub-symmory/pub/protowire.errEndGroup", "pub-symmory/pub/protowire.errParse"], apart := false, laid := [("io.ErrUnexpectedEOF", laid_io_ErrUnexpectedEOF), ("pub-symmory/pub/protowire.errFieldNumber", laid_pub_symmory_pub_protowire_errFieldNumber), ("pub-symmory/pub/protowire.errOverflow", laid_pub_symmory_pub_protowire_errOverflow), ("pub-symmory/pub/protowire.errReserved", laid_pub_symmory_pub_protowire_errReserved), ("pub-symmory/pub/protowire.errEndGroup", laid_pub_symmory_pub_protowire_errEndGroup), ("pub-symmory/pub/protowire.errParse", laid_pub_symmory_pub_protowire_errParse), ("pub-symmory/pub/libp2p/core/peer/pb.errNumber", laid_pub_symmory_pub_libp2p_core_peer_pb_errNumber)], narrowed := true }
def FnKeyRecordApartUptoSaid : Prop := fnKeyRecordApartUptoRow.holds Tryd.pinned (OpenSpec.upto fnKeyRecordApartSpec)

/-- 'laws.FnKeyTorn', WHERE WHAT IT READS IS OF BULK AT MOST 1048576: true; the input reads as it did. -/
def fnKeyTornUptoRow : OpenClaim := { program := "ytcefcdmonfenoaadoor", sum := "9cce95cadc39963c8ea0a239489f54630ec9a72e45858d1e40086e69f082b2a1", func := "pub-symmory/laws.FnKeyTorn", spec := "fnKeyTorn", recurses := true, named := ["pub-symmory/pub/libp2p/core/crypto/pb.errRequired", "pub-symmory/pub/libp2p/core/crypto/pb.errNumber", "io.ErrUnexpectedEOF", "pub-symmory/pub/protowire.errFieldNumber", "pub-symmory/pub/protowire.errOverflow", "pub-symmory/pub/protowire.errReserved", "pub-symmory/pub/protowire.errEndGroup", "pub-symmory/pub/protowire.errParse"], apart := false, laid := [("io.ErrUnexpectedEOF", laid_io_ErrUnexpectedEOF), ("pub-symmory/pub/protowire.errFieldNumber", laid_pub_symmory_pub_protowire_errFieldNumber), ("pub-symmory/pub/protowire.errOverflow", laid_pub_symmory_pub_protowire_errOverflow), ("pub-symmory/pub/protowire.errReserved", laid_pub_symmory_pub_protowire_errReserved), ("pub-symmory/pub/protowire.errEndGroup", laid_pub_symmory_pub_protowire_errEndGroup), ("pub-symmory/pub/protowire.errParse", laid_pub_symmory_pub_protowire_errParse), ("pub-symmory/pub/libp2p/core/crypto/pb.errNumber", laid_pub_symmory_pub_libp2p_core_crypto_pb_errNumber), ("pub-symmory/pub/libp2p/core/crypto/pb.errRequired", laid_pub_symmory_pub_libp2p_core_crypto_pb_errRequired)], narrowed := true }
def FnKeyTornUptoSaid : Prop := fnKeyTornUptoRow.holds Tryd.pinned (OpenSpec.upto fnKeyTornSpec)

/-- 'laws.FnKeyWritten', WHERE WHAT IT READS IS OF BULK AT MOST 1048576: true; the input reads as it did. -/
def fnKeyWrittenUptoRow : OpenClaim := { program := "ytcefcdmonfenoaadoor", sum := "9cce95cadc39963c8ea0a239489f54630ec9a72e45858d1e40086e69f082b2a1", func := "pub-symmory/laws.FnKeyWritten", spec := "fnKeyWritten", recurses := true, named := ["pub-symmory/pub/libp2p/core/crypto/pb.errRequired", "pub-symmory/pub/libp2p/core/crypto/pb.errNumber", "io.ErrUnexpectedEOF", "pub-symmory/pub/protowire.errFieldNumber", "pub-symmory/pub/protowire.errOverflow", "pub-symmory/pub/protowire.errReserved", "pub-symmory/pub/protowire.errEndGroup", "pub-symmory/pub/protowire.errParse"], apart := false, laid := [("io.ErrUnexpectedEOF", laid_io_ErrUnexpectedEOF), ("pub-symmory/pub/protowire.errFieldNumber", laid_pub_symmory_pub_protowire_errFieldNumber), ("pub-symmory/pub/protowire.errOverflow", laid_pub_symmory_pub_protowire_errOverflow), ("pub-symmory/pub/protowire.errReserved", laid_pub_symmory_pub_protowire_errReserved), ("pub-symmory/pub/protowire.errEndGroup", laid_pub_symmory_pub_protowire_errEndGroup), ("pub-symmory/pub/protowire.errParse", laid_pub_symmory_pub_protowire_errParse), ("pub-symmory/pub/libp2p/core/crypto/pb.errNumber", laid_pub_symmory_pub_libp2p_core_crypto_pb_errNumber), ("pub-symmory/pub/libp2p/core/crypto/pb.errRequired", laid_pub_symmory_pub_libp2p_core_crypto_pb_errRequired)], narrowed := true }
def FnKeyWrittenUptoSaid : Prop := fnKeyWrittenUptoRow.holds Tryd.pinned (OpenSpec.upto fnKeyWrittenSpec)

/-- 'laws.FnKeyAddressLast', WHERE WHAT IT READS IS OF BULK AT MOST 1048576: true; the input reads as it did. -/
def fnKeyAddressLastUptoRow : OpenClaim := { program := "ytcefcdmonfenoaadoor", sum := "9cce95cadc39963c8ea0a239489f54630ec9a72e45858d1e40086e69f082b2a1", func := "pub-symmory/laws.FnKeyAddressLast", spec := "fnKeyAddressLast", unfollowed := true, recurses := true, named := ["pub-symmory/pub/libp2p/core/peer/pb.errNumber", "io.ErrUnexpectedEOF", "pub-symmory/pub/protowire.errFieldNumber", "pub-symmory/pub/protowire.errOverflow", "pub-symmory/pub/protowire.errReserved", "pub-symmory/pub/protowire.errEndGroup", "pub-symmory/pub/protowire.errParse"], apart := false, laid := [("io.ErrUnexpectedEOF", laid_io_ErrUnexpectedEOF), ("pub-symmory/pub/protowire.errFieldNumber", laid_pub_symmory_pub_protowire_errFieldNumber), ("pub-symmory/pub/protowire.errOverflow", laid_pub_symmory_pub_protowire_errOverflow), ("pub-symmory/pub/protowire.errReserved", laid_pub_symmory_pub_protowire_errReserved), ("pub-symmory/pub/protowire.errEndGroup", laid_pub_symmory_pub_protowire_errEndGroup), ("pub-symmory/pub/protowire.errParse", laid_pub_symmory_pub_protowire_errParse), ("pub-symmory/pub/libp2p/core/peer/pb.errNumber", laid_pub_symmory_pub_libp2p_core_peer_pb_errNumber)], narrowed := true }
def FnKeyAddressLastUptoSaid : Prop := fnKeyAddressLastUptoRow.holds Tryd.pinned (OpenSpec.upto fnKeyAddressLastSpec)

/-- 'laws.FnKeyRecord', WHERE WHAT IT READS IS OF BULK AT MOST 1048576: true; the input reads as it did. -/
def fnKeyRecordUptoRow : OpenClaim := { program := "ytcefcdmonfenoaadoor", sum := "9cce95cadc39963c8ea0a239489f54630ec9a72e45858d1e40086e69f082b2a1", func := "pub-symmory/laws.FnKeyRecord", spec := "fnKeyRecord", unfollowed := true, recurses := true, named := ["pub-symmory/pub/libp2p/core/peer/pb.errNumber", "io.ErrUnexpectedEOF", "pub-symmory/pub/protowire.errFieldNumber", "pub-symmory/pub/protowire.errOverflow", "pub-symmory/pub/protowire.errReserved", "pub-symmory/pub/protowire.errEndGroup", "pub-symmory/pub/protowire.errParse"], apart := false, laid := [("io.ErrUnexpectedEOF", laid_io_ErrUnexpectedEOF), ("pub-symmory/pub/protowire.errFieldNumber", laid_pub_symmory_pub_protowire_errFieldNumber), ("pub-symmory/pub/protowire.errOverflow", laid_pub_symmory_pub_protowire_errOverflow), ("pub-symmory/pub/protowire.errReserved", laid_pub_symmory_pub_protowire_errReserved), ("pub-symmory/pub/protowire.errEndGroup", laid_pub_symmory_pub_protowire_errEndGroup), ("pub-symmory/pub/protowire.errParse", laid_pub_symmory_pub_protowire_errParse), ("pub-symmory/pub/libp2p/core/peer/pb.errNumber", laid_pub_symmory_pub_libp2p_core_peer_pb_errNumber)], narrowed := true }
def FnKeyRecordUptoSaid : Prop := fnKeyRecordUptoRow.holds Tryd.pinned (OpenSpec.upto fnKeyRecordSpec)

/-- 'laws.FnKeyRecordJoined', WHERE WHAT IT READS IS OF BULK AT MOST 1048576: true; the input reads as it did. -/
def fnKeyRecordJoinedUptoRow : OpenClaim := { program := "ytcefcdmonfenoaadoor", sum := "9cce95cadc39963c8ea0a239489f54630ec9a72e45858d1e40086e69f082b2a1", func := "pub-symmory/laws.FnKeyRecordJoined", spec := "fnKeyRecordJoined", unfollowed := true, recurses := true, named := ["pub-symmory/pub/libp2p/core/peer/pb.errNumber", "io.ErrUnexpectedEOF", "pub-symmory/pub/protowire.errFieldNumber", "pub-symmory/pub/protowire.errOverflow", "pub-symmory/pub/protowire.errReserved", "pub-symmory/pub/protowire.errEndGroup", "pub-symmory/pub/protowire.errParse"], apart := false, laid := [("io.ErrUnexpectedEOF", laid_io_ErrUnexpectedEOF), ("pub-symmory/pub/protowire.errFieldNumber", laid_pub_symmory_pub_protowire_errFieldNumber), ("pub-symmory/pub/protowire.errOverflow", laid_pub_symmory_pub_protowire_errOverflow), ("pub-symmory/pub/protowire.errReserved", laid_pub_symmory_pub_protowire_errReserved), ("pub-symmory/pub/protowire.errEndGroup", laid_pub_symmory_pub_protowire_errEndGroup), ("pub-symmory/pub/protowire.errParse", laid_pub_symmory_pub_protowire_errParse), ("pub-symmory/pub/libp2p/core/peer/pb.errNumber", laid_pub_symmory_pub_libp2p_core_peer_pb_errNumber)], narrowed := true }
def FnKeyRecordJoinedUptoSaid : Prop := fnKeyRecordJoinedUptoRow.holds Tryd.pinned (OpenSpec.upto fnKeyRecordJoinedSpec)

/-- 'laws.FnKeyRecordOrder', WHERE WHAT IT READS IS OF BULK AT MOST 1048576: true; the input reads as it did. -/
def fnKeyRecordOrderUptoRow : OpenClaim := { program := "ytcefcdmonfenoaadoor", sum := "9cce95cadc39963c8ea0a239489f54630ec9a72e45858d1e40086e69f082b2a1", func := "pub-symmory/laws.FnKeyRecordOrder", spec := "fnKeyRecordOrder", unfollowed := true, recurses := true, named := ["pub-symmory/pub/libp2p/core/peer/pb.errNumber", "io.ErrUnexpectedEOF", "pub-symmory/pub/protowire.errFieldNumber", "pub-symmory/pub/protowire.errOverflow", "pub-symmory/pub/protowire.errReserved", "pub-symmory/pub/protowire.errEndGroup", "pub-symmory/pub/protowire.errParse"], apart := false, laid := [("io.ErrUnexpectedEOF", laid_io_ErrUnexpectedEOF), ("pub-symmory/pub/protowire.errFieldNumber", laid_pub_symmory_pub_protowire_errFieldNumber), ("pub-symmory/pub/protowire.errOverflow", laid_pub_symmory_pub_protowire_errOverflow), ("pub-symmory/pub/protowire.errReserved", laid_pub_symmory_pub_protowire_errReserved), ("pub-symmory/pub/protowire.errEndGroup", laid_pub_symmory_pub_protowire_errEndGroup), ("pub-symmory/pub/protowire.errParse", laid_pub_symmory_pub_protowire_errParse), ("pub-symmory/pub/libp2p/core/peer/pb.errNumber", laid_pub_symmory_pub_libp2p_core_peer_pb_errNumber)], narrowed := true }
def FnKeyRecordOrderUptoSaid : Prop := fnKeyRecordOrderUptoRow.holds Tryd.pinned (OpenSpec.upto fnKeyRecordOrderSpec)

/-- 'laws.FnKeyEnvelopeApart', WHERE WHAT IT READS IS OF BULK AT MOST 1048576: true; the input reads as it did. -/
def fnKeyEnvelopeApartUptoRow : OpenClaim := { program := "ytcefcdmonfenoaadoor", sum := "9cce95cadc39963c8ea0a239489f54630ec9a72e45858d1e40086e69f082b2a1", func := "pub-symmory/laws.FnKeyEnvelopeApart", spec := "fnKeyEnvelopeApart", recurses := true, named := ["pub-symmory/pub/libp2p/core/crypto/pb.errRequired", "pub-symmory/pub/libp2p/core/record/pb.errNumber", "io.ErrUnexpectedEOF", "pub-symmory/pub/protowire.errFieldNumber", "pub-symmory/pub/protowire.errOverflow", "pub-symmory/pub/protowire.errReserved", "pub-symmory/pub/protowire.errEndGroup", "pub-symmory/pub/protowire.errParse", "pub-symmory/pub/libp2p/core/crypto/pb.errNumber"], apart := false, laid := [("io.ErrUnexpectedEOF", laid_io_ErrUnexpectedEOF), ("pub-symmory/pub/protowire.errFieldNumber", laid_pub_symmory_pub_protowire_errFieldNumber), ("pub-symmory/pub/protowire.errOverflow", laid_pub_symmory_pub_protowire_errOverflow), ("pub-symmory/pub/protowire.errReserved", laid_pub_symmory_pub_protowire_errReserved), ("pub-symmory/pub/protowire.errEndGroup", laid_pub_symmory_pub_protowire_errEndGroup), ("pub-symmory/pub/protowire.errParse", laid_pub_symmory_pub_protowire_errParse), ("pub-symmory/pub/libp2p/core/crypto/pb.errNumber", laid_pub_symmory_pub_libp2p_core_crypto_pb_errNumber), ("pub-symmory/pub/libp2p/core/crypto/pb.errRequired", laid_pub_symmory_pub_libp2p_core_crypto_pb_errRequired), ("pub-symmory/pub/libp2p/core/record/pb.errNumber", laid_pub_symmory_pub_libp2p_core_record_pb_errNumber)], narrowed := true }
def FnKeyEnvelopeApartUptoSaid : Prop := fnKeyEnvelopeApartUptoRow.holds Tryd.pinned (OpenSpec.upto fnKeyEnvelopeApartSpec)

/-- 'laws.FnKeyLong', WHERE WHAT IT READS IS OF BULK AT MOST 1048576: true; the input reads as it did. -/
def fnKeyLongUptoRow : OpenClaim := { program := "ytcefcdmonfenoaadoor", sum := "9cce95cadc39963c8ea0a239489f54630ec9a72e45858d1e40086e69f082b2a1", func := "pub-symmory/laws.FnKeyLong", spec := "fnKeyLong", recurses := true, named := ["pub-symmory/pub/libp2p/core/crypto/pb.errRequired", "pub-symmory/pub/libp2p/core/crypto/pb.errNumber", "io.ErrUnexpectedEOF", "pub-symmory/pub/protowire.errFieldNumber", "pub-symmory/pub/protowire.errOverflow", "pub-symmory/pub/protowire.errReserved", "pub-symmory/pub/protowire.errEndGroup", "pub-symmory/pub/protowire.errParse"], apart := false, laid := [("io.ErrUnexpectedEOF", laid_io_ErrUnexpectedEOF), ("pub-symmory/pub/protowire.errFieldNumber", laid_pub_symmory_pub_protowire_errFieldNumber), ("pub-symmory/pub/protowire.errOverflow", laid_pub_symmory_pub_protowire_errOverflow), ("pub-symmory/pub/protowire.errReserved", laid_pub_symmory_pub_protowire_errReserved), ("pub-symmory/pub/protowire.errEndGroup", laid_pub_symmory_pub_protowire_errEndGroup), ("pub-symmory/pub/protowire.errParse", laid_pub_symmory_pub_protowire_errParse), ("pub-symmory/pub/libp2p/core/crypto/pb.errNumber", laid_pub_symmory_pub_libp2p_core_crypto_pb_errNumber), ("pub-symmory/pub/libp2p/core/crypto/pb.errRequired", laid_pub_symmory_pub_libp2p_core_crypto_pb_errRequired)], narrowed := true }
def FnKeyLongUptoSaid : Prop := fnKeyLongUptoRow.holds Tryd.pinned (OpenSpec.upto fnKeyLongSpec)

/-- 'laws.FnKeyEnvelope', WHERE WHAT IT READS IS OF BULK AT MOST 1048576: true; the input reads as it did. -/
def fnKeyEnvelopeUptoRow : OpenClaim := { program := "ytcefcdmonfenoaadoor", sum := "9cce95cadc39963c8ea0a239489f54630ec9a72e45858d1e40086e69f082b2a1", func := "pub-symmory/laws.FnKeyEnvelope", spec := "fnKeyEnvelope", recurses := true, named := ["pub-symmory/pub/libp2p/core/crypto/pb.errRequired", "pub-symmory/pub/libp2p/core/record/pb.errNumber", "io.ErrUnexpectedEOF", "pub-symmory/pub/protowire.errFieldNumber", "pub-symmory/pub/protowire.errOverflow", "pub-symmory/pub/protowire.errReserved", "pub-symmory/pub/protowire.errEndGroup", "pub-symmory/pub/protowire.errParse", "pub-symmory/pub/libp2p/core/crypto/pb.errNumber"], apart := false, laid := [("io.ErrUnexpectedEOF", laid_io_ErrUnexpectedEOF), ("pub-symmory/pub/protowire.errFieldNumber", laid_pub_symmory_pub_protowire_errFieldNumber), ("pub-symmory/pub/protowire.errOverflow", laid_pub_symmory_pub_protowire_errOverflow), ("pub-symmory/pub/protowire.errReserved", laid_pub_symmory_pub_protowire_errReserved), ("pub-symmory/pub/protowire.errEndGroup", laid_pub_symmory_pub_protowire_errEndGroup), ("pub-symmory/pub/protowire.errParse", laid_pub_symmory_pub_protowire_errParse), ("pub-symmory/pub/libp2p/core/crypto/pb.errNumber", laid_pub_symmory_pub_libp2p_core_crypto_pb_errNumber), ("pub-symmory/pub/libp2p/core/crypto/pb.errRequired", laid_pub_symmory_pub_libp2p_core_crypto_pb_errRequired), ("pub-symmory/pub/libp2p/core/record/pb.errNumber", laid_pub_symmory_pub_libp2p_core_record_pb_errNumber)], narrowed := true }
def FnKeyEnvelopeUptoSaid : Prop := fnKeyEnvelopeUptoRow.holds Tryd.pinned (OpenSpec.upto fnKeyEnvelopeSpec)

/-- 'laws.FnKeyEnvelopeKey', WHERE WHAT IT READS IS OF BULK AT MOST 1048576: true; the input reads as it did. -/
def fnKeyEnvelopeKeyUptoRow : OpenClaim := { program := "ytcefcdmonfenoaadoor", sum := "9cce95cadc39963c8ea0a239489f54630ec9a72e45858d1e40086e69f082b2a1", func := "pub-symmory/laws.FnKeyEnvelopeKey", spec := "fnKeyEnvelopeKey", unfollowed := true, recurses := true, named := ["pub-symmory/pub/libp2p/core/crypto/pb.errRequired", "pub-symmory/pub/libp2p/core/record/pb.errNumber", "io.ErrUnexpectedEOF", "pub-symmory/pub/protowire.errFieldNumber", "pub-symmory/pub/protowire.errOverflow", "pub-symmory/pub/protowire.errReserved", "pub-symmory/pub/protowire.errEndGroup", "pub-symmory/pub/protowire.errParse", "pub-symmory/pub/libp2p/core/crypto/pb.errNumber"], apart := false, laid := [("io.ErrUnexpectedEOF", laid_io_ErrUnexpectedEOF), ("pub-symmory/pub/protowire.errFieldNumber", laid_pub_symmory_pub_protowire_errFieldNumber), ("pub-symmory/pub/protowire.errOverflow", laid_pub_symmory_pub_protowire_errOverflow), ("pub-symmory/pub/protowire.errReserved", laid_pub_symmory_pub_protowire_errReserved), ("pub-symmory/pub/protowire.errEndGroup", laid_pub_symmory_pub_protowire_errEndGroup), ("pub-symmory/pub/protowire.errParse", laid_pub_symmory_pub_protowire_errParse), ("pub-symmory/pub/libp2p/core/crypto/pb.errNumber", laid_pub_symmory_pub_libp2p_core_crypto_pb_errNumber), ("pub-symmory/pub/libp2p/core/crypto/pb.errRequired", laid_pub_symmory_pub_libp2p_core_crypto_pb_errRequired), ("pub-symmory/pub/libp2p/core/record/pb.errNumber", laid_pub_symmory_pub_libp2p_core_record_pb_errNumber)], narrowed := true }
def FnKeyEnvelopeKeyUptoSaid : Prop := fnKeyEnvelopeKeyUptoRow.holds Tryd.pinned (OpenSpec.upto fnKeyEnvelopeKeySpec)

/-- 'laws.FnKeyEnvelopeTorn', WHERE WHAT IT READS IS OF BULK AT MOST 1048576: true; the input reads as it did. -/
def fnKeyEnvelopeTornUptoRow : OpenClaim := { program := "ytcefcdmonfenoaadoor", sum := "9cce95cadc39963c8ea0a239489f54630ec9a72e45858d1e40086e69f082b2a1", func := "pub-symmory/laws.FnKeyEnvelopeTorn", spec := "fnKeyEnvelopeTorn", unfollowed := true, recurses := true, named := ["pub-symmory/pub/libp2p/core/crypto/pb.errRequired", "pub-symmory/pub/libp2p/core/record/pb.errNumber", "io.ErrUnexpectedEOF", "pub-symmory/pub/protowire.errFieldNumber", "pub-symmory/pub/protowire.errOverflow", "pub-symmory/pub/protowire.errReserved", "pub-symmory/pub/protowire.errEndGroup", "pub-symmory/pub/protowire.errParse", "pub-symmory/pub/libp2p/core/crypto/pb.errNumber"], apart := false, laid := [("io.ErrUnexpectedEOF", laid_io_ErrUnexpectedEOF), ("pub-symmory/pub/protowire.errFieldNumber", laid_pub_symmory_pub_protowire_errFieldNumber), ("pub-symmory/pub/protowire.errOverflow", laid_pub_symmory_pub_protowire_errOverflow), ("pub-symmory/pub/protowire.errReserved", laid_pub_symmory_pub_protowire_errReserved), ("pub-symmory/pub/protowire.errEndGroup", laid_pub_symmory_pub_protowire_errEndGroup), ("pub-symmory/pub/protowire.errParse", laid_pub_symmory_pub_protowire_errParse), ("pub-symmory/pub/libp2p/core/crypto/pb.errNumber", laid_pub_symmory_pub_libp2p_core_crypto_pb_errNumber), ("pub-symmory/pub/libp2p/core/crypto/pb.errRequired", laid_pub_symmory_pub_libp2p_core_crypto_pb_errRequired), ("pub-symmory/pub/libp2p/core/record/pb.errNumber", laid_pub_symmory_pub_libp2p_core_record_pb_errNumber)], narrowed := true }
def FnKeyEnvelopeTornUptoSaid : Prop := fnKeyEnvelopeTornUptoRow.holds Tryd.pinned (OpenSpec.upto fnKeyEnvelopeTornSpec)

end Rows
end Go.Proofs.YtcefcdmonfenoaaDoor
