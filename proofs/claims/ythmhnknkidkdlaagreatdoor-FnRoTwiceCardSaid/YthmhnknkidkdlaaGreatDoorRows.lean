/-
  NARROWER THAN 'FOR EVERY INPUT', by the rows' own cells (each row's printed sentence says how): FnRoTwice: laid.
  DERIVED. THE GIVEN ROWS OF THIS SEAT. 1 by the template 'for every input the law returns true; each argument reads behind the call as it read before'; 0 by the template 'total and deterministic' (their statements: YthmhnknkidkdlaaGreatDoorTotals.lean).
  GIVEN WITH THE SEED: the statements are not yours to turn. If you find one false, say at which input.
  Laid BY PROGRAM, IN A SANDBOX (cutbox-rows.mjs): the forced cells as the released guide's own fill.sh prints them over the translation 6a2d27160e60f42e… (all of the seat's roots in one cut). By AI agents, Wed Nov 11 2026. No macro, syntax, notation, axiom, sorry.
-/
import Derived.Test.YthmhnknkidkdlaaGreatDoorChecked
import GoSem.Claim
import GoSem.ClaimJoined
import GoSem.ClaimMapViews
import Derived.JoinedTies
import Derived.KernelRfl
namespace Go.Proofs.YthmhnknkidkdlaaGreatDoor
/- THE CELL 'sum', in the pinned program and in every row, IS THE sha256 OF THE DUMP (.gsa) THAT YthmhnknkidkdlaaGreatDoorProg.lean LOADS. Nothing in Lean hashes anything: it is a label: what it is worth is what the hold of that sum in a sandbox is worth. -/
noncomputable def Tryz.pinned : Pinned := { name := "ythmhnknkidkdlaagreatdoor", sum := "6a2d27160e60f42e3f9e0b147ee44c2b13d2699fd4bd3c205f90646687e4fdd8", checked := Tryz.checked }
namespace Rows
def none {H : Type} : Left H := { results := [], args := [] }

/- WHAT THE LISTED PACKAGE-LEVEL VARIABLES READ AS WHEN THE CALL BEGINS. Each datum BY PROGRAM (the guide's laid-datum.mjs) off the statement by which the dump's own 'gosem.cut.vars' lays the variable. In a bare row this is a premise. The card (YthmhnknkidkdlaaGreatDoorCards.lean) ties it to the program's text. -/
def laid_io_ErrShortWrite {H : Type} : DataW H := .iface "*errors.errorString" (.ptr (.agg [.lit (.string [115, 104, 111, 114, 116, 32, 119, 114, 105, 116, 101])]))
def laid_io_ErrShortBuffer {H : Type} : DataW H := .iface "*errors.errorString" (.ptr (.agg [.lit (.string [115, 104, 111, 114, 116, 32, 98, 117, 102, 102, 101, 114])]))
def laid_io_EOF {H : Type} : DataW H := .iface "*errors.errorString" (.ptr (.agg [.lit (.string [69, 79, 70])]))
def laid_io_ErrUnexpectedEOF {H : Type} : DataW H := .iface "*errors.errorString" (.ptr (.agg [.lit (.string [117, 110, 101, 120, 112, 101, 99, 116, 101, 100, 32, 69, 79, 70])]))
def laid_pub_droshky_pub_cbor_ErrIndefiniteLength {H : Type} : DataW H := .iface "*errors.errorString" (.ptr (.agg [.lit (.string [99, 98, 111, 114, 58, 32, 105, 110, 100, 101, 102, 105, 110, 105, 116, 101, 45, 108, 101, 110, 103, 116, 104, 32, 101, 110, 99, 111, 100, 105, 110, 103, 32, 114, 101, 106, 101, 99, 116, 101, 100])]))
def laid_pub_droshky_pub_cbor_ErrIndefiniteSizeExceeded {H : Type} : DataW H := .iface "*errors.errorString" (.ptr (.agg [.lit (.string [99, 98, 111, 114, 58, 32, 105, 110, 100, 101, 102, 105, 110, 105, 116, 101, 45, 108, 101, 110, 103, 116, 104, 32, 115, 116, 114, 105, 110, 103, 47, 98, 121, 116, 101, 115, 32, 116, 111, 116, 97, 108, 32, 115, 105, 122, 101, 32, 101, 120, 99, 101, 101, 100, 115, 32, 108, 105, 109, 105, 116])]))
def laid_pub_droshky_pub_cbor_ErrNonMinimalInteger {H : Type} : DataW H := .iface "*errors.errorString" (.ptr (.agg [.lit (.string [99, 98, 111, 114, 58, 32, 105, 110, 116, 101, 103, 101, 114, 32, 110, 111, 116, 32, 109, 105, 110, 105, 109, 97, 108, 108, 121, 32, 101, 110, 99, 111, 100, 101, 100])]))
def laid_pub_droshky_pub_cbor_ErrFloatNaN {H : Type} : DataW H := .iface "*errors.errorString" (.ptr (.agg [.lit (.string [99, 98, 111, 114, 58, 32, 78, 97, 78, 32, 102, 108, 111, 97, 116, 32, 118, 97, 108, 117, 101, 32, 114, 101, 106, 101, 99, 116, 101, 100])]))
def laid_pub_droshky_pub_cbor_ErrFloatInfinity {H : Type} : DataW H := .iface "*errors.errorString" (.ptr (.agg [.lit (.string [99, 98, 111, 114, 58, 32, 105, 110, 102, 105, 110, 105, 116, 101, 32, 102, 108, 111, 97, 116, 32, 118, 97, 108, 117, 101, 32, 114, 101, 106, 101, 99, 116, 101, 100])]))
def laid_pub_droshky_pub_cbor_ErrNarrowFloat {H : Type} : DataW H := .iface "*errors.errorString" (.ptr (.agg [.lit (.string [99, 98, 111, 114, 58, 32, 102, 108, 111, 97, 116, 32, 110, 97, 114, 114, 111, 119, 101, 114, 32, 116, 104, 97, 110, 32, 54, 52, 32, 98, 105, 116, 115, 32, 114, 101, 106, 101, 99, 116, 101, 100])]))
def laid_pub_droshky_pub_varint_ErrOverflow {H : Type} : DataW H := .iface "*errors.errorString" (.ptr (.agg [.lit (.string [118, 97, 114, 105, 110, 116, 115, 32, 108, 97, 114, 103, 101, 114, 32, 116, 104, 97, 110, 32, 117, 105, 110, 116, 54, 51, 32, 110, 111, 116, 32, 115, 117, 112, 112, 111, 114, 116, 101, 100])]))
def laid_pub_droshky_pub_varint_ErrUnderflow {H : Type} : DataW H := .iface "*errors.errorString" (.ptr (.agg [.lit (.string [118, 97, 114, 105, 110, 116, 115, 32, 109, 97, 108, 102, 111, 114, 109, 101, 100, 44, 32, 99, 111, 117, 108, 100, 32, 110, 111, 116, 32, 114, 101, 97, 99, 104, 32, 116, 104, 101, 32, 101, 110, 100])]))
def laid_pub_droshky_pub_varint_ErrNotMinimal {H : Type} : DataW H := .iface "*errors.errorString" (.ptr (.agg [.lit (.string [118, 97, 114, 105, 110, 116, 32, 110, 111, 116, 32, 109, 105, 110, 105, 109, 97, 108, 108, 121, 32, 101, 110, 99, 111, 100, 101, 100])]))
def laid_pub_droshky_pub_multihash_ErrTooShort {H : Type} : DataW H := .iface "*errors.errorString" (.ptr (.agg [.lit (.string [109, 117, 108, 116, 105, 104, 97, 115, 104, 32, 116, 111, 111, 32, 115, 104, 111, 114, 116, 46, 32, 109, 117, 115, 116, 32, 98, 101, 32, 62, 61, 32, 50, 32, 98, 121, 116, 101, 115])]))
def laid_pub_droshky_pub_multihash_ErrVarintBufferShort {H : Type} : DataW H := .iface "*errors.errorString" (.ptr (.agg [.lit (.string [117, 118, 97, 114, 105, 110, 116, 58, 32, 98, 117, 102, 102, 101, 114, 32, 116, 111, 111, 32, 115, 109, 97, 108, 108])]))
def laid_pub_droshky_pub_multihash_ErrVarintTooLong {H : Type} : DataW H := .iface "*errors.errorString" (.ptr (.agg [.lit (.string [117, 118, 97, 114, 105, 110, 116, 58, 32, 118, 97, 114, 105, 110, 116, 32, 116, 111, 111, 32, 98, 105, 103, 32, 40, 109, 97, 120, 32, 54, 52, 98, 105, 116, 41])]))
def laid_pub_droshky_pub_cid_Undef {H : Type} : DataW H := .agg [.lit (.string [])]
def laid_pub_droshky_pub_util_ErrSectionTooLarge {H : Type} : DataW H := .iface "*errors.errorString" (.ptr (.agg [.lit (.string [105, 110, 118, 97, 108, 105, 100, 32, 115, 101, 99, 116, 105, 111, 110, 32, 100, 97, 116, 97, 44, 32, 108, 101, 110, 103, 116, 104, 32, 111, 102, 32, 114, 101, 97, 100, 32, 98, 101, 121, 111, 110, 100, 32, 97, 108, 108, 111, 119, 97, 98, 108, 101, 32, 109, 97, 120, 105, 109, 117, 109])]))
def laid_pub_droshky_pub_util_ErrHeaderTooLarge {H : Type} : DataW H := .iface "*errors.errorString" (.ptr (.agg [.lit (.string [105, 110, 118, 97, 108, 105, 100, 32, 104, 101, 97, 100, 101, 114, 32, 100, 97, 116, 97, 44, 32, 108, 101, 110, 103, 116, 104, 32, 111, 102, 32, 114, 101, 97, 100, 32, 98, 101, 121, 111, 110, 100, 32, 97, 108, 108, 111, 119, 97, 98, 108, 101, 32, 109, 97, 120, 105, 109, 117, 109])]))
def laid_pub_droshky_pub_carv1_errHeader {H : Type} : DataW H := .iface "*errors.errorString" (.ptr (.agg [.lit (.string [105, 110, 118, 97, 108, 105, 100, 32, 104, 101, 97, 100, 101, 114])]))
def laid_pub_droshky_pub_car_ErrAlreadyV1 {H : Type} : DataW H := .iface "*errors.errorString" (.ptr (.agg [.lit (.string [97, 108, 114, 101, 97, 100, 121, 32, 97, 32, 67, 65, 82, 118, 49])]))

/-- 'laws.FnRoTwice': WHATEVER THE INPUT: true; the input reads as it did. -/
def fnRoTwiceSpec : ChangeSpec := { name := "fnRoTwice", fn := fun _ => fun
  | [d1, d2] => { results := [.lit (.bool true)], args := [d1, d2] }
  | _ => none }
def fnRoTwiceRow : OpenClaim := { program := "ythmhnknkidkdlaagreatdoor", sum := "6a2d27160e60f42e3f9e0b147ee44c2b13d2699fd4bd3c205f90646687e4fdd8", func := "pub-droshky/laws.FnRoTwice", spec := "fnRoTwice", inPlace := ["math.Float32frombits", "math.Float64frombits", "math.Float64bits"], unfollowed := true, recurses := true, named := ["io.EOF", "pub-droshky/pub/util.ErrSectionTooLarge", "pub-droshky/pub/util.ErrHeaderTooLarge", "io.ErrUnexpectedEOF", "pub-droshky/pub/varint.ErrOverflow", "pub-droshky/pub/varint.ErrNotMinimal", "io.ErrShortBuffer", "pub-droshky/pub/carv1.errHeader", "pub-droshky/pub/cbor.ErrNarrowFloat", "pub-droshky/pub/cbor.ErrIndefiniteLength", "encoding/binary.BigEndian", "pub-droshky/pub/cbor.ErrFloatNaN", "pub-droshky/pub/cbor.ErrFloatInfinity", "pub-droshky/pub/cbor.ErrIndefiniteSizeExceeded", "pub-droshky/pub/cbor.ErrNonMinimalInteger", "pub-droshky/pub/cid.Undef", "pub-droshky/pub/multihash.ErrTooShort", "pub-droshky/pub/multihash.ErrVarintBufferShort", "pub-droshky/pub/multihash.ErrVarintTooLong", "pub-droshky/pub/varint.ErrUnderflow", "encoding/binary.LittleEndian", "io.ErrShortWrite", "pub-droshky/pub/car.ErrAlreadyV1"], apart := false, laid := [("io.ErrShortWrite", laid_io_ErrShortWrite), ("io.ErrShortBuffer", laid_io_ErrShortBuffer), ("io.EOF", laid_io_EOF), ("io.ErrUnexpectedEOF", laid_io_ErrUnexpectedEOF), ("pub-droshky/pub/cbor.ErrIndefiniteLength", laid_pub_droshky_pub_cbor_ErrIndefiniteLength), ("pub-droshky/pub/cbor.ErrIndefiniteSizeExceeded", laid_pub_droshky_pub_cbor_ErrIndefiniteSizeExceeded), ("pub-droshky/pub/cbor.ErrNonMinimalInteger", laid_pub_droshky_pub_cbor_ErrNonMinimalInteger), ("pub-droshky/pub/cbor.ErrFloatNaN", laid_pub_droshky_pub_cbor_ErrFloatNaN), ("pub-droshky/pub/cbor.ErrFloatInfinity", laid_pub_droshky_pub_cbor_ErrFloatInfinity), ("pub-droshky/pub/cbor.ErrNarrowFloat", laid_pub_droshky_pub_cbor_ErrNarrowFloat), ("pub-droshky/pub/varint.ErrOverflow", laid_pub_droshky_pub_varint_ErrOverflow), ("pub-droshky/pub/varint.ErrUnderflow", laid_pub_droshky_pub_varint_ErrUnderflow), ("pub-droshky/pub/varint.ErrNotMinimal", laid_pub_droshky_pub_varint_ErrNotMinimal), ("pub-droshky/pub/multihash.ErrTooShort", laid_pub_droshky_pub_multihash_ErrTooShort), ("pub-droshky/pub/multihash.ErrVarintBufferShort", laid_pub_droshky_pub_multihash_ErrVarintBufferShort), ("pub-droshky/pub/multihash.ErrVarintTooLong", laid_pub_droshky_pub_multihash_ErrVarintTooLong), ("pub-droshky/pub/cid.Undef", laid_pub_droshky_pub_cid_Undef), ("pub-droshky/pub/util.ErrSectionTooLarge", laid_pub_droshky_pub_util_ErrSectionTooLarge), ("pub-droshky/pub/util.ErrHeaderTooLarge", laid_pub_droshky_pub_util_ErrHeaderTooLarge), ("pub-droshky/pub/carv1.errHeader", laid_pub_droshky_pub_carv1_errHeader), ("pub-droshky/pub/car.ErrAlreadyV1", laid_pub_droshky_pub_car_ErrAlreadyV1)] }
def FnRoTwiceSaid : Prop := fnRoTwiceRow.holds Tryz.pinned (OpenSpec.ofChange fnRoTwiceSpec)

/-- ITS FALSE NEIGHBOUR: 'it returns false'. Refute it at one input. -/
def fnRoTwiceWrong : ChangeSpec := { name := "fnRoTwice", fn := fun _ => fun
  | [d1, d2] => { results := [.lit (.bool false)], args := [d1, d2] }
  | _ => none }
def FnRoTwiceWrongFalsely : Prop := fnRoTwiceRow.holds Tryz.pinned (OpenSpec.ofChange fnRoTwiceWrong)

/- THE SECOND FORM. 'bulk': how many values and letters a reading holds, each counted each time it is reached (what is shared counts as often as it is met; a slice's spare places count too). A statement '..UptoSaid' is the law's where the arguments, and the package variables that the reading takes, are together of bulk at most 1048576: NARROWER than '..Said'. Prove '..Said' where nothing that the law and all that it calls make is longer than what came in: it says more and counts as full. Else prove '..UptoSaid'. A law counts once. -/
mutual
def uptoBulk {H : Type} : DataW H → Nat
  | .lit (.string bytes) => bytes.length + 1
  | .lit _ => 1
  | .nil => 1
  | .ptr d => uptoBulk d + 1
  | .slice elems spare => uptoBulkAll elems + uptoBulkAll spare + 1
  | .agg parts => uptoBulkAll parts + 1
  | .iface _ d => uptoBulk d + 1
  | .map entries => uptoBulkEntries entries + 1
  | .held _ => 1
def uptoBulkAll {H : Type} : List (DataW H) → Nat
  | [] => 0
  | d :: r => uptoBulk d + uptoBulkAll r
def uptoBulkEntries {H : Type} : List (Lit × DataW H) → Nat
  | [] => 0
  | x :: r => uptoBulkEntry x + uptoBulkEntries r
def uptoBulkEntry {H : Type} : Lit × DataW H → Nat
  | (.string bytes, d) => bytes.length + uptoBulk d + 1
  | (_, d) => uptoBulk d + 1
 end
def uptoSmall : (H : Type) → List (DataW H) → Bool := fun _ ds => decide (uptoBulkAll ds ≤ 1048576)
def OpenSpec.upto (s : _root_.Go.ChangeSpec) : _root_.Go.OpenSpec := { _root_.Go.OpenSpec.ofChange s with cond := some uptoSmall }

/-- 'laws.FnRoTwice', WHERE WHAT IT READS IS OF BULK AT MOST 1048576: true; the input reads as it did. -/
def fnRoTwiceUptoRow : OpenClaim := { program := "ythmhnknkidkdlaagreatdoor", sum := "6a2d27160e60f42e3f9e0b147ee44c2b13d2699fd4bd3c205f90646687e4fdd8", func := "pub-droshky/laws.FnRoTwice", spec := "fnRoTwice", inPlace := ["math.Float32frombits", "math.Float64frombits", "math.Float64bits"], unfollowed := true, recurses := true, named := ["io.EOF", "pub-droshky/pub/util.ErrSectionTooLarge", "pub-droshky/pub/util.ErrHeaderTooLarge", "io.ErrUnexpectedEOF", "pub-droshky/pub/varint.ErrOverflow", "pub-droshky/pub/varint.ErrNotMinimal", "io.ErrShortBuffer", "pub-droshky/pub/carv1.errHeader", "pub-droshky/pub/cbor.ErrNarrowFloat", "pub-droshky/pub/cbor.ErrIndefiniteLength", "encoding/binary.BigEndian", "pub-droshky/pub/cbor.ErrFloatNaN", "pub-droshky/pub/cbor.ErrFloatInfinity", "pub-droshky/pub/cbor.ErrIndefiniteSizeExceeded", "pub-droshky/pub/cbor.ErrNonMinimalInteger", "pub-droshky/pub/cid.Undef", "pub-droshky/pub/multihash.ErrTooShort", "pub-droshky/pub/multihash.ErrVarintBufferShort", "pub-droshky/pub/multihash.ErrVarintTooLong", "pub-droshky/pub/varint.ErrUnderflow", "encoding/binary.LittleEndian", "io.ErrShortWrite", "pub-droshky/pub/car.ErrAlreadyV1"], apart := false, laid := [("io.ErrShortWrite", laid_io_ErrShortWrite), ("io.ErrShortBuffer", laid_io_ErrShortBuffer), ("io.EOF", laid_io_EOF), ("io.ErrUnexpectedEOF", laid_io_ErrUnexpectedEOF), ("pub-droshky/pub/cbor.ErrIndefiniteLength", laid_pub_droshky_pub_cbor_ErrIndefiniteLength), ("pub-droshky/pub/cbor.ErrIndefiniteSizeExceeded", laid_pub_droshky_pub_cbor_ErrIndefiniteSizeExceeded), ("pub-droshky/pub/cbor.ErrNonMinimalInteger", laid_pub_droshky_pub_cbor_ErrNonMinimalInteger), ("pub-droshky/pub/cbor.ErrFloatNaN", laid_pub_droshky_pub_cbor_ErrFloatNaN), ("pub-droshky/pub/cbor.ErrFloatInfinity", laid_pub_droshky_pub_cbor_ErrFloatInfinity), ("pub-droshky/pub/cbor.ErrNarrowFloat", laid_pub_droshky_pub_cbor_ErrNarrowFloat), ("pub-droshky/pub/varint.ErrOverflow", laid_pub_droshky_pub_varint_ErrOverflow), ("pub-droshky/pub/varint.ErrUnderflow", laid_pub_droshky_pub_varint_ErrUnderflow), ("pub-droshky/pub/varint.ErrNotMinimal", laid_pub_droshky_pub_varint_ErrNotMinimal), ("pub-droshky/pub/multihash.ErrTooShort", laid_pub_droshky_pub_multihash_ErrTooShort), ("pub-droshky/pub/multihash.ErrVarintBufferShort", laid_pub_droshky_pub_multihash_ErrVarintBufferShort), ("pub-droshky/pub/multihash.ErrVarintTooLong", laid_pub_droshky_pub_multihash_ErrVarintTooLong), ("pub-droshky/pub/cid.Undef", laid_pub_droshky_pub_cid_Undef), ("pub-droshky/pub/util.ErrSectionTooLarge", laid_pub_droshky_pub_util_ErrSectionTooLarge), ("pub-droshky/pub/util.ErrHeaderTooLarge", laid_pub_droshky_pub_util_ErrHeaderTooLarge), ("pub-droshky/pub/carv1.errHeader", laid_pub_droshky_pub_carv1_errHeader), ("pub-droshky/pub/car.ErrAlreadyV1", laid_pub_droshky_pub_car_ErrAlreadyV1)], narrowed := true }
def FnRoTwiceUptoSaid : Prop := fnRoTwiceUptoRow.holds Tryz.pinned (OpenSpec.upto fnRoTwiceSpec)

end Rows
end Go.Proofs.YthmhnknkidkdlaaGreatDoor
