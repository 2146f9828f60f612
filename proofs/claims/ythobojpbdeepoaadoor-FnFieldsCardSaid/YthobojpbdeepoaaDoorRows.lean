/-
  NARROWER THAN 'FOR EVERY INPUT', by the rows' own cells (each row's printed sentence says how): FnCodeLine: laid · FnAnswerComesBack: laid · FnResponse: laid · FnDotWritten: laid · FnDotPieces: laid · FnDots: laid · FnLine: laid · FnRestOfBlockIsDropped: laid · FnDotLines: laid · FnBlocksFollow: laid · FnDotsComeBack: laid · FnContinued: laid · FnFields: laid · FnFieldsComeBack: laid.
  DERIVED. THE GIVEN ROWS OF THIS SEAT. 14 by the template 'for every input the law returns true; each argument reads behind the call as it read before'; 0 by the template 'total and deterministic' (their statements: YthobojpbdeepoaaDoorTotals.lean).
  GIVEN WITH THE SEED: the statements are not yours to turn. If you find one false, say at which input.
  Laid BY PROGRAM, IN A SANDBOX (cutbox-rows.mjs): the forced cells as the released guide's own fill.sh prints them over the translation 00ab0eb544778d9d… (all of the seat's roots in one cut). By AI agents, Wed Nov 11 2026. No macro, syntax, notation, axiom, sorry.
-/
import Derived.Test.YthobojpbdeepoaaDoorChecked
import GoSem.PinnedTables
import GoSem.Claim
import GoSem.ClaimJoined
import GoSem.ClaimMapViews
import Derived.JoinedTies
import Derived.KernelRfl
namespace Go.Proofs.YthobojpbdeepoaaDoor
/- THE CELL 'sum', in the pinned program and in every row, IS THE sha256 OF THE DUMP (.gsa) THAT YthobojpbdeepoaaDoorProg.lean LOADS. Nothing in Lean hashes anything: it is a label: what it is worth is what the hold of that sum in a sandbox is worth. -/
noncomputable def Tryd.pinned : Pinned := { name := "ythobojpbdeepoaadoor", sum := "00ab0eb544778d9d16bfc2def4def3a9fbfd5f43af78bcc4f4a646b35bdaa8ab", checked := Tryd.checked }
namespace Rows
def none {H : Type} : Left H := { results := [], args := [] }

/- WHAT THE LISTED PACKAGE-LEVEL VARIABLES READ AS WHEN THE CALL BEGINS. Each datum BY PROGRAM (the guide's laid-datum.mjs) off the statement by which the dump's own 'gosem.cut.vars' lays the variable. In a bare row this is a premise. The card (YthobojpbdeepoaaDoorCards.lean) ties it to the program's text. -/
def laid_math_bits_deBruijn32tab {H : Type} : DataW H := .agg [.lit (.int .u8 0), .lit (.int .u8 1), .lit (.int .u8 28), .lit (.int .u8 2), .lit (.int .u8 29), .lit (.int .u8 14), .lit (.int .u8 24), .lit (.int .u8 3), .lit (.int .u8 30), .lit (.int .u8 22), .lit (.int .u8 20), .lit (.int .u8 15), .lit (.int .u8 25), .lit (.int .u8 17), .lit (.int .u8 4), .lit (.int .u8 8), .lit (.int .u8 31), .lit (.int .u8 27), .lit (.int .u8 13), .lit (.int .u8 23), .lit (.int .u8 21), .lit (.int .u8 19), .lit (.int .u8 16), .lit (.int .u8 7), .lit (.int .u8 26), .lit (.int .u8 12), .lit (.int .u8 18), .lit (.int .u8 6), .lit (.int .u8 11), .lit (.int .u8 5), .lit (.int .u8 10), .lit (.int .u8 9)]
def laid_math_bits_deBruijn64tab {H : Type} : DataW H := .agg [.lit (.int .u8 0), .lit (.int .u8 1), .lit (.int .u8 56), .lit (.int .u8 2), .lit (.int .u8 57), .lit (.int .u8 49), .lit (.int .u8 28), .lit (.int .u8 3), .lit (.int .u8 61), .lit (.int .u8 58), .lit (.int .u8 42), .lit (.int .u8 50), .lit (.int .u8 38), .lit (.int .u8 29), .lit (.int .u8 17), .lit (.int .u8 4), .lit (.int .u8 62), .lit (.int .u8 47), .lit (.int .u8 59), .lit (.int .u8 36), .lit (.int .u8 45), .lit (.int .u8 43), .lit (.int .u8 51), .lit (.int .u8 22), .lit (.int .u8 53), .lit (.int .u8 39), .lit (.int .u8 33), .lit (.int .u8 30), .lit (.int .u8 24), .lit (.int .u8 18), .lit (.int .u8 12), .lit (.int .u8 5), .lit (.int .u8 63), .lit (.int .u8 55), .lit (.int .u8 48), .lit (.int .u8 27), .lit (.int .u8 60), .lit (.int .u8 41), .lit (.int .u8 37), .lit (.int .u8 16), .lit (.int .u8 46), .lit (.int .u8 35), .lit (.int .u8 44), .lit (.int .u8 21), .lit (.int .u8 52), .lit (.int .u8 32), .lit (.int .u8 23), .lit (.int .u8 11), .lit (.int .u8 54), .lit (.int .u8 26), .lit (.int .u8 40), .lit (.int .u8 15), .lit (.int .u8 34), .lit (.int .u8 20), .lit (.int .u8 31), .lit (.int .u8 10), .lit (.int .u8 25), .lit (.int .u8 14), .lit (.int .u8 19), .lit (.int .u8 9), .lit (.int .u8 13), .lit (.int .u8 8), .lit (.int .u8 7), .lit (.int .u8 6)]
def laid_internal_strconv_uint64pow10 {H : Type} : DataW H := .agg [.lit (.int .u64 1), .lit (.int .u64 10), .lit (.int .u64 100), .lit (.int .u64 1000), .lit (.int .u64 10000), .lit (.int .u64 100000), .lit (.int .u64 1000000), .lit (.int .u64 10000000), .lit (.int .u64 100000000), .lit (.int .u64 1000000000), .lit (.int .u64 10000000000), .lit (.int .u64 100000000000), .lit (.int .u64 1000000000000), .lit (.int .u64 10000000000000), .lit (.int .u64 100000000000000), .lit (.int .u64 1000000000000000), .lit (.int .u64 10000000000000000), .lit (.int .u64 100000000000000000), .lit (.int .u64 1000000000000000000), .lit (.int .u64 10000000000000000000)]
def laid_strconv_ErrRange {H : Type} : DataW H := .iface "*errors.errorString" (.ptr (.agg [.lit (.string [118, 97, 108, 117, 101, 32, 111, 117, 116, 32, 111, 102, 32, 114, 97, 110, 103, 101])]))
def laid_strconv_ErrSyntax {H : Type} : DataW H := .iface "*errors.errorString" (.ptr (.agg [.lit (.string [105, 110, 118, 97, 108, 105, 100, 32, 115, 121, 110, 116, 97, 120])]))
def laid_io_EOF {H : Type} : DataW H := .iface "*errors.errorString" (.ptr (.agg [.lit (.string [69, 79, 70])]))
def laid_io_ErrUnexpectedEOF {H : Type} : DataW H := .iface "*errors.errorString" (.ptr (.agg [.lit (.string [117, 110, 101, 120, 112, 101, 99, 116, 101, 100, 32, 69, 79, 70])]))
def laid_io_ErrNoProgress {H : Type} : DataW H := .iface "*errors.errorString" (.ptr (.agg [.lit (.string [109, 117, 108, 116, 105, 112, 108, 101, 32, 82, 101, 97, 100, 32, 99, 97, 108, 108, 115, 32, 114, 101, 116, 117, 114, 110, 32, 110, 111, 32, 100, 97, 116, 97, 32, 111, 114, 32, 101, 114, 114, 111, 114])]))
def laid_bufio_ErrInvalidUnreadByte {H : Type} : DataW H := .iface "*errors.errorString" (.ptr (.agg [.lit (.string [98, 117, 102, 105, 111, 58, 32, 105, 110, 118, 97, 108, 105, 100, 32, 117, 115, 101, 32, 111, 102, 32, 85, 110, 114, 101, 97, 100, 66, 121, 116, 101])]))
def laid_bufio_ErrBufferFull {H : Type} : DataW H := .iface "*errors.errorString" (.ptr (.agg [.lit (.string [98, 117, 102, 105, 111, 58, 32, 98, 117, 102, 102, 101, 114, 32, 102, 117, 108, 108])]))
def laid_bufio_errNegativeRead {H : Type} : DataW H := .iface "*errors.errorString" (.ptr (.agg [.lit (.string [98, 117, 102, 105, 111, 58, 32, 114, 101, 97, 100, 101, 114, 32, 114, 101, 116, 117, 114, 110, 101, 100, 32, 110, 101, 103, 97, 116, 105, 118, 101, 32, 99, 111, 117, 110, 116, 32, 102, 114, 111, 109, 32, 82, 101, 97, 100])]))
def laid_protocollines_pub_textproto_errMessageTooLarge {H : Type} : DataW H := .iface "*errors.errorString" (.ptr (.agg [.lit (.string [109, 101, 115, 115, 97, 103, 101, 32, 116, 111, 111, 32, 108, 97, 114, 103, 101])]))
def laid_io_ErrShortWrite {H : Type} : DataW H := .iface "*errors.errorString" (.ptr (.agg [.lit (.string [115, 104, 111, 114, 116, 32, 119, 114, 105, 116, 101])]))
def laid_bufio_ErrNegativeCount {H : Type} : DataW H := .iface "*errors.errorString" (.ptr (.agg [.lit (.string [98, 117, 102, 105, 111, 58, 32, 110, 101, 103, 97, 116, 105, 118, 101, 32, 99, 111, 117, 110, 116])]))
def laid_unicode_utf8_acceptRanges {H : Type} : DataW H := .agg [.agg [.lit (.int .u8 128), .lit (.int .u8 191)], .agg [.lit (.int .u8 160), .lit (.int .u8 191)], .agg [.lit (.int .u8 128), .lit (.int .u8 159)], .agg [.lit (.int .u8 144), .lit (.int .u8 191)], .agg [.lit (.int .u8 128), .lit (.int .u8 143)], .agg [.lit (.int .u8 0), .lit (.int .u8 0)], .agg [.lit (.int .u8 0), .lit (.int .u8 0)], .agg [.lit (.int .u8 0), .lit (.int .u8 0)], .agg [.lit (.int .u8 0), .lit (.int .u8 0)], .agg [.lit (.int .u8 0), .lit (.int .u8 0)], .agg [.lit (.int .u8 0), .lit (.int .u8 0)], .agg [.lit (.int .u8 0), .lit (.int .u8 0)], .agg [.lit (.int .u8 0), .lit (.int .u8 0)], .agg [.lit (.int .u8 0), .lit (.int .u8 0)], .agg [.lit (.int .u8 0), .lit (.int .u8 0)], .agg [.lit (.int .u8 0), .lit (.int .u8 0)]]
/-- One of Go's own tables, pinned by name: the form's constant. -/
def laid_unicode_utf8_first : DataW Unit := Go.Pinned.utf8First

/-- 'laws.FnCodeLine': WHATEVER THE INPUT: true; the input reads as it did. -/
def fnCodeLineSpec : ChangeSpec := { name := "fnCodeLine", fn := fun _ => fun
  | [d1, d2] => { results := [.lit (.bool true)], args := [d1, d2] }
  | _ => none }
def fnCodeLineRow : OpenClaim := { program := "ythobojpbdeepoaadoor", sum := "00ab0eb544778d9d16bfc2def4def3a9fbfd5f43af78bcc4f4a646b35bdaa8ab", func := "protocollines/laws.FnCodeLine", spec := "fnCodeLine", inPlace := ["internal/bytealg.IndexByte"], unfollowed := true, recurses := true, named := ["protocollines/pub/textproto.errMessageTooLarge", "io.EOF", "io.ErrUnexpectedEOF", "bufio.errNegativeRead", "io.ErrNoProgress", "bufio.ErrInvalidUnreadByte", "bufio.ErrBufferFull", "strconv.ErrSyntax", "strconv.ErrRange", "internal/strconv.uint64pow10", "math/bits.deBruijn32tab", "math/bits.deBruijn64tab"], apart := false, laid := [("math/bits.deBruijn32tab", laid_math_bits_deBruijn32tab), ("math/bits.deBruijn64tab", laid_math_bits_deBruijn64tab), ("internal/strconv.uint64pow10", laid_internal_strconv_uint64pow10), ("strconv.ErrRange", laid_strconv_ErrRange), ("strconv.ErrSyntax", laid_strconv_ErrSyntax), ("io.EOF", laid_io_EOF), ("io.ErrUnexpectedEOF", laid_io_ErrUnexpectedEOF), ("io.ErrNoProgress", laid_io_ErrNoProgress), ("bufio.ErrInvalidUnreadByte", laid_bufio_ErrInvalidUnreadByte), ("bufio.ErrBufferFull", laid_bufio_ErrBufferFull), ("bufio.errNegativeRead", laid_bufio_errNegativeRead), ("protocollines/pub/textproto.errMessageTooLarge", laid_protocollines_pub_textproto_errMessageTooLarge)] }
def FnCodeLineSaid : Prop := fnCodeLineRow.holds Tryd.pinned (OpenSpec.ofChange fnCodeLineSpec)

/-- ITS FALSE NEIGHBOUR: 'it returns false'. Refute it at one input. -/
def fnCodeLineWrong : ChangeSpec := { name := "fnCodeLine", fn := fun _ => fun
  | [d1, d2] => { results := [.lit (.bool false)], args := [d1, d2] }
  | _ => none }
def FnCodeLineWrongFalsely : Prop := fnCodeLineRow.holds Tryd.pinned (OpenSpec.ofChange fnCodeLineWrong)

/-- 'laws.FnAnswerComesBack': WHATEVER THE INPUT: true; the input reads as it did. -/
def fnAnswerComesBackSpec : ChangeSpec := { name := "fnAnswerComesBack", fn := fun _ => fun
  | [d1, d2, d3, d4] => { results := [.lit (.bool true)], args := [d1, d2, d3, d4] }
  | _ => none }
def fnAnswerComesBackRow : OpenClaim := { program := "ythobojpbdeepoaadoor", sum := "00ab0eb544778d9d16bfc2def4def3a9fbfd5f43af78bcc4f4a646b35bdaa8ab", func := "protocollines/laws.FnAnswerComesBack", spec := "fnAnswerComesBack", inPlace := ["internal/bytealg.IndexByte", "internal/abi.NoEscape"], unfollowed := true, recurses := true, named := ["protocollines/pub/textproto.errMessageTooLarge", "io.EOF", "io.ErrUnexpectedEOF", "bufio.errNegativeRead", "io.ErrNoProgress", "bufio.ErrInvalidUnreadByte", "bufio.ErrBufferFull", "strconv.ErrSyntax", "strconv.ErrRange", "internal/strconv.uint64pow10", "math/bits.deBruijn32tab", "math/bits.deBruijn64tab"], apart := false, laid := [("math/bits.deBruijn32tab", laid_math_bits_deBruijn32tab), ("math/bits.deBruijn64tab", laid_math_bits_deBruijn64tab), ("internal/strconv.uint64pow10", laid_internal_strconv_uint64pow10), ("strconv.ErrRange", laid_strconv_ErrRange), ("strconv.ErrSyntax", laid_strconv_ErrSyntax), ("io.EOF", laid_io_EOF), ("io.ErrUnexpectedEOF", laid_io_ErrUnexpectedEOF), ("io.ErrNoProgress", laid_io_ErrNoProgress), ("bufio.ErrInvalidUnreadByte", laid_bufio_ErrInvalidUnreadByte), ("bufio.ErrBufferFull", laid_bufio_ErrBufferFull), ("bufio.errNegativeRead", laid_bufio_errNegativeRead), ("protocollines/pub/textproto.errMessageTooLarge", laid_protocollines_pub_textproto_errMessageTooLarge)] }
def FnAnswerComesBackSaid : Prop := fnAnswerComesBackRow.holds Tryd.pinned (OpenSpec.ofChange fnAnswerComesBackSpec)

/-- ITS FALSE NEIGHBOUR: 'it returns false'. Refute it at one input. -/
def fnAnswerComesBackWrong : ChangeSpec := { name := "fnAnswerComesBack", fn := fun _ => fun
  | [d1, d2, d3, d4] => { results := [.lit (.bool false)], args := [d1, d2, d3, d4] }
  | _ => none }
def FnAnswerComesBackWrongFalsely : Prop := fnAnswerComesBackRow.holds Tryd.pinned (OpenSpec.ofChange fnAnswerComesBackWrong)

/-- 'laws.FnResponse': WHATEVER THE INPUT: true; the input reads as it did. -/
def fnResponseSpec : ChangeSpec := { name := "fnResponse", fn := fun _ => fun
  | [d1, d2] => { results := [.lit (.bool true)], args := [d1, d2] }
  | _ => none }
def fnResponseRow : OpenClaim := { program := "ythobojpbdeepoaadoor", sum := "00ab0eb544778d9d16bfc2def4def3a9fbfd5f43af78bcc4f4a646b35bdaa8ab", func := "protocollines/laws.FnResponse", spec := "fnResponse", inPlace := ["internal/bytealg.IndexByte", "internal/abi.NoEscape"], unfollowed := true, recurses := true, named := ["protocollines/pub/textproto.errMessageTooLarge", "io.EOF", "io.ErrUnexpectedEOF", "bufio.errNegativeRead", "io.ErrNoProgress", "bufio.ErrInvalidUnreadByte", "bufio.ErrBufferFull", "strconv.ErrSyntax", "strconv.ErrRange", "internal/strconv.uint64pow10", "math/bits.deBruijn32tab", "math/bits.deBruijn64tab"], apart := false, laid := [("math/bits.deBruijn32tab", laid_math_bits_deBruijn32tab), ("math/bits.deBruijn64tab", laid_math_bits_deBruijn64tab), ("internal/strconv.uint64pow10", laid_internal_strconv_uint64pow10), ("strconv.ErrRange", laid_strconv_ErrRange), ("strconv.ErrSyntax", laid_strconv_ErrSyntax), ("io.EOF", laid_io_EOF), ("io.ErrUnexpectedEOF", laid_io_ErrUnexpectedEOF), ("io.ErrNoProgress", laid_io_ErrNoProgress), ("bufio.ErrInvalidUnreadByte", laid_bufio_ErrInvalidUnreadByte), ("bufio.ErrBufferFull", laid_bufio_ErrBufferFull), ("bufio.errNegativeRead", laid_bufio_errNegativeRead), ("protocollines/pub/textproto.errMessageTooLarge", laid_protocollines_pub_textproto_errMessageTooLarge)] }
def FnResponseSaid : Prop := fnResponseRow.holds Tryd.pinned (OpenSpec.ofChange fnResponseSpec)

/-- ITS FALSE NEIGHBOUR: 'it returns false'. Refute it at one input. -/
def fnResponseWrong : ChangeSpec := { name := "fnResponse", fn := fun _ => fun
  | [d1, d2] => { results := [.lit (.bool false)], args := [d1, d2] }
  | _ => none }
def FnResponseWrongFalsely : Prop := fnResponseRow.holds Tryd.pinned (OpenSpec.ofChange fnResponseWrong)

/-- 'laws.FnDotWritten': WHATEVER THE INPUT: true; the input reads as it did. -/
def fnDotWrittenSpec : ChangeSpec := { name := "fnDotWritten", fn := fun _ => fun
  | [d] => { results := [.lit (.bool true)], args := [d] }
  | _ => none }
def fnDotWrittenRow : OpenClaim := { program := "ythobojpbdeepoaadoor", sum := "00ab0eb544778d9d16bfc2def4def3a9fbfd5f43af78bcc4f4a646b35bdaa8ab", func := "protocollines/laws.FnDotWritten", spec := "fnDotWritten", unfollowed := true, recurses := true, named := ["io.ErrShortWrite"], apart := false, laid := [("io.ErrShortWrite", laid_io_ErrShortWrite)] }
def FnDotWrittenSaid : Prop := fnDotWrittenRow.holds Tryd.pinned (OpenSpec.ofChange fnDotWrittenSpec)

/-- ITS FALSE NEIGHBOUR: 'it returns false'. Refute it at one input. -/
def fnDotWrittenWrong : ChangeSpec := { name := "fnDotWritten", fn := fun _ => fun
  | [d] => { results := [.lit (.bool false)], args := [d] }
  | _ => none }
def FnDotWrittenWrongFalsely : Prop := fnDotWrittenRow.holds Tryd.pinned (OpenSpec.ofChange fnDotWrittenWrong)

/-- 'laws.FnDotPieces': WHATEVER THE INPUT: true; the input reads as it did. -/
def fnDotPiecesSpec : ChangeSpec := { name := "fnDotPieces", fn := fun _ => fun
  | [d1, d2] => { results := [.lit (.bool true)], args := [d1, d2] }
  | _ => none }
def fnDotPiecesRow : OpenClaim := { program := "ythobojpbdeepoaadoor", sum := "00ab0eb544778d9d16bfc2def4def3a9fbfd5f43af78bcc4f4a646b35bdaa8ab", func := "protocollines/laws.FnDotPieces", spec := "fnDotPieces", unfollowed := true, recurses := true, named := ["io.EOF", "io.ErrUnexpectedEOF", "bufio.errNegativeRead", "io.ErrNoProgress", "bufio.ErrInvalidUnreadByte"], apart := false, laid := [("io.EOF", laid_io_EOF), ("io.ErrUnexpectedEOF", laid_io_ErrUnexpectedEOF), ("io.ErrNoProgress", laid_io_ErrNoProgress), ("bufio.ErrInvalidUnreadByte", laid_bufio_ErrInvalidUnreadByte), ("bufio.errNegativeRead", laid_bufio_errNegativeRead)] }
def FnDotPiecesSaid : Prop := fnDotPiecesRow.holds Tryd.pinned (OpenSpec.ofChange fnDotPiecesSpec)

/-- ITS FALSE NEIGHBOUR: 'it returns false'. Refute it at one input. -/
def fnDotPiecesWrong : ChangeSpec := { name := "fnDotPieces", fn := fun _ => fun
  | [d1, d2] => { results := [.lit (.bool false)], args := [d1, d2] }
  | _ => none }
def FnDotPiecesWrongFalsely : Prop := fnDotPiecesRow.holds Tryd.pinned (OpenSpec.ofChange fnDotPiecesWrong)

/-- 'laws.FnDots': WHATEVER THE INPUT: true; the input reads as it did. -/
def fnDotsSpec : ChangeSpec := { name := "fnDots", fn := fun _ => fun
  | [d] => { results := [.lit (.bool true)], args := [d] }
  | _ => none }
def fnDotsRow : OpenClaim := { program := "ythobojpbdeepoaadoor", sum := "00ab0eb544778d9d16bfc2def4def3a9fbfd5f43af78bcc4f4a646b35bdaa8ab", func := "protocollines/laws.FnDots", spec := "fnDots", unfollowed := true, recurses := true, named := ["io.EOF", "io.ErrUnexpectedEOF", "bufio.errNegativeRead", "io.ErrNoProgress", "bufio.ErrInvalidUnreadByte"], apart := false, laid := [("io.EOF", laid_io_EOF), ("io.ErrUnexpectedEOF", laid_io_ErrUnexpectedEOF), ("io.ErrNoProgress", laid_io_ErrNoProgress), ("bufio.ErrInvalidUnreadByte", laid_bufio_ErrInvalidUnreadByte), ("bufio.errNegativeRead", laid_bufio_errNegativeRead)] }
def FnDotsSaid : Prop := fnDotsRow.holds Tryd.pinned (OpenSpec.ofChange fnDotsSpec)

/-- ITS FALSE NEIGHBOUR: 'it returns false'. Refute it at one input. -/
def fnDotsWrong : ChangeSpec := { name := "fnDots", fn := fun _ => fun
  | [d] => { results := [.lit (.bool false)], args := [d] }
  | _ => none }
def FnDotsWrongFalsely : Prop := fnDotsRow.holds Tryd.pinned (OpenSpec.ofChange fnDotsWrong)

/-- 'laws.FnLine': WHATEVER THE INPUT: true; the input reads as it did. -/
def fnLineSpec : ChangeSpec := { name := "fnLine", fn := fun _ => fun
  | [d] => { results := [.lit (.bool true)], args := [d] }
  | _ => none }
def fnLineRow : OpenClaim := { program := "ythobojpbdeepoaadoor", sum := "00ab0eb544778d9d16bfc2def4def3a9fbfd5f43af78bcc4f4a646b35bdaa8ab", func := "protocollines/laws.FnLine", spec := "fnLine", inPlace := ["internal/bytealg.IndexByte"], unfollowed := true, recurses := true, named := ["protocollines/pub/textproto.errMessageTooLarge", "io.EOF", "io.ErrUnexpectedEOF", "bufio.errNegativeRead", "io.ErrNoProgress", "bufio.ErrInvalidUnreadByte", "bufio.ErrBufferFull"], apart := false, laid := [("io.EOF", laid_io_EOF), ("io.ErrUnexpectedEOF", laid_io_ErrUnexpectedEOF), ("io.ErrNoProgress", laid_io_ErrNoProgress), ("bufio.ErrInvalidUnreadByte", laid_bufio_ErrInvalidUnreadByte), ("bufio.ErrBufferFull", laid_bufio_ErrBufferFull), ("bufio.errNegativeRead", laid_bufio_errNegativeRead), ("protocollines/pub/textproto.errMessageTooLarge", laid_protocollines_pub_textproto_errMessageTooLarge)] }
def FnLineSaid : Prop := fnLineRow.holds Tryd.pinned (OpenSpec.ofChange fnLineSpec)

/-- ITS FALSE NEIGHBOUR: 'it returns false'. Refute it at one input. -/
def fnLineWrong : ChangeSpec := { name := "fnLine", fn := fun _ => fun
  | [d] => { results := [.lit (.bool false)], args := [d] }
  | _ => none }
def FnLineWrongFalsely : Prop := fnLineRow.holds Tryd.pinned (OpenSpec.ofChange fnLineWrong)

/-- 'laws.FnRestOfBlockIsDropped': WHATEVER THE INPUT: true; the input reads as it did. -/
def fnRestOfBlockIsDroppedSpec : ChangeSpec := { name := "fnRestOfBlockIsDropped", fn := fun _ => fun
  | [d1, d2] => { results := [.lit (.bool true)], args := [d1, d2] }
  | _ => none }
def fnRestOfBlockIsDroppedRow : OpenClaim := { program := "ythobojpbdeepoaadoor", sum := "00ab0eb544778d9d16bfc2def4def3a9fbfd5f43af78bcc4f4a646b35bdaa8ab", func := "protocollines/laws.FnRestOfBlockIsDropped", spec := "fnRestOfBlockIsDropped", inPlace := ["internal/bytealg.IndexByte"], unfollowed := true, recurses := true, named := ["io.EOF", "io.ErrUnexpectedEOF", "bufio.errNegativeRead", "io.ErrNoProgress", "bufio.ErrInvalidUnreadByte", "protocollines/pub/textproto.errMessageTooLarge", "bufio.ErrBufferFull"], apart := false, laid := [("io.EOF", laid_io_EOF), ("io.ErrUnexpectedEOF", laid_io_ErrUnexpectedEOF), ("io.ErrNoProgress", laid_io_ErrNoProgress), ("bufio.ErrInvalidUnreadByte", laid_bufio_ErrInvalidUnreadByte), ("bufio.ErrBufferFull", laid_bufio_ErrBufferFull), ("bufio.errNegativeRead", laid_bufio_errNegativeRead), ("protocollines/pub/textproto.errMessageTooLarge", laid_protocollines_pub_textproto_errMessageTooLarge)] }
def FnRestOfBlockIsDroppedSaid : Prop := fnRestOfBlockIsDroppedRow.holds Tryd.pinned (OpenSpec.ofChange fnRestOfBlockIsDroppedSpec)

/-- ITS FALSE NEIGHBOUR: 'it returns false'. Refute it at one input. -/
def fnRestOfBlockIsDroppedWrong : ChangeSpec := { name := "fnRestOfBlockIsDropped", fn := fun _ => fun
  | [d1, d2] => { results := [.lit (.bool false)], args := [d1, d2] }
  | _ => none }
def FnRestOfBlockIsDroppedWrongFalsely : Prop := fnRestOfBlockIsDroppedRow.holds Tryd.pinned (OpenSpec.ofChange fnRestOfBlockIsDroppedWrong)

/-- 'laws.FnDotLines': WHATEVER THE INPUT: true; the input reads as it did. -/
def fnDotLinesSpec : ChangeSpec := { name := "fnDotLines", fn := fun _ => fun
  | [d] => { results := [.lit (.bool true)], args := [d] }
  | _ => none }
def fnDotLinesRow : OpenClaim := { program := "ythobojpbdeepoaadoor", sum := "00ab0eb544778d9d16bfc2def4def3a9fbfd5f43af78bcc4f4a646b35bdaa8ab", func := "protocollines/laws.FnDotLines", spec := "fnDotLines", inPlace := ["internal/bytealg.IndexByte"], unfollowed := true, recurses := true, named := ["io.EOF", "io.ErrUnexpectedEOF", "protocollines/pub/textproto.errMessageTooLarge", "bufio.errNegativeRead", "io.ErrNoProgress", "bufio.ErrInvalidUnreadByte", "bufio.ErrBufferFull"], apart := false, laid := [("io.EOF", laid_io_EOF), ("io.ErrUnexpectedEOF", laid_io_ErrUnexpectedEOF), ("io.ErrNoProgress", laid_io_ErrNoProgress), ("bufio.ErrInvalidUnreadByte", laid_bufio_ErrInvalidUnreadByte), ("bufio.ErrBufferFull", laid_bufio_ErrBufferFull), ("bufio.errNegativeRead", laid_bufio_errNegativeRead), ("protocollines/pub/textproto.errMessageTooLarge", laid_protocollines_pub_textproto_errMessageTooLarge)] }
def FnDotLinesSaid : Prop := fnDotLinesRow.holds Tryd.pinned (OpenSpec.ofChange fnDotLinesSpec)

/-- ITS FALSE NEIGHBOUR: 'it returns false'. Refute it at one input. -/
def fnDotLinesWrong : ChangeSpec := { name := "fnDotLines", fn := fun _ => fun
  | [d] => { results := [.lit (.bool false)], args := [d] }
  | _ => none }
def FnDotLinesWrongFalsely : Prop := fnDotLinesRow.holds Tryd.pinned (OpenSpec.ofChange fnDotLinesWrong)

/-- 'laws.FnBlocksFollow': WHATEVER THE INPUT: true; the input reads as it did. -/
def fnBlocksFollowSpec : ChangeSpec := { name := "fnBlocksFollow", fn := fun _ => fun
  | [d1, d2] => { results := [.lit (.bool true)], args := [d1, d2] }
  | _ => none }
def fnBlocksFollowRow : OpenClaim := { program := "ythobojpbdeepoaadoor", sum := "00ab0eb544778d9d16bfc2def4def3a9fbfd5f43af78bcc4f4a646b35bdaa8ab", func := "protocollines/laws.FnBlocksFollow", spec := "fnBlocksFollow", unfollowed := true, recurses := true, named := ["io.ErrShortWrite", "io.EOF", "io.ErrUnexpectedEOF", "bufio.errNegativeRead", "io.ErrNoProgress", "bufio.ErrInvalidUnreadByte"], apart := false, laid := [("io.ErrShortWrite", laid_io_ErrShortWrite), ("io.EOF", laid_io_EOF), ("io.ErrUnexpectedEOF", laid_io_ErrUnexpectedEOF), ("io.ErrNoProgress", laid_io_ErrNoProgress), ("bufio.ErrInvalidUnreadByte", laid_bufio_ErrInvalidUnreadByte), ("bufio.errNegativeRead", laid_bufio_errNegativeRead)] }
def FnBlocksFollowSaid : Prop := fnBlocksFollowRow.holds Tryd.pinned (OpenSpec.ofChange fnBlocksFollowSpec)

/-- ITS FALSE NEIGHBOUR: 'it returns false'. Refute it at one input. -/
def fnBlocksFollowWrong : ChangeSpec := { name := "fnBlocksFollow", fn := fun _ => fun
  | [d1, d2] => { results := [.lit (.bool false)], args := [d1, d2] }
  | _ => none }
def FnBlocksFollowWrongFalsely : Prop := fnBlocksFollowRow.holds Tryd.pinned (OpenSpec.ofChange fnBlocksFollowWrong)

/-- 'laws.FnDotsComeBack': WHATEVER THE INPUT: true; the input reads as it did. -/
def fnDotsComeBackSpec : ChangeSpec := { name := "fnDotsComeBack", fn := fun _ => fun
  | [d1, d2] => { results := [.lit (.bool true)], args := [d1, d2] }
  | _ => none }
def fnDotsComeBackRow : OpenClaim := { program := "ythobojpbdeepoaadoor", sum := "00ab0eb544778d9d16bfc2def4def3a9fbfd5f43af78bcc4f4a646b35bdaa8ab", func := "protocollines/laws.FnDotsComeBack", spec := "fnDotsComeBack", unfollowed := true, recurses := true, named := ["io.ErrShortWrite", "io.EOF", "io.ErrUnexpectedEOF", "bufio.errNegativeRead", "io.ErrNoProgress", "bufio.ErrInvalidUnreadByte"], apart := false, laid := [("io.ErrShortWrite", laid_io_ErrShortWrite), ("io.EOF", laid_io_EOF), ("io.ErrUnexpectedEOF", laid_io_ErrUnexpectedEOF), ("io.ErrNoProgress", laid_io_ErrNoProgress), ("bufio.ErrInvalidUnreadByte", laid_bufio_ErrInvalidUnreadByte), ("bufio.errNegativeRead", laid_bufio_errNegativeRead)] }
def FnDotsComeBackSaid : Prop := fnDotsComeBackRow.holds Tryd.pinned (OpenSpec.ofChange fnDotsComeBackSpec)

/-- ITS FALSE NEIGHBOUR: 'it returns false'. Refute it at one input. -/
def fnDotsComeBackWrong : ChangeSpec := { name := "fnDotsComeBack", fn := fun _ => fun
  | [d1, d2] => { results := [.lit (.bool false)], args := [d1, d2] }
  | _ => none }
def FnDotsComeBackWrongFalsely : Prop := fnDotsComeBackRow.holds Tryd.pinned (OpenSpec.ofChange fnDotsComeBackWrong)

/-- 'laws.FnContinued': WHATEVER THE INPUT: true; the input reads as it did. -/
def fnContinuedSpec : ChangeSpec := { name := "fnContinued", fn := fun _ => fun
  | [d] => { results := [.lit (.bool true)], args := [d] }
  | _ => none }
def fnContinuedRow : OpenClaim := { program := "ythobojpbdeepoaadoor", sum := "00ab0eb544778d9d16bfc2def4def3a9fbfd5f43af78bcc4f4a646b35bdaa8ab", func := "protocollines/laws.FnContinued", spec := "fnContinued", inPlace := ["internal/bytealg.IndexByte"], unfollowed := true, recurses := true, named := ["protocollines/pub/textproto.errMessageTooLarge", "io.EOF", "io.ErrUnexpectedEOF", "bufio.errNegativeRead", "io.ErrNoProgress", "bufio.ErrInvalidUnreadByte", "bufio.ErrBufferFull", "bufio.ErrNegativeCount"], apart := false, laid := [("io.EOF", laid_io_EOF), ("io.ErrUnexpectedEOF", laid_io_ErrUnexpectedEOF), ("io.ErrNoProgress", laid_io_ErrNoProgress), ("bufio.ErrInvalidUnreadByte", laid_bufio_ErrInvalidUnreadByte), ("bufio.ErrBufferFull", laid_bufio_ErrBufferFull), ("bufio.ErrNegativeCount", laid_bufio_ErrNegativeCount), ("bufio.errNegativeRead", laid_bufio_errNegativeRead), ("protocollines/pub/textproto.errMessageTooLarge", laid_protocollines_pub_textproto_errMessageTooLarge)] }
def FnContinuedSaid : Prop := fnContinuedRow.holds Tryd.pinned (OpenSpec.ofChange fnContinuedSpec)

/-- ITS FALSE NEIGHBOUR: 'it returns false'. Refute it at one input. -/
def fnContinuedWrong : ChangeSpec := { name := "fnContinued", fn := fun _ => fun
  | [d] => { results := [.lit (.bool false)], args := [d] }
  | _ => none }
def FnContinuedWrongFalsely : Prop := fnContinuedRow.holds Tryd.pinned (OpenSpec.ofChange fnContinuedWrong)

/-- 'laws.FnFields': WHATEVER THE INPUT: true; the input reads as it did. -/
def fnFieldsSpec : ChangeSpec := { name := "fnFields", fn := fun _ => fun
  | [d] => { results := [.lit (.bool true)], args := [d] }
  | _ => none }
def fnFieldsRow : OpenClaim := { program := "ythobojpbdeepoaadoor", sum := "00ab0eb544778d9d16bfc2def4def3a9fbfd5f43af78bcc4f4a646b35bdaa8ab", func := "protocollines/laws.FnFields", spec := "fnFields", inPlace := ["internal/bytealg.IndexByte"], unfollowed := true, recurses := true, named := ["protocollines/pub/textproto.errMessageTooLarge", "bufio.ErrNegativeCount", "bufio.ErrBufferFull", "bufio.errNegativeRead", "io.ErrNoProgress", "io.EOF", "io.ErrUnexpectedEOF", "bufio.ErrInvalidUnreadByte", "unicode/utf8.first", "unicode/utf8.acceptRanges"], apart := false, laid := [("unicode/utf8.acceptRanges", laid_unicode_utf8_acceptRanges), ("io.EOF", laid_io_EOF), ("io.ErrUnexpectedEOF", laid_io_ErrUnexpectedEOF), ("io.ErrNoProgress", laid_io_ErrNoProgress), ("bufio.ErrInvalidUnreadByte", laid_bufio_ErrInvalidUnreadByte), ("bufio.ErrBufferFull", laid_bufio_ErrBufferFull), ("bufio.ErrNegativeCount", laid_bufio_ErrNegativeCount), ("bufio.errNegativeRead", laid_bufio_errNegativeRead), ("protocollines/pub/textproto.errMessageTooLarge", laid_protocollines_pub_textproto_errMessageTooLarge), ("unicode/utf8.first", laid_unicode_utf8_first)] }
def FnFieldsSaid : Prop := fnFieldsRow.holds Tryd.pinned (OpenSpec.ofChange fnFieldsSpec)

/-- ITS FALSE NEIGHBOUR: 'it returns false'. Refute it at one input. -/
def fnFieldsWrong : ChangeSpec := { name := "fnFields", fn := fun _ => fun
  | [d] => { results := [.lit (.bool false)], args := [d] }
  | _ => none }
def FnFieldsWrongFalsely : Prop := fnFieldsRow.holds Tryd.pinned (OpenSpec.ofChange fnFieldsWrong)

/-- 'laws.FnFieldsComeBack': WHATEVER THE INPUT: true; the input reads as it did. -/
def fnFieldsComeBackSpec : ChangeSpec := { name := "fnFieldsComeBack", fn := fun _ => fun
  | [d1, d2, d3, d4] => { results := [.lit (.bool true)], args := [d1, d2, d3, d4] }
  | _ => none }
def fnFieldsComeBackRow : OpenClaim := { program := "ythobojpbdeepoaadoor", sum := "00ab0eb544778d9d16bfc2def4def3a9fbfd5f43af78bcc4f4a646b35bdaa8ab", func := "protocollines/laws.FnFieldsComeBack", spec := "fnFieldsComeBack", inPlace := ["internal/bytealg.IndexByte"], unfollowed := true, recurses := true, named := ["protocollines/pub/textproto.errMessageTooLarge", "bufio.ErrNegativeCount", "bufio.ErrBufferFull", "bufio.errNegativeRead", "io.ErrNoProgress", "io.EOF", "io.ErrUnexpectedEOF", "bufio.ErrInvalidUnreadByte", "unicode/utf8.first", "unicode/utf8.acceptRanges"], apart := false, laid := [("unicode/utf8.acceptRanges", laid_unicode_utf8_acceptRanges), ("io.EOF", laid_io_EOF), ("io.ErrUnexpectedEOF", laid_io_ErrUnexpectedEOF), ("io.ErrNoProgress", laid_io_ErrNoProgress), ("bufio.ErrInvalidUnreadByte", laid_bufio_ErrInvalidUnreadByte), ("bufio.ErrBufferFull", laid_bufio_ErrBufferFull), ("bufio.ErrNegativeCount", laid_bufio_ErrNegativeCount), ("bufio.errNegativeRead", laid_bufio_errNegativeRead), ("protocollines/pub/textproto.errMessageTooLarge", laid_protocollines_pub_textproto_errMessageTooLarge), ("unicode/utf8.first", laid_unicode_utf8_first)] }
def FnFieldsComeBackSaid : Prop := fnFieldsComeBackRow.holds Tryd.pinned (OpenSpec.ofChange fnFieldsComeBackSpec)

/-- ITS FALSE NEIGHBOUR: 'it returns false'. Refute it at one input. -/
def fnFieldsComeBackWrong : ChangeSpec := { name := "fnFieldsComeBack", fn := fun _ => fun
  | [d1, d2, d3, d4] => { results := [.lit (.bool false)], args := [d1, d2, d3, d4] }
  | _ => none }
def FnFieldsComeBackWrongFalsely : Prop := fnFieldsComeBackRow.holds Tryd.pinned (OpenSpec.ofChange fnFieldsComeBackWrong)

/- THE SECOND FORM. 'bulk': how many values and letters a reading holds, each counted each time it is reached (what is shared counts as often as it is met; a slice's spare places count too). A statement '..UptoSaid' is the law's where the arguments, and the package variables that the reading takes, are together of bulk at most 1048576: NARROWER than '..Said'. Prove '..Said' where nothing that the law and all that it calls make is longer than what came in: it says more and counts as full. Else prove '..UptoSaid'. A law counts once. -/
mutual
def uptoBulk {H : Type} : DataW H → Nat
  | .lit (.string bytes) => bytes.length + 1
  | .lit _ => 1
  | .nil => 1
  | .ptr d => uptoBulk d + 1
  | .slice elems spare => uptoBulkAll elems + uptoBulkAll spare + 1
  | .agg parts => uptoBulkAll parts + 1
  | .iface _ d => uptoBulk d + 1
  | .map entries => uptoBulkEntries entries + 1
  | .held _ => 1
def uptoBulkAll {H : Type} : List (DataW H) → Nat
  | [] => 0
  | d :: r => uptoBulk d + uptoBulkAll r
def uptoBulkEntries {H : Type} : List (Lit × DataW H) → Nat
  | [] => 0
  | x :: r => uptoBulkEntry x + uptoBulkEntries r
def uptoBulkEntry {H : Type} : Lit × DataW H → Nat
  | (.string bytes, d) => bytes.length + uptoBulk d + 1
  | (_, d) => uptoBulk d + 1
 end
def uptoSmall : (H : Type) → List (DataW H) → Bool := fun _ ds => decide (uptoBulkAll ds ≤ 1048576)
def OpenSpec.upto (s : _root_.Go.ChangeSpec) : _root_.Go.OpenSpec := { _root_.Go.OpenSpec.ofChange s with cond := some uptoSmall }

/-- 'laws.FnCodeLine', WHERE WHAT IT READS IS OF BULK AT MOST 1048576: true; the input reads as it did. -/
def fnCodeLineUptoRow : OpenClaim := { program := "ythobojpbdeepoaadoor", sum := "00ab0eb544778d9d16bfc2def4def3a9fbfd5f43af78bcc4f4a646b35bdaa8ab", func := "protocollines/laws.FnCodeLine", spec := "fnCodeLine", inPlace := ["internal/bytealg.IndexByte"], unfollowed := true, recurses := true, named := ["protocollines/pub/textproto.errMessageTooLarge", "io.EOF", "io.ErrUnexpectedEOF", "bufio.errNegativeRead", "io.ErrNoProgress", "bufio.ErrInvalidUnreadByte", "bufio.ErrBufferFull", "strconv.ErrSyntax", "strconv.ErrRange", "internal/strconv.uint64pow10", "math/bits.deBruijn32tab", "math/bits.deBruijn64tab"], apart := false, laid := [("math/bits.deBruijn32tab", laid_math_bits_deBruijn32tab), ("math/bits.deBruijn64tab", laid_math_bits_deBruijn64tab), ("internal/strconv.uint64pow10", laid_internal_strconv_uint64pow10), ("strconv.ErrRange", laid_strconv_ErrRange), ("strconv.ErrSyntax", laid_strconv_ErrSyntax), ("io.EOF", laid_io_EOF), ("io.ErrUnexpectedEOF", laid_io_ErrUnexpectedEOF), ("io.ErrNoProgress", laid_io_ErrNoProgress), ("bufio.ErrInvalidUnreadByte", laid_bufio_ErrInvalidUnreadByte), ("bufio.ErrBufferFull", laid_bufio_ErrBufferFull), ("bufio.errNegativeRead", laid_bufio_errNegativeRead), ("protocollines/pub/textproto.errMessageTooLarge", laid_protocollines_pub_textproto_errMessageTooLarge)], narrowed := true }
def FnCodeLineUptoSaid : Prop := fnCodeLineUptoRow.holds Tryd.pinned (OpenSpec.upto fnCodeLineSpec)

/-- 'laws.FnAnswerComesBack', WHERE WHAT IT READS IS OF BULK AT MOST 1048576: true; the input reads as it did. -/
def fnAnswerComesBackUptoRow : OpenClaim := { program := "ythobojpbdeepoaadoor", sum := "00ab0eb544778d9d16bfc2def4def3a9fbfd5f43af78bcc4f4a646b35bdaa8ab", func := "protocollines/laws.FnAnswerComesBack", spec := "fnAnswerComesBack", inPlace := ["internal/bytealg.IndexByte", "internal/abi.NoEscape"], unfollowed := true, recurses := true, named := ["protocollines/pub/textproto.errMessageTooLarge", "io.EOF", "io.ErrUnexpectedEOF", "bufio.errNegativeRead", "io.ErrNoProgress", "bufio.ErrInvalidUnreadByte", "bufio.ErrBufferFull", "strconv.ErrSyntax", "strconv.ErrRange", "internal/strconv.uint64pow10", "math/bits.deBruijn32tab", "math/bits.deBruijn64tab"], apart := false, laid := [("math/bits.deBruijn32tab", laid_math_bits_deBruijn32tab), ("math/bits.deBruijn64tab", laid_math_bits_deBruijn64tab), ("internal/strconv.uint64pow10", laid_internal_strconv_uint64pow10), ("strconv.ErrRange", laid_strconv_ErrRange), ("strconv.ErrSyntax", laid_strconv_ErrSyntax), ("io.EOF", laid_io_EOF), ("io.ErrUnexpectedEOF", laid_io_ErrUnexpectedEOF), ("io.ErrNoProgress", laid_io_ErrNoProgress), ("bufio.ErrInvalidUnreadByte", laid_bufio_ErrInvalidUnreadByte), ("bufio.ErrBufferFull", laid_bufio_ErrBufferFull), ("bufio.errNegativeRead", laid_bufio_errNegativeRead), ("protocollines/pub/textproto.errMessageTooLarge", laid_protocollines_pub_textproto_errMessageTooLarge)], narrowed := true }
def FnAnswerComesBackUptoSaid : Prop := fnAnswerComesBackUptoRow.holds Tryd.pinned (OpenSpec.upto fnAnswerComesBackSpec)

/-- 'laws.FnResponse', WHERE WHAT IT READS IS OF BULK AT MOST 1048576: true; the input reads as it did. -/
def fnResponseUptoRow : OpenClaim := { program := "ythobojpbdeepoaadoor", sum := "00ab0eb544778d9d16bfc2def4def3a9fbfd5f43af78bcc4f4a646b35bdaa8ab", func := "protocollines/laws.FnResponse", spec := "fnResponse", inPlace := ["internal/bytealg.IndexByte", "internal/abi.NoEscape"], unfollowed := true, recurses := true, named := ["protocollines/pub/textproto.errMessageTooLarge", "io.EOF", "io.ErrUnexpectedEOF", "bufio.errNegativeRead", "io.ErrNoProgress", "bufio.ErrInvalidUnreadByte", "bufio.ErrBufferFull", "strconv.ErrSyntax", "strconv.ErrRange", "internal/strconv.uint64pow10", "math/bits.deBruijn32tab", "math/bits.deBruijn64tab"], apart := false, laid := [("math/bits.deBruijn32tab", laid_math_bits_deBruijn32tab), ("math/bits.deBruijn64tab", laid_math_bits_deBruijn64tab), ("internal/strconv.uint64pow10", laid_internal_strconv_uint64pow10), ("strconv.ErrRange", laid_strconv_ErrRange), ("strconv.ErrSyntax", laid_strconv_ErrSyntax), ("io.EOF", laid_io_EOF), ("io.ErrUnexpectedEOF", laid_io_ErrUnexpectedEOF), ("io.ErrNoProgress", laid_io_ErrNoProgress), ("bufio.ErrInvalidUnreadByte", laid_bufio_ErrInvalidUnreadByte), ("bufio.ErrBufferFull", laid_bufio_ErrBufferFull), ("bufio.errNegativeRead", laid_bufio_errNegativeRead), ("protocollines/pub/textproto.errMessageTooLarge", laid_protocollines_pub_textproto_errMessageTooLarge)], narrowed := true }
def FnResponseUptoSaid : Prop := fnResponseUptoRow.holds Tryd.pinned (OpenSpec.upto fnResponseSpec)

/-- 'laws.FnDotWritten', WHERE WHAT IT READS IS OF BULK AT MOST 1048576: true; the input reads as it did. -/
def fnDotWrittenUptoRow : OpenClaim := { program := "ythobojpbdeepoaadoor", sum := "00ab0eb544778d9d16bfc2def4def3a9fbfd5f43af78bcc4f4a646b35bdaa8ab", func := "protocollines/laws.FnDotWritten", spec := "fnDotWritten", unfollowed := true, recurses := true, named := ["io.ErrShortWrite"], apart := false, laid := [("io.ErrShortWrite", laid_io_ErrShortWrite)], narrowed := true }
def FnDotWrittenUptoSaid : Prop := fnDotWrittenUptoRow.holds Tryd.pinned (OpenSpec.upto fnDotWrittenSpec)

/-- 'laws.FnDotPieces', WHERE WHAT IT READS IS OF BULK AT MOST 1048576: true; the input reads as it did. -/
def fnDotPiecesUptoRow : OpenClaim := { program := "ythobojpbdeepoaadoor", sum := "00ab0eb544778d9d16bfc2def4def3a9fbfd5f43af78bcc4f4a646b35bdaa8ab", func := "protocollines/laws.FnDotPieces", spec := "fnDotPieces", unfollowed := true, recurses := true, named := ["io.EOF", "io.ErrUnexpectedEOF", "bufio.errNegativeRead", "io.ErrNoProgress", "bufio.ErrInvalidUnreadByte"], apart := false, laid := [("io.EOF", laid_io_EOF), ("io.ErrUnexpectedEOF", laid_io_ErrUnexpectedEOF), ("io.ErrNoProgress", laid_io_ErrNoProgress), ("bufio.ErrInvalidUnreadByte", laid_bufio_ErrInvalidUnreadByte), ("bufio.errNegativeRead", laid_bufio_errNegativeRead)], narrowed := true }
def FnDotPiecesUptoSaid : Prop := fnDotPiecesUptoRow.holds Tryd.pinned (OpenSpec.upto fnDotPiecesSpec)

/-- 'laws.FnDots', WHERE WHAT IT READS IS OF BULK AT MOST 1048576: true; the input reads as it did. -/
def fnDotsUptoRow : OpenClaim := { program := "ythobojpbdeepoaadoor", sum := "00ab0eb544778d9d16bfc2def4def3a9fbfd5f43af78bcc4f4a646b35bdaa8ab", func := "protocollines/laws.FnDots", spec := "fnDots", unfollowed := true, recurses := true, named := ["io.EOF", "io.ErrUnexpectedEOF", "bufio.errNegativeRead", "io.ErrNoProgress", "bufio.ErrInvalidUnreadByte"], apart := false, laid := [("io.EOF", laid_io_EOF), ("io.ErrUnexpectedEOF", laid_io_ErrUnexpectedEOF), ("io.ErrNoProgress", laid_io_ErrNoProgress), ("bufio.ErrInvalidUnreadByte", laid_bufio_ErrInvalidUnreadByte), ("bufio.errNegativeRead", laid_bufio_errNegativeRead)], narrowed := true }
def FnDotsUptoSaid : Prop := fnDotsUptoRow.holds Tryd.pinned (OpenSpec.upto fnDotsSpec)

/-- 'laws.FnLine', WHERE WHAT IT READS IS OF BULK AT MOST 1048576: true; the input reads as it did. -/
def fnLineUptoRow : OpenClaim := { program := "ythobojpbdeepoaadoor", sum := "00ab0eb544778d9d16bfc2def4def3a9fbfd5f43af78bcc4f4a646b35bdaa8ab", func := "protocollines/laws.FnLine", spec := "fnLine", inPlace := ["internal/bytealg.IndexByte"], unfollowed := true, recurses := true, named := ["protocollines/pub/textproto.errMessageTooLarge", "io.EOF", "io.ErrUnexpectedEOF", "bufio.errNegativeRead", "io.ErrNoProgress", "bufio.ErrInvalidUnreadByte", "bufio.ErrBufferFull"], apart := false, laid := [("io.EOF", laid_io_EOF), ("io.ErrUnexpectedEOF", laid_io_ErrUnexpectedEOF), ("io.ErrNoProgress", laid_io_ErrNoProgress), ("bufio.ErrInvalidUnreadByte", laid_bufio_ErrInvalidUnreadByte), ("bufio.ErrBufferFull", laid_bufio_ErrBufferFull), ("bufio.errNegativeRead", laid_bufio_errNegativeRead), ("protocollines/pub/textproto.errMessageTooLarge", laid_protocollines_pub_textproto_errMessageTooLarge)], narrowed := true }
def FnLineUptoSaid : Prop := fnLineUptoRow.holds Tryd.pinned (OpenSpec.upto fnLineSpec)

/-- 'laws.FnRestOfBlockIsDropped', WHERE WHAT IT READS IS OF BULK AT MOST 1048576: true; the input reads as it did. -/
def fnRestOfBlockIsDroppedUptoRow : OpenClaim := { program := "ythobojpbdeepoaadoor", sum := "00ab0eb544778d9d16bfc2def4def3a9fbfd5f43af78bcc4f4a646b35bdaa8ab", func := "protocollines/laws.FnRestOfBlockIsDropped", spec := "fnRestOfBlockIsDropped", inPlace := ["internal/bytealg.IndexByte"], unfollowed := true, recurses := true, named := ["io.EOF", "io.ErrUnexpectedEOF", "bufio.errNegativeRead", "io.ErrNoProgress", "bufio.ErrInvalidUnreadByte", "protocollines/pub/textproto.errMessageTooLarge", "bufio.ErrBufferFull"], apart := false, laid := [("io.EOF", laid_io_EOF), ("io.ErrUnexpectedEOF", laid_io_ErrUnexpectedEOF), ("io.ErrNoProgress", laid_io_ErrNoProgress), ("bufio.ErrInvalidUnreadByte", laid_bufio_ErrInvalidUnreadByte), ("bufio.ErrBufferFull", laid_bufio_ErrBufferFull), ("bufio.errNegativeRead", laid_bufio_errNegativeRead), ("protocollines/pub/textproto.errMessageTooLarge", laid_protocollines_pub_textproto_errMessageTooLarge)], narrowed := true }
def FnRestOfBlockIsDroppedUptoSaid : Prop := fnRestOfBlockIsDroppedUptoRow.holds Tryd.pinned (OpenSpec.upto fnRestOfBlockIsDroppedSpec)

/-- 'laws.FnDotLines', WHERE WHAT IT READS IS OF BULK AT MOST 1048576: true; the input reads as it did. -/
def fnDotLinesUptoRow : OpenClaim := { program := "ythobojpbdeepoaadoor", sum := "00ab0eb544778d9d16bfc2def4def3a9fbfd5f43af78bcc4f4a646b35bdaa8ab", func := "protocollines/laws.FnDotLines", spec := "fnDotLines", inPlace := ["internal/bytealg.IndexByte"], unfollowed := true, recurses := true, named := ["io.EOF", "io.ErrUnexpectedEOF", "protocollines/pub/textproto.errMessageTooLarge", "bufio.errNegativeRead", "io.ErrNoProgress", "bufio.ErrInvalidUnreadByte", "bufio.ErrBufferFull"], apart := false, laid := [("io.EOF", laid_io_EOF), ("io.ErrUnexpectedEOF", laid_io_ErrUnexpectedEOF), ("io.ErrNoProgress", laid_io_ErrNoProgress), ("bufio.ErrInvalidUnreadByte", laid_bufio_ErrInvalidUnreadByte), ("bufio.ErrBufferFull", laid_bufio_ErrBufferFull), ("bufio.errNegativeRead", laid_bufio_errNegativeRead), ("protocollines/pub/textproto.errMessageTooLarge", laid_protocollines_pub_textproto_errMessageTooLarge)], narrowed := true }
def FnDotLinesUptoSaid : Prop := fnDotLinesUptoRow.holds Tryd.pinned (OpenSpec.upto fnDotLinesSpec)

/-- 'laws.FnBlocksFollow', WHERE WHAT IT READS IS OF BULK AT MOST 1048576: true; the input reads as it did. -/
def fnBlocksFollowUptoRow : OpenClaim := { program := "ythobojpbdeepoaadoor", sum := "00ab0eb544778d9d16bfc2def4def3a9fbfd5f43af78bcc4f4a646b35bdaa8ab", func := "protocollines/laws.FnBlocksFollow", spec := "fnBlocksFollow", unfollowed := true, recurses := true, named := ["io.ErrShortWrite", "io.EOF", "io.ErrUnexpectedEOF", "bufio.errNegativeRead", "io.ErrNoProgress", "bufio.ErrInvalidUnreadByte"], apart := false, laid := [("io.ErrShortWrite", laid_io_ErrShortWrite), ("io.EOF", laid_io_EOF), ("io.ErrUnexpectedEOF", laid_io_ErrUnexpectedEOF), ("io.ErrNoProgress", laid_io_ErrNoProgress), ("bufio.ErrInvalidUnreadByte", laid_bufio_ErrInvalidUnreadByte), ("bufio.errNegativeRead", laid_bufio_errNegativeRead)], narrowed := true }
def FnBlocksFollowUptoSaid : Prop := fnBlocksFollowUptoRow.holds Tryd.pinned (OpenSpec.upto fnBlocksFollowSpec)

/-- 'laws.FnDotsComeBack', WHERE WHAT IT READS IS OF BULK AT MOST 1048576: true; the input reads as it did. -/
def fnDotsComeBackUptoRow : OpenClaim := { program := "ythobojpbdeepoaadoor", sum := "00ab0eb544778d9d16bfc2def4def3a9fbfd5f43af78bcc4f4a646b35bdaa8ab", func := "protocollines/laws.FnDotsComeBack", spec := "fnDotsComeBack", unfollowed := true, recurses := true, named := ["io.ErrShortWrite", "io.EOF", "io.ErrUnexpectedEOF", "bufio.errNegativeRead", "io.ErrNoProgress", "bufio.ErrInvalidUnreadByte"], apart := false, laid := [("io.ErrShortWrite", laid_io_ErrShortWrite), ("io.EOF", laid_io_EOF), ("io.ErrUnexpectedEOF", laid_io_ErrUnexpectedEOF), ("io.ErrNoProgress", laid_io_ErrNoProgress), ("bufio.ErrInvalidUnreadByte", laid_bufio_ErrInvalidUnreadByte), ("bufio.errNegativeRead", laid_bufio_errNegativeRead)], narrowed := true }
def FnDotsComeBackUptoSaid : Prop := fnDotsComeBackUptoRow.holds Tryd.pinned (OpenSpec.upto fnDotsComeBackSpec)

/-- 'laws.FnContinued', WHERE WHAT IT READS IS OF BULK AT MOST 1048576: true; the input reads as it did. -/
def fnContinuedUptoRow : OpenClaim := { program := "ythobojpbdeepoaadoor", sum := "00ab0eb544778d9d16bfc2def4def3a9fbfd5f43af78bcc4f4a646b35bdaa8ab", func := "protocollines/laws.FnContinued", spec := "fnContinued", inPlace := ["internal/bytealg.IndexByte"], unfollowed := true, recurses := true, named := ["protocollines/pub/textproto.errMessageTooLarge", "io.EOF", "io.ErrUnexpectedEOF", "bufio.errNegativeRead", "io.ErrNoProgress", "bufio.ErrInvalidUnreadByte", "bufio.ErrBufferFull", "bufio.ErrNegativeCount"], apart := false, laid := [("io.EOF", laid_io_EOF), ("io.ErrUnexpectedEOF", laid_io_ErrUnexpectedEOF), ("io.ErrNoProgress", laid_io_ErrNoProgress), ("bufio.ErrInvalidUnreadByte", laid_bufio_ErrInvalidUnreadByte), ("bufio.ErrBufferFull", laid_bufio_ErrBufferFull), ("bufio.ErrNegativeCount", laid_bufio_ErrNegativeCount), ("bufio.errNegativeRead", laid_bufio_errNegativeRead), ("protocollines/pub/textproto.errMessageTooLarge", laid_protocollines_pub_textproto_errMessageTooLarge)], narrowed := true }
def FnContinuedUptoSaid : Prop := fnContinuedUptoRow.holds Tryd.pinned (OpenSpec.upto fnContinuedSpec)

/-- 'laws.FnFields', WHERE WHAT IT READS IS OF BULK AT MOST 1048576: true; the input reads as it did. -/
def fnFieldsUptoRow : OpenClaim := { program := "ythobojpbdeepoaadoor", sum := "00ab0eb544778d9d16bfc2def4def3a9fbfd5f43af78bcc4f4a646b35bdaa8ab", func := "protocollines/laws.FnFields", spec := "fnFields", inPlace := ["internal/bytealg.IndexByte"], unfollowed := true, recurses := true, named := ["protocollines/pub/textproto.errMessageTooLarge", "bufio.ErrNegativeCount", "bufio.ErrBufferFull", "bufio.errNegativeRead", "io.ErrNoProgress", "io.EOF", "io.ErrUnexpectedEOF", "bufio.ErrInvalidUnreadByte", "unicode/utf8.first", "unicode/utf8.acceptRanges"], apart := false, laid := [("unicode/utf8.acceptRanges", laid_unicode_utf8_acceptRanges), ("io.EOF", laid_io_EOF), ("io.ErrUnexpectedEOF", laid_io_ErrUnexpectedEOF), ("io.ErrNoProgress", laid_io_ErrNoProgress), ("bufio.ErrInvalidUnreadByte", laid_bufio_ErrInvalidUnreadByte), ("bufio.ErrBufferFull", laid_bufio_ErrBufferFull), ("bufio.ErrNegativeCount", laid_bufio_ErrNegativeCount), ("bufio.errNegativeRead", laid_bufio_errNegativeRead), ("protocollines/pub/textproto.errMessageTooLarge", laid_protocollines_pub_textproto_errMessageTooLarge), ("unicode/utf8.first", laid_unicode_utf8_first)], narrowed := true }
def FnFieldsUptoSaid : Prop := fnFieldsUptoRow.holds Tryd.pinned (OpenSpec.upto fnFieldsSpec)

/-- 'laws.FnFieldsComeBack', WHERE WHAT IT READS IS OF BULK AT MOST 1048576: true; the input reads as it did. -/
def fnFieldsComeBackUptoRow : OpenClaim := { program := "ythobojpbdeepoaadoor", sum := "00ab0eb544778d9d16bfc2def4def3a9fbfd5f43af78bcc4f4a646b35bdaa8ab", func := "protocollines/laws.FnFieldsComeBack", spec := "fnFieldsComeBack", inPlace := ["internal/bytealg.IndexByte"], unfollowed := true, recurses := true, named := ["protocollines/pub/textproto.errMessageTooLarge", "bufio.ErrNegativeCount", "bufio.ErrBufferFull", "bufio.errNegativeRead", "io.ErrNoProgress", "io.EOF", "io.ErrUnexpectedEOF", "bufio.ErrInvalidUnreadByte", "unicode/utf8.first", "unicode/utf8.acceptRanges"], apart := false, laid := [("unicode/utf8.acceptRanges", laid_unicode_utf8_acceptRanges), ("io.EOF", laid_io_EOF), ("io.ErrUnexpectedEOF", laid_io_ErrUnexpectedEOF), ("io.ErrNoProgress", laid_io_ErrNoProgress), ("bufio.ErrInvalidUnreadByte", laid_bufio_ErrInvalidUnreadByte), ("bufio.ErrBufferFull", laid_bufio_ErrBufferFull), ("bufio.ErrNegativeCount", laid_bufio_ErrNegativeCount), ("bufio.errNegativeRead", laid_bufio_errNegativeRead), ("protocollines/pub/textproto.errMessageTooLarge", laid_protocollines_pub_textproto_errMessageTooLarge), ("unicode/utf8.first", laid_unicode_utf8_first)], narrowed := true }
def FnFieldsComeBackUptoSaid : Prop := fnFieldsComeBackUptoRow.holds Tryd.pinned (OpenSpec.upto fnFieldsComeBackSpec)

end Rows
end Go.Proofs.YthobojpbdeepoaaDoor
