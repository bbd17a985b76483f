/-
  NARROWER THAN 'FOR EVERY INPUT', by the rows' own cells (each row's printed sentence says how): FnCountFields: laid · FnEmptyRow: laid · FnLazyOpen: laid · FnLinesKept: laid · FnLoose: laid · FnMixed: laid · FnNested: laid · FnQuotes: laid · FnReadWritten: laid · FnRowsJoined: laid · FnTrimmed: laid · FnCut: laid · FnWrongOptions: laid.
  DERIVED. THE GIVEN ROWS OF THIS SEAT. 13 by the template 'for every input the law returns true; each argument reads behind the call as it read before'; 0 by the template 'total and deterministic' (their statements: YtcdhbfhijkdfoaaDoorTotals.lean).
  GIVEN WITH THE SEED: the statements are not yours to turn. If you find one false, say at which input.
  Laid BY PROGRAM, IN A SANDBOX (cutbox-rows.mjs): the forced cells as the released guide's own fill.sh prints them over the translation 137b07ca0cd6c225… (all of the seat's roots in one cut). By AI agents, Wed Nov 11 2026. No macro, syntax, notation, axiom, sorry.
-/
import Derived.Test.YtcdhbfhijkdfoaaDoorChecked
import GoSem.PinnedTables
import GoSem.Claim
import GoSem.ClaimJoined
import GoSem.ClaimMapViews
import Derived.JoinedTies
import Derived.KernelRfl
namespace Go.Proofs.YtcdhbfhijkdfoaaDoor
/- THE CELL 'sum', in the pinned program and in every row, IS THE sha256 OF THE DUMP (.gsa) THAT YtcdhbfhijkdfoaaDoorProg.lean LOADS. Nothing in Lean hashes anything: it is a label: what it is worth is what the hold of that sum in a sandbox is worth. -/
noncomputable def Tryd.pinned : Pinned := { name := "ytcdhbfhijkdfoaadoor", sum := "137b07ca0cd6c2257f2210a4d710223da7af0d46ac266943d4243ec820e1cac2", checked := Tryd.checked }
namespace Rows
def none {H : Type} : Left H := { results := [], args := [] }

/- WHAT THE LISTED PACKAGE-LEVEL VARIABLES READ AS WHEN THE CALL BEGINS. Each datum BY PROGRAM (the guide's laid-datum.mjs) off the statement by which the dump's own 'gosem.cut.vars' lays the variable. In a bare row this is a premise. The card (YtcdhbfhijkdfoaaDoorCards.lean) ties it to the program's text. -/
def laid_unicode_utf8_acceptRanges {H : Type} : DataW H := .agg [.agg [.lit (.int .u8 128), .lit (.int .u8 191)], .agg [.lit (.int .u8 160), .lit (.int .u8 191)], .agg [.lit (.int .u8 128), .lit (.int .u8 159)], .agg [.lit (.int .u8 144), .lit (.int .u8 191)], .agg [.lit (.int .u8 128), .lit (.int .u8 143)], .agg [.lit (.int .u8 0), .lit (.int .u8 0)], .agg [.lit (.int .u8 0), .lit (.int .u8 0)], .agg [.lit (.int .u8 0), .lit (.int .u8 0)], .agg [.lit (.int .u8 0), .lit (.int .u8 0)], .agg [.lit (.int .u8 0), .lit (.int .u8 0)], .agg [.lit (.int .u8 0), .lit (.int .u8 0)], .agg [.lit (.int .u8 0), .lit (.int .u8 0)], .agg [.lit (.int .u8 0), .lit (.int .u8 0)], .agg [.lit (.int .u8 0), .lit (.int .u8 0)], .agg [.lit (.int .u8 0), .lit (.int .u8 0)], .agg [.lit (.int .u8 0), .lit (.int .u8 0)]]
def laid_io_EOF {H : Type} : DataW H := .iface "*errors.errorString" (.ptr (.agg [.lit (.string [69, 79, 70])]))
def laid_io_ErrNoProgress {H : Type} : DataW H := .iface "*errors.errorString" (.ptr (.agg [.lit (.string [109, 117, 108, 116, 105, 112, 108, 101, 32, 82, 101, 97, 100, 32, 99, 97, 108, 108, 115, 32, 114, 101, 116, 117, 114, 110, 32, 110, 111, 32, 100, 97, 116, 97, 32, 111, 114, 32, 101, 114, 114, 111, 114])]))
def laid_unicode_White_Space {H : Type} : DataW H := .ptr (.agg [.slice [.agg [.lit (.int .u16 9), .lit (.int .u16 13), .lit (.int .u16 1)], .agg [.lit (.int .u16 32), .lit (.int .u16 133), .lit (.int .u16 101)], .agg [.lit (.int .u16 160), .lit (.int .u16 5760), .lit (.int .u16 5600)], .agg [.lit (.int .u16 8192), .lit (.int .u16 8202), .lit (.int .u16 1)], .agg [.lit (.int .u16 8232), .lit (.int .u16 8233), .lit (.int .u16 1)], .agg [.lit (.int .u16 8239), .lit (.int .u16 8287), .lit (.int .u16 48)], .agg [.lit (.int .u16 12288), .lit (.int .u16 12288), .lit (.int .u16 1)]] [], .nil, .lit (.int .i64 2)])
def laid_bufio_ErrBufferFull {H : Type} : DataW H := .iface "*errors.errorString" (.ptr (.agg [.lit (.string [98, 117, 102, 105, 111, 58, 32, 98, 117, 102, 102, 101, 114, 32, 102, 117, 108, 108])]))
def laid_bufio_errNegativeRead {H : Type} : DataW H := .iface "*errors.errorString" (.ptr (.agg [.lit (.string [98, 117, 102, 105, 111, 58, 32, 114, 101, 97, 100, 101, 114, 32, 114, 101, 116, 117, 114, 110, 101, 100, 32, 110, 101, 103, 97, 116, 105, 118, 101, 32, 99, 111, 117, 110, 116, 32, 102, 114, 111, 109, 32, 82, 101, 97, 100])]))
def laid_encoding_csv_ErrBareQuote {H : Type} : DataW H := .iface "*errors.errorString" (.ptr (.agg [.lit (.string [98, 97, 114, 101, 32, 34, 32, 105, 110, 32, 110, 111, 110, 45, 113, 117, 111, 116, 101, 100, 45, 102, 105, 101, 108, 100])]))
def laid_encoding_csv_ErrQuote {H : Type} : DataW H := .iface "*errors.errorString" (.ptr (.agg [.lit (.string [101, 120, 116, 114, 97, 110, 101, 111, 117, 115, 32, 111, 114, 32, 109, 105, 115, 115, 105, 110, 103, 32, 34, 32, 105, 110, 32, 113, 117, 111, 116, 101, 100, 45, 102, 105, 101, 108, 100])]))
def laid_encoding_csv_ErrFieldCount {H : Type} : DataW H := .iface "*errors.errorString" (.ptr (.agg [.lit (.string [119, 114, 111, 110, 103, 32, 110, 117, 109, 98, 101, 114, 32, 111, 102, 32, 102, 105, 101, 108, 100, 115])]))
def laid_encoding_csv_errInvalidDelim {H : Type} : DataW H := .iface "*errors.errorString" (.ptr (.agg [.lit (.string [99, 115, 118, 58, 32, 105, 110, 118, 97, 108, 105, 100, 32, 102, 105, 101, 108, 100, 32, 111, 114, 32, 99, 111, 109, 109, 101, 110, 116, 32, 100, 101, 108, 105, 109, 105, 116, 101, 114])]))
/-- One of Go's own tables, pinned by name: the form's constant. -/
def laid_unicode_utf8_first : DataW Unit := Go.Pinned.utf8First

/-- 'laws.FnCountFields': WHATEVER THE INPUT: true; the input reads as it did. -/
def fnCountFieldsSpec : ChangeSpec := { name := "fnCountFields", fn := fun _ => fun
  | [d1, d2] => { results := [.lit (.bool true)], args := [d1, d2] }
  | _ => none }
def fnCountFieldsRow : OpenClaim := { program := "ytcdhbfhijkdfoaadoor", sum := "137b07ca0cd6c2257f2210a4d710223da7af0d46ac266943d4243ec820e1cac2", func := "loop.example/lib-g01433/laws.FnCountFields", spec := "fnCountFields", inPlace := ["internal/bytealg.IndexByte", "internal/bytealg.Index", "internal/reflectlite.TypeOf"], unfollowed := true, recurses := true, named := ["io.EOF", "encoding/csv.errInvalidDelim", "encoding/csv.ErrBareQuote", "encoding/csv.ErrQuote", "encoding/csv.ErrFieldCount", "bufio.ErrBufferFull", "bufio.errNegativeRead", "io.ErrNoProgress", "unicode/utf8.first", "unicode/utf8.acceptRanges", "unicode.White_Space", "internal/bytealg.MaxLen"], apart := false, laid := [("unicode/utf8.acceptRanges", laid_unicode_utf8_acceptRanges), ("io.EOF", laid_io_EOF), ("io.ErrNoProgress", laid_io_ErrNoProgress), ("unicode.White_Space", laid_unicode_White_Space), ("bufio.ErrBufferFull", laid_bufio_ErrBufferFull), ("bufio.errNegativeRead", laid_bufio_errNegativeRead), ("encoding/csv.ErrBareQuote", laid_encoding_csv_ErrBareQuote), ("encoding/csv.ErrQuote", laid_encoding_csv_ErrQuote), ("encoding/csv.ErrFieldCount", laid_encoding_csv_ErrFieldCount), ("encoding/csv.errInvalidDelim", laid_encoding_csv_errInvalidDelim), ("unicode/utf8.first", laid_unicode_utf8_first)] }
def FnCountFieldsSaid : Prop := fnCountFieldsRow.holds Tryd.pinned (OpenSpec.ofChange fnCountFieldsSpec)

/-- ITS FALSE NEIGHBOUR: 'it returns false'. Refute it at one input. -/
def fnCountFieldsWrong : ChangeSpec := { name := "fnCountFields", fn := fun _ => fun
  | [d1, d2] => { results := [.lit (.bool false)], args := [d1, d2] }
  | _ => none }
def FnCountFieldsWrongFalsely : Prop := fnCountFieldsRow.holds Tryd.pinned (OpenSpec.ofChange fnCountFieldsWrong)

/-- 'laws.FnEmptyRow': WHATEVER THE INPUT: true; the input reads as it did. -/
def fnEmptyRowSpec : ChangeSpec := { name := "fnEmptyRow", fn := fun _ => fun
  | [d1, d2] => { results := [.lit (.bool true)], args := [d1, d2] }
  | _ => none }
def fnEmptyRowRow : OpenClaim := { program := "ytcdhbfhijkdfoaadoor", sum := "137b07ca0cd6c2257f2210a4d710223da7af0d46ac266943d4243ec820e1cac2", func := "loop.example/lib-g01433/laws.FnEmptyRow", spec := "fnEmptyRow", inPlace := ["internal/bytealg.IndexByte", "internal/bytealg.Index", "internal/reflectlite.TypeOf"], unfollowed := true, recurses := true, named := ["io.EOF", "encoding/csv.errInvalidDelim", "encoding/csv.ErrBareQuote", "encoding/csv.ErrQuote", "encoding/csv.ErrFieldCount", "bufio.ErrBufferFull", "bufio.errNegativeRead", "io.ErrNoProgress", "unicode/utf8.first", "unicode/utf8.acceptRanges", "unicode.White_Space", "internal/bytealg.MaxLen"], apart := false, laid := [("unicode/utf8.acceptRanges", laid_unicode_utf8_acceptRanges), ("io.EOF", laid_io_EOF), ("io.ErrNoProgress", laid_io_ErrNoProgress), ("unicode.White_Space", laid_unicode_White_Space), ("bufio.ErrBufferFull", laid_bufio_ErrBufferFull), ("bufio.errNegativeRead", laid_bufio_errNegativeRead), ("encoding/csv.ErrBareQuote", laid_encoding_csv_ErrBareQuote), ("encoding/csv.ErrQuote", laid_encoding_csv_ErrQuote), ("encoding/csv.ErrFieldCount", laid_encoding_csv_ErrFieldCount), ("encoding/csv.errInvalidDelim", laid_encoding_csv_errInvalidDelim), ("unicode/utf8.first", laid_unicode_utf8_first)] }
def FnEmptyRowSaid : Prop := fnEmptyRowRow.holds Tryd.pinned (OpenSpec.ofChange fnEmptyRowSpec)

/-- ITS FALSE NEIGHBOUR: 'it returns false'. Refute it at one input. -/
def fnEmptyRowWrong : ChangeSpec := { name := "fnEmptyRow", fn := fun _ => fun
  | [d1, d2] => { results := [.lit (.bool false)], args := [d1, d2] }
  | _ => none }
def FnEmptyRowWrongFalsely : Prop := fnEmptyRowRow.holds Tryd.pinned (OpenSpec.ofChange fnEmptyRowWrong)

/-- 'laws.FnLazyOpen': WHATEVER THE INPUT: true; the input reads as it did. -/
def fnLazyOpenSpec : ChangeSpec := { name := "fnLazyOpen", fn := fun _ => fun
  | [d1, d2, d3] => { results := [.lit (.bool true)], args := [d1, d2, d3] }
  | _ => none }
def fnLazyOpenRow : OpenClaim := { program := "ytcdhbfhijkdfoaadoor", sum := "137b07ca0cd6c2257f2210a4d710223da7af0d46ac266943d4243ec820e1cac2", func := "loop.example/lib-g01433/laws.FnLazyOpen", spec := "fnLazyOpen", inPlace := ["internal/bytealg.IndexByte", "internal/bytealg.Index", "internal/reflectlite.TypeOf"], unfollowed := true, recurses := true, named := ["io.EOF", "encoding/csv.errInvalidDelim", "encoding/csv.ErrBareQuote", "encoding/csv.ErrQuote", "encoding/csv.ErrFieldCount", "bufio.ErrBufferFull", "bufio.errNegativeRead", "io.ErrNoProgress", "unicode/utf8.first", "unicode/utf8.acceptRanges", "unicode.White_Space", "internal/bytealg.MaxLen"], apart := false, laid := [("unicode/utf8.acceptRanges", laid_unicode_utf8_acceptRanges), ("io.EOF", laid_io_EOF), ("io.ErrNoProgress", laid_io_ErrNoProgress), ("unicode.White_Space", laid_unicode_White_Space), ("bufio.ErrBufferFull", laid_bufio_ErrBufferFull), ("bufio.errNegativeRead", laid_bufio_errNegativeRead), ("encoding/csv.ErrBareQuote", laid_encoding_csv_ErrBareQuote), ("encoding/csv.ErrQuote", laid_encoding_csv_ErrQuote), ("encoding/csv.ErrFieldCount", laid_encoding_csv_ErrFieldCount), ("encoding/csv.errInvalidDelim", laid_encoding_csv_errInvalidDelim), ("unicode/utf8.first", laid_unicode_utf8_first)] }
def FnLazyOpenSaid : Prop := fnLazyOpenRow.holds Tryd.pinned (OpenSpec.ofChange fnLazyOpenSpec)

/-- ITS FALSE NEIGHBOUR: 'it returns false'. Refute it at one input. -/
def fnLazyOpenWrong : ChangeSpec := { name := "fnLazyOpen", fn := fun _ => fun
  | [d1, d2, d3] => { results := [.lit (.bool false)], args := [d1, d2, d3] }
  | _ => none }
def FnLazyOpenWrongFalsely : Prop := fnLazyOpenRow.holds Tryd.pinned (OpenSpec.ofChange fnLazyOpenWrong)

/-- 'laws.FnLinesKept': WHATEVER THE INPUT: true; the input reads as it did. -/
def fnLinesKeptSpec : ChangeSpec := { name := "fnLinesKept", fn := fun _ => fun
  | [d1, d2] => { results := [.lit (.bool true)], args := [d1, d2] }
  | _ => none }
def fnLinesKeptRow : OpenClaim := { program := "ytcdhbfhijkdfoaadoor", sum := "137b07ca0cd6c2257f2210a4d710223da7af0d46ac266943d4243ec820e1cac2", func := "loop.example/lib-g01433/laws.FnLinesKept", spec := "fnLinesKept", inPlace := ["internal/bytealg.IndexByte", "internal/bytealg.Index", "internal/reflectlite.TypeOf"], unfollowed := true, recurses := true, named := ["io.EOF", "encoding/csv.errInvalidDelim", "encoding/csv.ErrBareQuote", "encoding/csv.ErrQuote", "encoding/csv.ErrFieldCount", "bufio.ErrBufferFull", "bufio.errNegativeRead", "io.ErrNoProgress", "unicode/utf8.first", "unicode/utf8.acceptRanges", "unicode.White_Space", "internal/bytealg.MaxLen"], apart := false, laid := [("unicode/utf8.acceptRanges", laid_unicode_utf8_acceptRanges), ("io.EOF", laid_io_EOF), ("io.ErrNoProgress", laid_io_ErrNoProgress), ("unicode.White_Space", laid_unicode_White_Space), ("bufio.ErrBufferFull", laid_bufio_ErrBufferFull), ("bufio.errNegativeRead", laid_bufio_errNegativeRead), ("encoding/csv.ErrBareQuote", laid_encoding_csv_ErrBareQuote), ("encoding/csv.ErrQuote", laid_encoding_csv_ErrQuote), ("encoding/csv.ErrFieldCount", laid_encoding_csv_ErrFieldCount), ("encoding/csv.errInvalidDelim", laid_encoding_csv_errInvalidDelim), ("unicode/utf8.first", laid_unicode_utf8_first)] }
def FnLinesKeptSaid : Prop := fnLinesKeptRow.holds Tryd.pinned (OpenSpec.ofChange fnLinesKeptSpec)

/-- ITS FALSE NEIGHBOUR: 'it returns false'. Refute it at one input. -/
def fnLinesKeptWrong : ChangeSpec := { name := "fnLinesKept", fn := fun _ => fun
  | [d1, d2] => { results := [.lit (.bool false)], args := [d1, d2] }
  | _ => none }
def FnLinesKeptWrongFalsely : Prop := fnLinesKeptRow.holds Tryd.pinned (OpenSpec.ofChange fnLinesKeptWrong)

/-- 'laws.FnLoose': WHATEVER THE INPUT: true; the input reads as it did. -/
def fnLooseSpec : ChangeSpec := { name := "fnLoose", fn := fun _ => fun
  | [d1, d2, d3] => { results := [.lit (.bool true)], args := [d1, d2, d3] }
  | _ => none }
def fnLooseRow : OpenClaim := { program := "ytcdhbfhijkdfoaadoor", sum := "137b07ca0cd6c2257f2210a4d710223da7af0d46ac266943d4243ec820e1cac2", func := "loop.example/lib-g01433/laws.FnLoose", spec := "fnLoose", inPlace := ["internal/bytealg.IndexByte", "internal/bytealg.Index", "internal/reflectlite.TypeOf"], unfollowed := true, recurses := true, named := ["io.EOF", "encoding/csv.errInvalidDelim", "encoding/csv.ErrBareQuote", "encoding/csv.ErrQuote", "encoding/csv.ErrFieldCount", "bufio.ErrBufferFull", "bufio.errNegativeRead", "io.ErrNoProgress", "unicode/utf8.first", "unicode/utf8.acceptRanges", "unicode.White_Space", "internal/bytealg.MaxLen"], apart := false, laid := [("unicode/utf8.acceptRanges", laid_unicode_utf8_acceptRanges), ("io.EOF", laid_io_EOF), ("io.ErrNoProgress", laid_io_ErrNoProgress), ("unicode.White_Space", laid_unicode_White_Space), ("bufio.ErrBufferFull", laid_bufio_ErrBufferFull), ("bufio.errNegativeRead", laid_bufio_errNegativeRead), ("encoding/csv.ErrBareQuote", laid_encoding_csv_ErrBareQuote), ("encoding/csv.ErrQuote", laid_encoding_csv_ErrQuote), ("encoding/csv.ErrFieldCount", laid_encoding_csv_ErrFieldCount), ("encoding/csv.errInvalidDelim", laid_encoding_csv_errInvalidDelim), ("unicode/utf8.first", laid_unicode_utf8_first)] }
def FnLooseSaid : Prop := fnLooseRow.holds Tryd.pinned (OpenSpec.ofChange fnLooseSpec)

/-- ITS FALSE NEIGHBOUR: 'it returns false'. Refute it at one input. -/
def fnLooseWrong : ChangeSpec := { name := "fnLoose", fn := fun _ => fun
  | [d1, d2, d3] => { results := [.lit (.bool false)], args := [d1, d2, d3] }
  | _ => none }
def FnLooseWrongFalsely : Prop := fnLooseRow.holds Tryd.pinned (OpenSpec.ofChange fnLooseWrong)

/-- 'laws.FnMixed': WHATEVER THE INPUT: true; the input reads as it did. -/
def fnMixedSpec : ChangeSpec := { name := "fnMixed", fn := fun _ => fun
  | [d1, d2, d3, d4] => { results := [.lit (.bool true)], args := [d1, d2, d3, d4] }
  | _ => none }
def fnMixedRow : OpenClaim := { program := "ytcdhbfhijkdfoaadoor", sum := "137b07ca0cd6c2257f2210a4d710223da7af0d46ac266943d4243ec820e1cac2", func := "loop.example/lib-g01433/laws.FnMixed", spec := "fnMixed", inPlace := ["internal/bytealg.IndexByte", "internal/bytealg.Index", "internal/reflectlite.TypeOf"], unfollowed := true, recurses := true, named := ["io.EOF", "encoding/csv.errInvalidDelim", "encoding/csv.ErrBareQuote", "encoding/csv.ErrQuote", "encoding/csv.ErrFieldCount", "bufio.ErrBufferFull", "bufio.errNegativeRead", "io.ErrNoProgress", "unicode/utf8.first", "unicode/utf8.acceptRanges", "unicode.White_Space", "internal/bytealg.MaxLen"], apart := false, laid := [("unicode/utf8.acceptRanges", laid_unicode_utf8_acceptRanges), ("io.EOF", laid_io_EOF), ("io.ErrNoProgress", laid_io_ErrNoProgress), ("unicode.White_Space", laid_unicode_White_Space), ("bufio.ErrBufferFull", laid_bufio_ErrBufferFull), ("bufio.errNegativeRead", laid_bufio_errNegativeRead), ("encoding/csv.ErrBareQuote", laid_encoding_csv_ErrBareQuote), ("encoding/csv.ErrQuote", laid_encoding_csv_ErrQuote), ("encoding/csv.ErrFieldCount", laid_encoding_csv_ErrFieldCount), ("encoding/csv.errInvalidDelim", laid_encoding_csv_errInvalidDelim), ("unicode/utf8.first", laid_unicode_utf8_first)] }
def FnMixedSaid : Prop := fnMixedRow.holds Tryd.pinned (OpenSpec.ofChange fnMixedSpec)

/-- ITS FALSE NEIGHBOUR: 'it returns false'. Refute it at one input. -/
def fnMixedWrong : ChangeSpec := { name := "fnMixed", fn := fun _ => fun
  | [d1, d2, d3, d4] => { results := [.lit (.bool false)], args := [d1, d2, d3, d4] }
  | _ => none }
def FnMixedWrongFalsely : Prop := fnMixedRow.holds Tryd.pinned (OpenSpec.ofChange fnMixedWrong)

/-- 'laws.FnNested': WHATEVER THE INPUT: true; the input reads as it did. -/
def fnNestedSpec : ChangeSpec := { name := "fnNested", fn := fun _ => fun
  | [d1, d2] => { results := [.lit (.bool true)], args := [d1, d2] }
  | _ => none }
def fnNestedRow : OpenClaim := { program := "ytcdhbfhijkdfoaadoor", sum := "137b07ca0cd6c2257f2210a4d710223da7af0d46ac266943d4243ec820e1cac2", func := "loop.example/lib-g01433/laws.FnNested", spec := "fnNested", inPlace := ["internal/bytealg.IndexByte", "internal/bytealg.Index", "internal/reflectlite.TypeOf"], unfollowed := true, recurses := true, named := ["io.EOF", "encoding/csv.errInvalidDelim", "encoding/csv.ErrBareQuote", "encoding/csv.ErrQuote", "encoding/csv.ErrFieldCount", "bufio.ErrBufferFull", "bufio.errNegativeRead", "io.ErrNoProgress", "unicode/utf8.first", "unicode/utf8.acceptRanges", "unicode.White_Space", "internal/bytealg.MaxLen"], apart := false, laid := [("unicode/utf8.acceptRanges", laid_unicode_utf8_acceptRanges), ("io.EOF", laid_io_EOF), ("io.ErrNoProgress", laid_io_ErrNoProgress), ("unicode.White_Space", laid_unicode_White_Space), ("bufio.ErrBufferFull", laid_bufio_ErrBufferFull), ("bufio.errNegativeRead", laid_bufio_errNegativeRead), ("encoding/csv.ErrBareQuote", laid_encoding_csv_ErrBareQuote), ("encoding/csv.ErrQuote", laid_encoding_csv_ErrQuote), ("encoding/csv.ErrFieldCount", laid_encoding_csv_ErrFieldCount), ("encoding/csv.errInvalidDelim", laid_encoding_csv_errInvalidDelim), ("unicode/utf8.first", laid_unicode_utf8_first)] }
def FnNestedSaid : Prop := fnNestedRow.holds Tryd.pinned (OpenSpec.ofChange fnNestedSpec)

/-- ITS FALSE NEIGHBOUR: 'it returns false'. Refute it at one input. -/
def fnNestedWrong : ChangeSpec := { name := "fnNested", fn := fun _ => fun
  | [d1, d2] => { results := [.lit (.bool false)], args := [d1, d2] }
  | _ => none }
def FnNestedWrongFalsely : Prop := fnNestedRow.holds Tryd.pinned (OpenSpec.ofChange fnNestedWrong)

/-- 'laws.FnQuotes': WHATEVER THE INPUT: true; the input reads as it did. -/
def fnQuotesSpec : ChangeSpec := { name := "fnQuotes", fn := fun _ => fun
  | [d1, d2] => { results := [.lit (.bool true)], args := [d1, d2] }
  | _ => none }
def fnQuotesRow : OpenClaim := { program := "ytcdhbfhijkdfoaadoor", sum := "137b07ca0cd6c2257f2210a4d710223da7af0d46ac266943d4243ec820e1cac2", func := "loop.example/lib-g01433/laws.FnQuotes", spec := "fnQuotes", inPlace := ["internal/bytealg.IndexByte", "internal/bytealg.Index", "internal/reflectlite.TypeOf"], unfollowed := true, recurses := true, named := ["io.EOF", "encoding/csv.errInvalidDelim", "encoding/csv.ErrBareQuote", "encoding/csv.ErrQuote", "encoding/csv.ErrFieldCount", "bufio.ErrBufferFull", "bufio.errNegativeRead", "io.ErrNoProgress", "unicode/utf8.first", "unicode/utf8.acceptRanges", "unicode.White_Space", "internal/bytealg.MaxLen"], apart := false, laid := [("unicode/utf8.acceptRanges", laid_unicode_utf8_acceptRanges), ("io.EOF", laid_io_EOF), ("io.ErrNoProgress", laid_io_ErrNoProgress), ("unicode.White_Space", laid_unicode_White_Space), ("bufio.ErrBufferFull", laid_bufio_ErrBufferFull), ("bufio.errNegativeRead", laid_bufio_errNegativeRead), ("encoding/csv.ErrBareQuote", laid_encoding_csv_ErrBareQuote), ("encoding/csv.ErrQuote", laid_encoding_csv_ErrQuote), ("encoding/csv.ErrFieldCount", laid_encoding_csv_ErrFieldCount), ("encoding/csv.errInvalidDelim", laid_encoding_csv_errInvalidDelim), ("unicode/utf8.first", laid_unicode_utf8_first)] }
def FnQuotesSaid : Prop := fnQuotesRow.holds Tryd.pinned (OpenSpec.ofChange fnQuotesSpec)

/-- ITS FALSE NEIGHBOUR: 'it returns false'. Refute it at one input. -/
def fnQuotesWrong : ChangeSpec := { name := "fnQuotes", fn := fun _ => fun
  | [d1, d2] => { results := [.lit (.bool false)], args := [d1, d2] }
  | _ => none }
def FnQuotesWrongFalsely : Prop := fnQuotesRow.holds Tryd.pinned (OpenSpec.ofChange fnQuotesWrong)

/-- 'laws.FnReadWritten': WHATEVER THE INPUT: true; the input reads as it did. -/
def fnReadWrittenSpec : ChangeSpec := { name := "fnReadWritten", fn := fun _ => fun
  | [d1, d2, d3] => { results := [.lit (.bool true)], args := [d1, d2, d3] }
  | _ => none }
def fnReadWrittenRow : OpenClaim := { program := "ytcdhbfhijkdfoaadoor", sum := "137b07ca0cd6c2257f2210a4d710223da7af0d46ac266943d4243ec820e1cac2", func := "loop.example/lib-g01433/laws.FnReadWritten", spec := "fnReadWritten", inPlace := ["internal/bytealg.IndexByte", "internal/bytealg.Index", "internal/reflectlite.TypeOf"], unfollowed := true, recurses := true, named := ["io.EOF", "encoding/csv.errInvalidDelim", "encoding/csv.ErrBareQuote", "encoding/csv.ErrQuote", "encoding/csv.ErrFieldCount", "bufio.ErrBufferFull", "bufio.errNegativeRead", "io.ErrNoProgress", "unicode/utf8.first", "unicode/utf8.acceptRanges", "unicode.White_Space", "internal/bytealg.MaxLen"], apart := false, laid := [("unicode/utf8.acceptRanges", laid_unicode_utf8_acceptRanges), ("io.EOF", laid_io_EOF), ("io.ErrNoProgress", laid_io_ErrNoProgress), ("unicode.White_Space", laid_unicode_White_Space), ("bufio.ErrBufferFull", laid_bufio_ErrBufferFull), ("bufio.errNegativeRead", laid_bufio_errNegativeRead), ("encoding/csv.ErrBareQuote", laid_encoding_csv_ErrBareQuote), ("encoding/csv.ErrQuote", laid_encoding_csv_ErrQuote), ("encoding/csv.ErrFieldCount", laid_encoding_csv_ErrFieldCount), ("encoding/csv.errInvalidDelim", laid_encoding_csv_errInvalidDelim), ("unicode/utf8.first", laid_unicode_utf8_first)] }
def FnReadWrittenSaid : Prop := fnReadWrittenRow.holds Tryd.pinned (OpenSpec.ofChange fnReadWrittenSpec)

/-- ITS FALSE NEIGHBOUR: 'it returns false'. Refute it at one input. -/
def fnReadWrittenWrong : ChangeSpec := { name := "fnReadWritten", fn := fun _ => fun
  | [d1, d2, d3] => { results := [.lit (.bool false)], args := [d1, d2, d3] }
  | _ => none }
def FnReadWrittenWrongFalsely : Prop := fnReadWrittenRow.holds Tryd.pinned (OpenSpec.ofChange fnReadWrittenWrong)

/-- 'laws.FnRowsJoined': WHATEVER THE INPUT: true; the input reads as it did. -/
def fnRowsJoinedSpec : ChangeSpec := { name := "fnRowsJoined", fn := fun _ => fun
  | [d1, d2, d3] => { results := [.lit (.bool true)], args := [d1, d2, d3] }
  | _ => none }
def fnRowsJoinedRow : OpenClaim := { program := "ytcdhbfhijkdfoaadoor", sum := "137b07ca0cd6c2257f2210a4d710223da7af0d46ac266943d4243ec820e1cac2", func := "loop.example/lib-g01433/laws.FnRowsJoined", spec := "fnRowsJoined", inPlace := ["internal/bytealg.IndexByte", "internal/bytealg.Index", "internal/reflectlite.TypeOf"], unfollowed := true, recurses := true, named := ["io.EOF", "encoding/csv.errInvalidDelim", "encoding/csv.ErrBareQuote", "encoding/csv.ErrQuote", "encoding/csv.ErrFieldCount", "bufio.ErrBufferFull", "bufio.errNegativeRead", "io.ErrNoProgress", "unicode/utf8.first", "unicode/utf8.acceptRanges", "unicode.White_Space", "internal/bytealg.MaxLen"], apart := false, laid := [("unicode/utf8.acceptRanges", laid_unicode_utf8_acceptRanges), ("io.EOF", laid_io_EOF), ("io.ErrNoProgress", laid_io_ErrNoProgress), ("unicode.White_Space", laid_unicode_White_Space), ("bufio.ErrBufferFull", laid_bufio_ErrBufferFull), ("bufio.errNegativeRead", laid_bufio_errNegativeRead), ("encoding/csv.ErrBareQuote", laid_encoding_csv_ErrBareQuote), ("encoding/csv.ErrQuote", laid_encoding_csv_ErrQuote), ("encoding/csv.ErrFieldCount", laid_encoding_csv_ErrFieldCount), ("encoding/csv.errInvalidDelim", laid_encoding_csv_errInvalidDelim), ("unicode/utf8.first", laid_unicode_utf8_first)] }
def FnRowsJoinedSaid : Prop := fnRowsJoinedRow.holds Tryd.pinned (OpenSpec.ofChange fnRowsJoinedSpec)

/-- ITS FALSE NEIGHBOUR: 'it returns false'. Refute it at one input. -/
def fnRowsJoinedWrong : ChangeSpec := { name := "fnRowsJoined", fn := fun _ => fun
  | [d1, d2, d3] => { results := [.lit (.bool false)], args := [d1, d2, d3] }
  | _ => none }
def FnRowsJoinedWrongFalsely : Prop := fnRowsJoinedRow.holds Tryd.pinned (OpenSpec.ofChange fnRowsJoinedWrong)

/-- 'laws.FnTrimmed': WHATEVER THE INPUT: true; the input reads as it did. -/
def fnTrimmedSpec : ChangeSpec := { name := "fnTrimmed", fn := fun _ => fun
  | [d1, d2, d3] => { results := [.lit (.bool true)], args := [d1, d2, d3] }
  | _ => none }
def fnTrimmedRow : OpenClaim := { program := "ytcdhbfhijkdfoaadoor", sum := "137b07ca0cd6c2257f2210a4d710223da7af0d46ac266943d4243ec820e1cac2", func := "loop.example/lib-g01433/laws.FnTrimmed", spec := "fnTrimmed", inPlace := ["internal/bytealg.IndexByte", "internal/bytealg.Index", "internal/reflectlite.TypeOf"], unfollowed := true, recurses := true, named := ["io.EOF", "encoding/csv.errInvalidDelim", "encoding/csv.ErrBareQuote", "encoding/csv.ErrQuote", "encoding/csv.ErrFieldCount", "bufio.ErrBufferFull", "bufio.errNegativeRead", "io.ErrNoProgress", "unicode/utf8.first", "unicode/utf8.acceptRanges", "unicode.White_Space", "internal/bytealg.MaxLen"], apart := false, laid := [("unicode/utf8.acceptRanges", laid_unicode_utf8_acceptRanges), ("io.EOF", laid_io_EOF), ("io.ErrNoProgress", laid_io_ErrNoProgress), ("unicode.White_Space", laid_unicode_White_Space), ("bufio.ErrBufferFull", laid_bufio_ErrBufferFull), ("bufio.errNegativeRead", laid_bufio_errNegativeRead), ("encoding/csv.ErrBareQuote", laid_encoding_csv_ErrBareQuote), ("encoding/csv.ErrQuote", laid_encoding_csv_ErrQuote), ("encoding/csv.ErrFieldCount", laid_encoding_csv_ErrFieldCount), ("encoding/csv.errInvalidDelim", laid_encoding_csv_errInvalidDelim), ("unicode/utf8.first", laid_unicode_utf8_first)] }
def FnTrimmedSaid : Prop := fnTrimmedRow.holds Tryd.pinned (OpenSpec.ofChange fnTrimmedSpec)

/-- ITS FALSE NEIGHBOUR: 'it returns false'. Refute it at one input. -/
def fnTrimmedWrong : ChangeSpec := { name := "fnTrimmed", fn := fun _ => fun
  | [d1, d2, d3] => { results := [.lit (.bool false)], args := [d1, d2, d3] }
  | _ => none }
def FnTrimmedWrongFalsely : Prop := fnTrimmedRow.holds Tryd.pinned (OpenSpec.ofChange fnTrimmedWrong)

/-- 'laws.FnCut': WHATEVER THE INPUT: true; the input reads as it did. -/
def fnCutSpec : ChangeSpec := { name := "fnCut", fn := fun _ => fun
  | [d1, d2, d3, d4] => { results := [.lit (.bool true)], args := [d1, d2, d3, d4] }
  | _ => none }
def fnCutRow : OpenClaim := { program := "ytcdhbfhijkdfoaadoor", sum := "137b07ca0cd6c2257f2210a4d710223da7af0d46ac266943d4243ec820e1cac2", func := "loop.example/lib-g01433/laws.FnCut", spec := "fnCut", inPlace := ["internal/bytealg.IndexByte", "internal/bytealg.Index", "internal/reflectlite.TypeOf"], unfollowed := true, recurses := true, named := ["io.EOF", "encoding/csv.errInvalidDelim", "encoding/csv.ErrBareQuote", "encoding/csv.ErrQuote", "encoding/csv.ErrFieldCount", "bufio.ErrBufferFull", "bufio.errNegativeRead", "io.ErrNoProgress", "unicode/utf8.first", "unicode/utf8.acceptRanges", "unicode.White_Space", "internal/bytealg.MaxLen"], apart := false, laid := [("unicode/utf8.acceptRanges", laid_unicode_utf8_acceptRanges), ("io.EOF", laid_io_EOF), ("io.ErrNoProgress", laid_io_ErrNoProgress), ("unicode.White_Space", laid_unicode_White_Space), ("bufio.ErrBufferFull", laid_bufio_ErrBufferFull), ("bufio.errNegativeRead", laid_bufio_errNegativeRead), ("encoding/csv.ErrBareQuote", laid_encoding_csv_ErrBareQuote), ("encoding/csv.ErrQuote", laid_encoding_csv_ErrQuote), ("encoding/csv.ErrFieldCount", laid_encoding_csv_ErrFieldCount), ("encoding/csv.errInvalidDelim", laid_encoding_csv_errInvalidDelim), ("unicode/utf8.first", laid_unicode_utf8_first)] }
def FnCutSaid : Prop := fnCutRow.holds Tryd.pinned (OpenSpec.ofChange fnCutSpec)

/-- ITS FALSE NEIGHBOUR: 'it returns false'. Refute it at one input. -/
def fnCutWrong : ChangeSpec := { name := "fnCut", fn := fun _ => fun
  | [d1, d2, d3, d4] => { results := [.lit (.bool false)], args := [d1, d2, d3, d4] }
  | _ => none }
def FnCutWrongFalsely : Prop := fnCutRow.holds Tryd.pinned (OpenSpec.ofChange fnCutWrong)

/-- 'laws.FnWrongOptions': WHATEVER THE INPUT: true; the input reads as it did. -/
def fnWrongOptionsSpec : ChangeSpec := { name := "fnWrongOptions", fn := fun _ => fun
  | [d1, d2] => { results := [.lit (.bool true)], args := [d1, d2] }
  | _ => none }
def fnWrongOptionsRow : OpenClaim := { program := "ytcdhbfhijkdfoaadoor", sum := "137b07ca0cd6c2257f2210a4d710223da7af0d46ac266943d4243ec820e1cac2", func := "loop.example/lib-g01433/laws.FnWrongOptions", spec := "fnWrongOptions", inPlace := ["internal/bytealg.IndexByte", "internal/bytealg.Index", "internal/reflectlite.TypeOf"], unfollowed := true, recurses := true, named := ["io.EOF", "encoding/csv.errInvalidDelim", "encoding/csv.ErrBareQuote", "encoding/csv.ErrQuote", "encoding/csv.ErrFieldCount", "bufio.ErrBufferFull", "bufio.errNegativeRead", "io.ErrNoProgress", "unicode/utf8.first", "unicode/utf8.acceptRanges", "unicode.White_Space", "internal/bytealg.MaxLen"], apart := false, laid := [("unicode/utf8.acceptRanges", laid_unicode_utf8_acceptRanges), ("io.EOF", laid_io_EOF), ("io.ErrNoProgress", laid_io_ErrNoProgress), ("unicode.White_Space", laid_unicode_White_Space), ("bufio.ErrBufferFull", laid_bufio_ErrBufferFull), ("bufio.errNegativeRead", laid_bufio_errNegativeRead), ("encoding/csv.ErrBareQuote", laid_encoding_csv_ErrBareQuote), ("encoding/csv.ErrQuote", laid_encoding_csv_ErrQuote), ("encoding/csv.ErrFieldCount", laid_encoding_csv_ErrFieldCount), ("encoding/csv.errInvalidDelim", laid_encoding_csv_errInvalidDelim), ("unicode/utf8.first", laid_unicode_utf8_first)] }
def FnWrongOptionsSaid : Prop := fnWrongOptionsRow.holds Tryd.pinned (OpenSpec.ofChange fnWrongOptionsSpec)

/-- ITS FALSE NEIGHBOUR: 'it returns false'. Refute it at one input. -/
def fnWrongOptionsWrong : ChangeSpec := { name := "fnWrongOptions", fn := fun _ => fun
  | [d1, d2] => { results := [.lit (.bool false)], args := [d1, d2] }
  | _ => none }
def FnWrongOptionsWrongFalsely : Prop := fnWrongOptionsRow.holds Tryd.pinned (OpenSpec.ofChange fnWrongOptionsWrong)

/- THE SECOND FORM. 'bulk': how many values and letters a reading holds, each counted each time it is reached (what is shared counts as often as it is met; a slice's spare places count too). A statement '..UptoSaid' is the law's where the arguments, and the package variables that the reading takes, are together of bulk at most 1048576: NARROWER than '..Said'. Prove '..Said' where nothing that the law and all that it calls make is longer than what came in: it says more and counts as full. Else prove '..UptoSaid'. A law counts once. -/
mutual
def uptoBulk {H : Type} : DataW H → Nat
  | .lit (.string bytes) => bytes.length + 1
  | .lit _ => 1
  | .nil => 1
  | .ptr d => uptoBulk d + 1
  | .slice elems spare => uptoBulkAll elems + uptoBulkAll spare + 1
  | .agg parts => uptoBulkAll parts + 1
  | .iface _ d => uptoBulk d + 1
  | .map entries => uptoBulkEntries entries + 1
  | .held _ => 1
def uptoBulkAll {H : Type} : List (DataW H) → Nat
  | [] => 0
  | d :: r => uptoBulk d + uptoBulkAll r
def uptoBulkEntries {H : Type} : List (Lit × DataW H) → Nat
  | [] => 0
  | x :: r => uptoBulkEntry x + uptoBulkEntries r
def uptoBulkEntry {H : Type} : Lit × DataW H → Nat
  | (.string bytes, d) => bytes.length + uptoBulk d + 1
  | (_, d) => uptoBulk d + 1
 end
def uptoSmall : (H : Type) → List (DataW H) → Bool := fun _ ds => decide (uptoBulkAll ds ≤ 1048576)
def OpenSpec.upto (s : _root_.Go.ChangeSpec) : _root_.Go.OpenSpec := { _root_.Go.OpenSpec.ofChange s with cond := some uptoSmall }

/-- 'laws.FnCountFields', WHERE WHAT IT READS IS OF BULK AT MOST 1048576: true; the input reads as it did. -/
def fnCountFieldsUptoRow : OpenClaim := { program := "ytcdhbfhijkdfoaadoor", sum := "137b07ca0cd6c2257f2210a4d710223da7af0d46ac266943d4243ec820e1cac2", func := "loop.example/lib-g01433/laws.FnCountFields", spec := "fnCountFields", inPlace := ["internal/bytealg.IndexByte", "internal/bytealg.Index", "internal/reflectlite.TypeOf"], unfollowed := true, recurses := true, named := ["io.EOF", "encoding/csv.errInvalidDelim", "encoding/csv.ErrBareQuote", "encoding/csv.ErrQuote", "encoding/csv.ErrFieldCount", "bufio.ErrBufferFull", "bufio.errNegativeRead", "io.ErrNoProgress", "unicode/utf8.first", "unicode/utf8.acceptRanges", "unicode.White_Space", "internal/bytealg.MaxLen"], apart := false, laid := [("unicode/utf8.acceptRanges", laid_unicode_utf8_acceptRanges), ("io.EOF", laid_io_EOF), ("io.ErrNoProgress", laid_io_ErrNoProgress), ("unicode.White_Space", laid_unicode_White_Space), ("bufio.ErrBufferFull", laid_bufio_ErrBufferFull), ("bufio.errNegativeRead", laid_bufio_errNegativeRead), ("encoding/csv.ErrBareQuote", laid_encoding_csv_ErrBareQuote), ("encoding/csv.ErrQuote", laid_encoding_csv_ErrQuote), ("encoding/csv.ErrFieldCount", laid_encoding_csv_ErrFieldCount), ("encoding/csv.errInvalidDelim", laid_encoding_csv_errInvalidDelim), ("unicode/utf8.first", laid_unicode_utf8_first)], narrowed := true }
def FnCountFieldsUptoSaid : Prop := fnCountFieldsUptoRow.holds Tryd.pinned (OpenSpec.upto fnCountFieldsSpec)

/-- 'laws.FnEmptyRow', WHERE WHAT IT READS IS OF BULK AT MOST 1048576: true; the input reads as it did. -/
def fnEmptyRowUptoRow : OpenClaim := { program := "ytcdhbfhijkdfoaadoor", sum := "137b07ca0cd6c2257f2210a4d710223da7af0d46ac266943d4243ec820e1cac2", func := "loop.example/lib-g01433/laws.FnEmptyRow", spec := "fnEmptyRow", inPlace := ["internal/bytealg.IndexByte", "internal/bytealg.Index", "internal/reflectlite.TypeOf"], unfollowed := true, recurses := true, named := ["io.EOF", "encoding/csv.errInvalidDelim", "encoding/csv.ErrBareQuote", "encoding/csv.ErrQuote", "encoding/csv.ErrFieldCount", "bufio.ErrBufferFull", "bufio.errNegativeRead", "io.ErrNoProgress", "unicode/utf8.first", "unicode/utf8.acceptRanges", "unicode.White_Space", "internal/bytealg.MaxLen"], apart := false, laid := [("unicode/utf8.acceptRanges", laid_unicode_utf8_acceptRanges), ("io.EOF", laid_io_EOF), ("io.ErrNoProgress", laid_io_ErrNoProgress), ("unicode.White_Space", laid_unicode_White_Space), ("bufio.ErrBufferFull", laid_bufio_ErrBufferFull), ("bufio.errNegativeRead", laid_bufio_errNegativeRead), ("encoding/csv.ErrBareQuote", laid_encoding_csv_ErrBareQuote), ("encoding/csv.ErrQuote", laid_encoding_csv_ErrQuote), ("encoding/csv.ErrFieldCount", laid_encoding_csv_ErrFieldCount), ("encoding/csv.errInvalidDelim", laid_encoding_csv_errInvalidDelim), ("unicode/utf8.first", laid_unicode_utf8_first)], narrowed := true }
def FnEmptyRowUptoSaid : Prop := fnEmptyRowUptoRow.holds Tryd.pinned (OpenSpec.upto fnEmptyRowSpec)

/-- 'laws.FnLazyOpen', WHERE WHAT IT READS IS OF BULK AT MOST 1048576: true; the input reads as it did. -/
def fnLazyOpenUptoRow : OpenClaim := { program := "ytcdhbfhijkdfoaadoor", sum := "137b07ca0cd6c2257f2210a4d710223da7af0d46ac266943d4243ec820e1cac2", func := "loop.example/lib-g01433/laws.FnLazyOpen", spec := "fnLazyOpen", inPlace := ["internal/bytealg.IndexByte", "internal/bytealg.Index", "internal/reflectlite.TypeOf"], unfollowed := true, recurses := true, named := ["io.EOF", "encoding/csv.errInvalidDelim", "encoding/csv.ErrBareQuote", "encoding/csv.ErrQuote", "encoding/csv.ErrFieldCount", "bufio.ErrBufferFull", "bufio.errNegativeRead", "io.ErrNoProgress", "unicode/utf8.first", "unicode/utf8.acceptRanges", "unicode.White_Space", "internal/bytealg.MaxLen"], apart := false, laid := [("unicode/utf8.acceptRanges", laid_unicode_utf8_acceptRanges), ("io.EOF", laid_io_EOF), ("io.ErrNoProgress", laid_io_ErrNoProgress), ("unicode.White_Space", laid_unicode_White_Space), ("bufio.ErrBufferFull", laid_bufio_ErrBufferFull), ("bufio.errNegativeRead", laid_bufio_errNegativeRead), ("encoding/csv.ErrBareQuote", laid_encoding_csv_ErrBareQuote), ("encoding/csv.ErrQuote", laid_encoding_csv_ErrQuote), ("encoding/csv.ErrFieldCount", laid_encoding_csv_ErrFieldCount), ("encoding/csv.errInvalidDelim", laid_encoding_csv_errInvalidDelim), ("unicode/utf8.first", laid_unicode_utf8_first)], narrowed := true }
def FnLazyOpenUptoSaid : Prop := fnLazyOpenUptoRow.holds Tryd.pinned (OpenSpec.upto fnLazyOpenSpec)

/-- 'laws.FnLinesKept', WHERE WHAT IT READS IS OF BULK AT MOST 1048576: true; the input reads as it did. -/
def fnLinesKeptUptoRow : OpenClaim := { program := "ytcdhbfhijkdfoaadoor", sum := "137b07ca0cd6c2257f2210a4d710223da7af0d46ac266943d4243ec820e1cac2", func := "loop.example/lib-g01433/laws.FnLinesKept", spec := "fnLinesKept", inPlace := ["internal/bytealg.IndexByte", "internal/bytealg.Index", "internal/reflectlite.TypeOf"], unfollowed := true, recurses := true, named := ["io.EOF", "encoding/csv.errInvalidDelim", "encoding/csv.ErrBareQuote", "encoding/csv.ErrQuote", "encoding/csv.ErrFieldCount", "bufio.ErrBufferFull", "bufio.errNegativeRead", "io.ErrNoProgress", "unicode/utf8.first", "unicode/utf8.acceptRanges", "unicode.White_Space", "internal/bytealg.MaxLen"], apart := false, laid := [("unicode/utf8.acceptRanges", laid_unicode_utf8_acceptRanges), ("io.EOF", laid_io_EOF), ("io.ErrNoProgress", laid_io_ErrNoProgress), ("unicode.White_Space", laid_unicode_White_Space), ("bufio.ErrBufferFull", laid_bufio_ErrBufferFull), ("bufio.errNegativeRead", laid_bufio_errNegativeRead), ("encoding/csv.ErrBareQuote", laid_encoding_csv_ErrBareQuote), ("encoding/csv.ErrQuote", laid_encoding_csv_ErrQuote), ("encoding/csv.ErrFieldCount", laid_encoding_csv_ErrFieldCount), ("encoding/csv.errInvalidDelim", laid_encoding_csv_errInvalidDelim), ("unicode/utf8.first", laid_unicode_utf8_first)], narrowed := true }
def FnLinesKeptUptoSaid : Prop := fnLinesKeptUptoRow.holds Tryd.pinned (OpenSpec.upto fnLinesKeptSpec)

/-- 'laws.FnLoose', WHERE WHAT IT READS IS OF BULK AT MOST 1048576: true; the input reads as it did. -/
def fnLooseUptoRow : OpenClaim := { program := "ytcdhbfhijkdfoaadoor", sum := "137b07ca0cd6c2257f2210a4d710223da7af0d46ac266943d4243ec820e1cac2", func := "loop.example/lib-g01433/laws.FnLoose", spec := "fnLoose", inPlace := ["internal/bytealg.IndexByte", "internal/bytealg.Index", "internal/reflectlite.TypeOf"], unfollowed := true, recurses := true, named := ["io.EOF", "encoding/csv.errInvalidDelim", "encoding/csv.ErrBareQuote", "encoding/csv.ErrQuote", "encoding/csv.ErrFieldCount", "bufio.ErrBufferFull", "bufio.errNegativeRead", "io.ErrNoProgress", "unicode/utf8.first", "unicode/utf8.acceptRanges", "unicode.White_Space", "internal/bytealg.MaxLen"], apart := false, laid := [("unicode/utf8.acceptRanges", laid_unicode_utf8_acceptRanges), ("io.EOF", laid_io_EOF), ("io.ErrNoProgress", laid_io_ErrNoProgress), ("unicode.White_Space", laid_unicode_White_Space), ("bufio.ErrBufferFull", laid_bufio_ErrBufferFull), ("bufio.errNegativeRead", laid_bufio_errNegativeRead), ("encoding/csv.ErrBareQuote", laid_encoding_csv_ErrBareQuote), ("encoding/csv.ErrQuote", laid_encoding_csv_ErrQuote), ("encoding/csv.ErrFieldCount", laid_encoding_csv_ErrFieldCount), ("encoding/csv.errInvalidDelim", laid_encoding_csv_errInvalidDelim), ("unicode/utf8.first", laid_unicode_utf8_first)], narrowed := true }
def FnLooseUptoSaid : Prop := fnLooseUptoRow.holds Tryd.pinned (OpenSpec.upto fnLooseSpec)

/-- 'laws.FnMixed', WHERE WHAT IT READS IS OF BULK AT MOST 1048576: true; the input reads as it did. -/
def fnMixedUptoRow : OpenClaim := { program := "ytcdhbfhijkdfoaadoor", sum := "137b07ca0cd6c2257f2210a4d710223da7af0d46ac266943d4243ec820e1cac2", func := "loop.example/lib-g01433/laws.FnMixed", spec := "fnMixed", inPlace := ["internal/bytealg.IndexByte", "internal/bytealg.Index", "internal/reflectlite.TypeOf"], unfollowed := true, recurses := true, named := ["io.EOF", "encoding/csv.errInvalidDelim", "encoding/csv.ErrBareQuote", "encoding/csv.ErrQuote", "encoding/csv.ErrFieldCount", "bufio.ErrBufferFull", "bufio.errNegativeRead", "io.ErrNoProgress", "unicode/utf8.first", "unicode/utf8.acceptRanges", "unicode.White_Space", "internal/bytealg.MaxLen"], apart := false, laid := [("unicode/utf8.acceptRanges", laid_unicode_utf8_acceptRanges), ("io.EOF", laid_io_EOF), ("io.ErrNoProgress", laid_io_ErrNoProgress), ("unicode.White_Space", laid_unicode_White_Space), ("bufio.ErrBufferFull", laid_bufio_ErrBufferFull), ("bufio.errNegativeRead", laid_bufio_errNegativeRead), ("encoding/csv.ErrBareQuote", laid_encoding_csv_ErrBareQuote), ("encoding/csv.ErrQuote", laid_encoding_csv_ErrQuote), ("encoding/csv.ErrFieldCount", laid_encoding_csv_ErrFieldCount), ("encoding/csv.errInvalidDelim", laid_encoding_csv_errInvalidDelim), ("unicode/utf8.first", laid_unicode_utf8_first)], narrowed := true }
def FnMixedUptoSaid : Prop := fnMixedUptoRow.holds Tryd.pinned (OpenSpec.upto fnMixedSpec)

/-- 'laws.FnNested', WHERE WHAT IT READS IS OF BULK AT MOST 1048576: true; the input reads as it did. -/
def fnNestedUptoRow : OpenClaim := { program := "ytcdhbfhijkdfoaadoor", sum := "137b07ca0cd6c2257f2210a4d710223da7af0d46ac266943d4243ec820e1cac2", func := "loop.example/lib-g01433/laws.FnNested", spec := "fnNested", inPlace := ["internal/bytealg.IndexByte", "internal/bytealg.Index", "internal/reflectlite.TypeOf"], unfollowed := true, recurses := true, named := ["io.EOF", "encoding/csv.errInvalidDelim", "encoding/csv.ErrBareQuote", "encoding/csv.ErrQuote", "encoding/csv.ErrFieldCount", "bufio.ErrBufferFull", "bufio.errNegativeRead", "io.ErrNoProgress", "unicode/utf8.first", "unicode/utf8.acceptRanges", "unicode.White_Space", "internal/bytealg.MaxLen"], apart := false, laid := [("unicode/utf8.acceptRanges", laid_unicode_utf8_acceptRanges), ("io.EOF", laid_io_EOF), ("io.ErrNoProgress", laid_io_ErrNoProgress), ("unicode.White_Space", laid_unicode_White_Space), ("bufio.ErrBufferFull", laid_bufio_ErrBufferFull), ("bufio.errNegativeRead", laid_bufio_errNegativeRead), ("encoding/csv.ErrBareQuote", laid_encoding_csv_ErrBareQuote), ("encoding/csv.ErrQuote", laid_encoding_csv_ErrQuote), ("encoding/csv.ErrFieldCount", laid_encoding_csv_ErrFieldCount), ("encoding/csv.errInvalidDelim", laid_encoding_csv_errInvalidDelim), ("unicode/utf8.first", laid_unicode_utf8_first)], narrowed := true }
def FnNestedUptoSaid : Prop := fnNestedUptoRow.holds Tryd.pinned (OpenSpec.upto fnNestedSpec)

/-- 'laws.FnQuotes', WHERE WHAT IT READS IS OF BULK AT MOST 1048576: true; the input reads as it did. -/
def fnQuotesUptoRow : OpenClaim := { program := "ytcdhbfhijkdfoaadoor", sum := "137b07ca0cd6c2257f2210a4d710223da7af0d46ac266943d4243ec820e1cac2", func := "loop.example/lib-g01433/laws.FnQuotes", spec := "fnQuotes", inPlace := ["internal/bytealg.IndexByte", "internal/bytealg.Index", "internal/reflectlite.TypeOf"], unfollowed := true, recurses := true, named := ["io.EOF", "encoding/csv.errInvalidDelim", "encoding/csv.ErrBareQuote", "encoding/csv.ErrQuote", "encoding/csv.ErrFieldCount", "bufio.ErrBufferFull", "bufio.errNegativeRead", "io.ErrNoProgress", "unicode/utf8.first", "unicode/utf8.acceptRanges", "unicode.White_Space", "internal/bytealg.MaxLen"], apart := false, laid := [("unicode/utf8.acceptRanges", laid_unicode_utf8_acceptRanges), ("io.EOF", laid_io_EOF), ("io.ErrNoProgress", laid_io_ErrNoProgress), ("unicode.White_Space", laid_unicode_White_Space), ("bufio.ErrBufferFull", laid_bufio_ErrBufferFull), ("bufio.errNegativeRead", laid_bufio_errNegativeRead), ("encoding/csv.ErrBareQuote", laid_encoding_csv_ErrBareQuote), ("encoding/csv.ErrQuote", laid_encoding_csv_ErrQuote), ("encoding/csv.ErrFieldCount", laid_encoding_csv_ErrFieldCount), ("encoding/csv.errInvalidDelim", laid_encoding_csv_errInvalidDelim), ("unicode/utf8.first", laid_unicode_utf8_first)], narrowed := true }
def FnQuotesUptoSaid : Prop := fnQuotesUptoRow.holds Tryd.pinned (OpenSpec.upto fnQuotesSpec)

/-- 'laws.FnReadWritten', WHERE WHAT IT READS IS OF BULK AT MOST 1048576: true; the input reads as it did. -/
def fnReadWrittenUptoRow : OpenClaim := { program := "ytcdhbfhijkdfoaadoor", sum := "137b07ca0cd6c2257f2210a4d710223da7af0d46ac266943d4243ec820e1cac2", func := "loop.example/lib-g01433/laws.FnReadWritten", spec := "fnReadWritten", inPlace := ["internal/bytealg.IndexByte", "internal/bytealg.Index", "internal/reflectlite.TypeOf"], unfollowed := true, recurses := true, named := ["io.EOF", "encoding/csv.errInvalidDelim", "encoding/csv.ErrBareQuote", "encoding/csv.ErrQuote", "encoding/csv.ErrFieldCount", "bufio.ErrBufferFull", "bufio.errNegativeRead", "io.ErrNoProgress", "unicode/utf8.first", "unicode/utf8.acceptRanges", "unicode.White_Space", "internal/bytealg.MaxLen"], apart := false, laid := [("unicode/utf8.acceptRanges", laid_unicode_utf8_acceptRanges), ("io.EOF", laid_io_EOF), ("io.ErrNoProgress", laid_io_ErrNoProgress), ("unicode.White_Space", laid_unicode_White_Space), ("bufio.ErrBufferFull", laid_bufio_ErrBufferFull), ("bufio.errNegativeRead", laid_bufio_errNegativeRead), ("encoding/csv.ErrBareQuote", laid_encoding_csv_ErrBareQuote), ("encoding/csv.ErrQuote", laid_encoding_csv_ErrQuote), ("encoding/csv.ErrFieldCount", laid_encoding_csv_ErrFieldCount), ("encoding/csv.errInvalidDelim", laid_encoding_csv_errInvalidDelim), ("unicode/utf8.first", laid_unicode_utf8_first)], narrowed := true }
def FnReadWrittenUptoSaid : Prop := fnReadWrittenUptoRow.holds Tryd.pinned (OpenSpec.upto fnReadWrittenSpec)

/-- 'laws.FnRowsJoined', WHERE WHAT IT READS IS OF BULK AT MOST 1048576: true; the input reads as it did. -/
def fnRowsJoinedUptoRow : OpenClaim := { program := "ytcdhbfhijkdfoaadoor", sum := "137b07ca0cd6c2257f2210a4d710223da7af0d46ac266943d4243ec820e1cac2", func := "loop.example/lib-g01433/laws.FnRowsJoined", spec := "fnRowsJoined", inPlace := ["internal/bytealg.IndexByte", "internal/bytealg.Index", "internal/reflectlite.TypeOf"], unfollowed := true, recurses := true, named := ["io.EOF", "encoding/csv.errInvalidDelim", "encoding/csv.ErrBareQuote", "encoding/csv.ErrQuote", "encoding/csv.ErrFieldCount", "bufio.ErrBufferFull", "bufio.errNegativeRead", "io.ErrNoProgress", "unicode/utf8.first", "unicode/utf8.acceptRanges", "unicode.White_Space", "internal/bytealg.MaxLen"], apart := false, laid := [("unicode/utf8.acceptRanges", laid_unicode_utf8_acceptRanges), ("io.EOF", laid_io_EOF), ("io.ErrNoProgress", laid_io_ErrNoProgress), ("unicode.White_Space", laid_unicode_White_Space), ("bufio.ErrBufferFull", laid_bufio_ErrBufferFull), ("bufio.errNegativeRead", laid_bufio_errNegativeRead), ("encoding/csv.ErrBareQuote", laid_encoding_csv_ErrBareQuote), ("encoding/csv.ErrQuote", laid_encoding_csv_ErrQuote), ("encoding/csv.ErrFieldCount", laid_encoding_csv_ErrFieldCount), ("encoding/csv.errInvalidDelim", laid_encoding_csv_errInvalidDelim), ("unicode/utf8.first", laid_unicode_utf8_first)], narrowed := true }
def FnRowsJoinedUptoSaid : Prop := fnRowsJoinedUptoRow.holds Tryd.pinned (OpenSpec.upto fnRowsJoinedSpec)

/-- 'laws.FnTrimmed', WHERE WHAT IT READS IS OF BULK AT MOST 1048576: true; the input reads as it did. -/
def fnTrimmedUptoRow : OpenClaim := { program := "ytcdhbfhijkdfoaadoor", sum := "137b07ca0cd6c2257f2210a4d710223da7af0d46ac266943d4243ec820e1cac2", func := "loop.example/lib-g01433/laws.FnTrimmed", spec := "fnTrimmed", inPlace := ["internal/bytealg.IndexByte", "internal/bytealg.Index", "internal/reflectlite.TypeOf"], unfollowed := true, recurses := true, named := ["io.EOF", "encoding/csv.errInvalidDelim", "encoding/csv.ErrBareQuote", "encoding/csv.ErrQuote", "encoding/csv.ErrFieldCount", "bufio.ErrBufferFull", "bufio.errNegativeRead", "io.ErrNoProgress", "unicode/utf8.first", "unicode/utf8.acceptRanges", "unicode.White_Space", "internal/bytealg.MaxLen"], apart := false, laid := [("unicode/utf8.acceptRanges", laid_unicode_utf8_acceptRanges), ("io.EOF", laid_io_EOF), ("io.ErrNoProgress", laid_io_ErrNoProgress), ("unicode.White_Space", laid_unicode_White_Space), ("bufio.ErrBufferFull", laid_bufio_ErrBufferFull), ("bufio.errNegativeRead", laid_bufio_errNegativeRead), ("encoding/csv.ErrBareQuote", laid_encoding_csv_ErrBareQuote), ("encoding/csv.ErrQuote", laid_encoding_csv_ErrQuote), ("encoding/csv.ErrFieldCount", laid_encoding_csv_ErrFieldCount), ("encoding/csv.errInvalidDelim", laid_encoding_csv_errInvalidDelim), ("unicode/utf8.first", laid_unicode_utf8_first)], narrowed := true }
def FnTrimmedUptoSaid : Prop := fnTrimmedUptoRow.holds Tryd.pinned (OpenSpec.upto fnTrimmedSpec)

/-- 'laws.FnCut', WHERE WHAT IT READS IS OF BULK AT MOST 1048576: true; the input reads as it did. -/
def fnCutUptoRow : OpenClaim := { program := "ytcdhbfhijkdfoaadoor", sum := "137b07ca0cd6c2257f2210a4d710223da7af0d46ac266943d4243ec820e1cac2", func := "loop.example/lib-g01433/laws.FnCut", spec := "fnCut", inPlace := ["internal/bytealg.IndexByte", "internal/bytealg.Index", "internal/reflectlite.TypeOf"], unfollowed := true, recurses := true, named := ["io.EOF", "encoding/csv.errInvalidDelim", "encoding/csv.ErrBareQuote", "encoding/csv.ErrQuote", "encoding/csv.ErrFieldCount", "bufio.ErrBufferFull", "bufio.errNegativeRead", "io.ErrNoProgress", "unicode/utf8.first", "unicode/utf8.acceptRanges", "unicode.White_Space", "internal/bytealg.MaxLen"], apart := false, laid := [("unicode/utf8.acceptRanges", laid_unicode_utf8_acceptRanges), ("io.EOF", laid_io_EOF), ("io.ErrNoProgress", laid_io_ErrNoProgress), ("unicode.White_Space", laid_unicode_White_Space), ("bufio.ErrBufferFull", laid_bufio_ErrBufferFull), ("bufio.errNegativeRead", laid_bufio_errNegativeRead), ("encoding/csv.ErrBareQuote", laid_encoding_csv_ErrBareQuote), ("encoding/csv.ErrQuote", laid_encoding_csv_ErrQuote), ("encoding/csv.ErrFieldCount", laid_encoding_csv_ErrFieldCount), ("encoding/csv.errInvalidDelim", laid_encoding_csv_errInvalidDelim), ("unicode/utf8.first", laid_unicode_utf8_first)], narrowed := true }
def FnCutUptoSaid : Prop := fnCutUptoRow.holds Tryd.pinned (OpenSpec.upto fnCutSpec)

/-- 'laws.FnWrongOptions', WHERE WHAT IT READS IS OF BULK AT MOST 1048576: true; the input reads as it did. -/
def fnWrongOptionsUptoRow : OpenClaim := { program := "ytcdhbfhijkdfoaadoor", sum := "137b07ca0cd6c2257f2210a4d710223da7af0d46ac266943d4243ec820e1cac2", func := "loop.example/lib-g01433/laws.FnWrongOptions", spec := "fnWrongOptions", inPlace := ["internal/bytealg.IndexByte", "internal/bytealg.Index", "internal/reflectlite.TypeOf"], unfollowed := true, recurses := true, named := ["io.EOF", "encoding/csv.errInvalidDelim", "encoding/csv.ErrBareQuote", "encoding/csv.ErrQuote", "encoding/csv.ErrFieldCount", "bufio.ErrBufferFull", "bufio.errNegativeRead", "io.ErrNoProgress", "unicode/utf8.first", "unicode/utf8.acceptRanges", "unicode.White_Space", "internal/bytealg.MaxLen"], apart := false, laid := [("unicode/utf8.acceptRanges", laid_unicode_utf8_acceptRanges), ("io.EOF", laid_io_EOF), ("io.ErrNoProgress", laid_io_ErrNoProgress), ("unicode.White_Space", laid_unicode_White_Space), ("bufio.ErrBufferFull", laid_bufio_ErrBufferFull), ("bufio.errNegativeRead", laid_bufio_errNegativeRead), ("encoding/csv.ErrBareQuote", laid_encoding_csv_ErrBareQuote), ("encoding/csv.ErrQuote", laid_encoding_csv_ErrQuote), ("encoding/csv.ErrFieldCount", laid_encoding_csv_ErrFieldCount), ("encoding/csv.errInvalidDelim", laid_encoding_csv_errInvalidDelim), ("unicode/utf8.first", laid_unicode_utf8_first)], narrowed := true }
def FnWrongOptionsUptoSaid : Prop := fnWrongOptionsUptoRow.holds Tryd.pinned (OpenSpec.upto fnWrongOptionsSpec)

end Rows
end Go.Proofs.YtcdhbfhijkdfoaaDoor
