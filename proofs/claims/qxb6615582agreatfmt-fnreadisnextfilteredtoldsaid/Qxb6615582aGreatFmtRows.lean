/-
  NARROWER THAN 'FOR EVERY INPUT', by the rows' own cells (each row's printed sentence says how): FnReadMatchesModel: laid · FnNextMatchesModel: laid · FnReadIsNextFiltered: laid · FnFieldErrorfOnReadLines: laid.
  DERIVED. THE GIVEN ROWS OF THIS SEAT. 4 by the template 'for every input the law returns true; each argument reads behind the call as it read before'; 0 by the template 'total and deterministic' (their statements: Qxb6615582aGreatFmtTotals.lean).
  GIVEN WITH THE SEED: the statements are not yours to turn. If you find one false, say at which input.
  Laid BY PROGRAM, IN A SANDBOX (cutbox-rows.mjs): the forced cells as the released guide's own fill.sh prints them over the translation 9ed7ea386d42b484… (all of the seat's roots in one cut). By AI agents, Wed Nov 11 2026. No macro, syntax, notation, axiom, sorry.
-/
import Derived.Test.Qxb6615582aGreatFmtChecked
import GoSem.PinnedTables
import GoSem.Claim
import GoSem.ClaimJoined
import GoSem.ClaimMapViews
import Derived.JoinedTies
import Derived.KernelRfl
namespace Go.Proofs.Qxb6615582aGreatFmt
/- THE CELL 'sum', in the pinned program and in every row, IS THE sha256 OF THE DUMP (.gsa) THAT Qxb6615582aGreatFmtProg.lean LOADS. Nothing in Lean hashes anything: it is a label: what it is worth is what the hold of that sum in a sandbox is worth. -/
noncomputable def Tryz.pinned : Pinned := { name := "qxb6615582agreatfmt", sum := "9ed7ea386d42b484cd36ef56c9e40e74ee7f9397647d344d14aa9615228c1b06", checked := Tryz.checked }
namespace Rows
def none {H : Type} : Left H := { results := [], args := [] }

/- WHAT THE LISTED PACKAGE-LEVEL VARIABLES READ AS WHEN THE CALL BEGINS. Each datum BY PROGRAM (the guide's laid-datum.mjs) off the statement by which the dump's own 'gosem.cut.vars' lays the variable. In a bare row this is a premise. The card (Qxb6615582aGreatFmtCards.lean) ties it to the program's text. -/
def laid_unicode_utf8_acceptRanges {H : Type} : DataW H := .agg [.agg [.lit (.int .u8 128), .lit (.int .u8 191)], .agg [.lit (.int .u8 160), .lit (.int .u8 191)], .agg [.lit (.int .u8 128), .lit (.int .u8 159)], .agg [.lit (.int .u8 144), .lit (.int .u8 191)], .agg [.lit (.int .u8 128), .lit (.int .u8 143)], .agg [.lit (.int .u8 0), .lit (.int .u8 0)], .agg [.lit (.int .u8 0), .lit (.int .u8 0)], .agg [.lit (.int .u8 0), .lit (.int .u8 0)], .agg [.lit (.int .u8 0), .lit (.int .u8 0)], .agg [.lit (.int .u8 0), .lit (.int .u8 0)], .agg [.lit (.int .u8 0), .lit (.int .u8 0)], .agg [.lit (.int .u8 0), .lit (.int .u8 0)], .agg [.lit (.int .u8 0), .lit (.int .u8 0)], .agg [.lit (.int .u8 0), .lit (.int .u8 0)], .agg [.lit (.int .u8 0), .lit (.int .u8 0)], .agg [.lit (.int .u8 0), .lit (.int .u8 0)]]
def laid_errors_errorType {H : Type} : DataW H := .iface "internal/reflectlite.rtype" (.agg [.ptr (.lit (.string [101, 114, 114, 111, 114]))])
def laid_io_EOF {H : Type} : DataW H := .iface "*errors.errorString" (.ptr (.agg [.lit (.string [69, 79, 70])]))
def laid_io_ErrNoProgress {H : Type} : DataW H := .iface "*errors.errorString" (.ptr (.agg [.lit (.string [109, 117, 108, 116, 105, 112, 108, 101, 32, 82, 101, 97, 100, 32, 99, 97, 108, 108, 115, 32, 114, 101, 116, 117, 114, 110, 32, 110, 111, 32, 100, 97, 116, 97, 32, 111, 114, 32, 101, 114, 114, 111, 114])]))
def laid_unicode_White_Space {H : Type} : DataW H := .ptr (.agg [.slice [.agg [.lit (.int .u16 9), .lit (.int .u16 13), .lit (.int .u16 1)], .agg [.lit (.int .u16 32), .lit (.int .u16 133), .lit (.int .u16 101)], .agg [.lit (.int .u16 160), .lit (.int .u16 5760), .lit (.int .u16 5600)], .agg [.lit (.int .u16 8192), .lit (.int .u16 8202), .lit (.int .u16 1)], .agg [.lit (.int .u16 8232), .lit (.int .u16 8233), .lit (.int .u16 1)], .agg [.lit (.int .u16 8239), .lit (.int .u16 8287), .lit (.int .u16 48)], .agg [.lit (.int .u16 12288), .lit (.int .u16 12288), .lit (.int .u16 1)]] [], .nil, .lit (.int .i64 2)])
def laid_bufio_ErrBufferFull {H : Type} : DataW H := .iface "*errors.errorString" (.ptr (.agg [.lit (.string [98, 117, 102, 105, 111, 58, 32, 98, 117, 102, 102, 101, 114, 32, 102, 117, 108, 108])]))
def laid_bufio_errNegativeRead {H : Type} : DataW H := .iface "*errors.errorString" (.ptr (.agg [.lit (.string [98, 117, 102, 105, 111, 58, 32, 114, 101, 97, 100, 101, 114, 32, 114, 101, 116, 117, 114, 110, 101, 100, 32, 110, 101, 103, 97, 116, 105, 118, 101, 32, 99, 111, 117, 110, 116, 32, 102, 114, 111, 109, 32, 82, 101, 97, 100])]))
def laid_encoding_csv_ErrBareQuote {H : Type} : DataW H := .iface "*errors.errorString" (.ptr (.agg [.lit (.string [98, 97, 114, 101, 32, 34, 32, 105, 110, 32, 110, 111, 110, 45, 113, 117, 111, 116, 101, 100, 45, 102, 105, 101, 108, 100])]))
def laid_encoding_csv_ErrQuote {H : Type} : DataW H := .iface "*errors.errorString" (.ptr (.agg [.lit (.string [101, 120, 116, 114, 97, 110, 101, 111, 117, 115, 32, 111, 114, 32, 109, 105, 115, 115, 105, 110, 103, 32, 34, 32, 105, 110, 32, 113, 117, 111, 116, 101, 100, 45, 102, 105, 101, 108, 100])]))
def laid_encoding_csv_ErrFieldCount {H : Type} : DataW H := .iface "*errors.errorString" (.ptr (.agg [.lit (.string [119, 114, 111, 110, 103, 32, 110, 117, 109, 98, 101, 114, 32, 111, 102, 32, 102, 105, 101, 108, 100, 115])]))
def laid_encoding_csv_errInvalidDelim {H : Type} : DataW H := .iface "*errors.errorString" (.ptr (.agg [.lit (.string [99, 115, 118, 58, 32, 105, 110, 118, 97, 108, 105, 100, 32, 102, 105, 101, 108, 100, 32, 111, 114, 32, 99, 111, 109, 109, 101, 110, 116, 32, 100, 101, 108, 105, 109, 105, 116, 101, 114])]))
/-- One of Go's own tables, pinned by name: the form's constant. -/
def laid_unicode_utf8_first : DataW Unit := Go.Pinned.utf8First

/-- 'zzlaws_internal_csvfile_b1.FnReadMatchesModel': WHATEVER THE INPUT: true; the input reads as it did. -/
def fnReadMatchesModelSpec : ChangeSpec := { name := "fnReadMatchesModel", fn := fun _ => fun
  | [d1, d2] => { results := [.lit (.bool true)], args := [d1, d2] }
  | _ => none }
def fnReadMatchesModelRow : OpenClaim := { program := "qxb6615582agreatfmt", sum := "9ed7ea386d42b484cd36ef56c9e40e74ee7f9397647d344d14aa9615228c1b06", func := "example.com/vestgate/vestgate/zzlaws_internal_csvfile_b1.FnReadMatchesModel", spec := "fnReadMatchesModel", stops := ["fmt.Sprintf, its operands' methods called", "fmt.errorf, its operands' methods called"], inPlace := ["internal/bytealg.IndexByte", "internal/bytealg.Index", "internal/reflectlite.ValueOf", "(internal/reflectlite.Value).Type", "(internal/reflectlite.Value).IsNil", "internal/reflectlite.TypeOf", "(internal/reflectlite.Value).Elem", "(internal/reflectlite.Value).Set", "internal/abi.NoEscape", "internal/bytealg.MakeNoZero", "fmt.errorf", "fmt.Sprintf"], unfollowed := true, recurses := true, named := ["io.EOF", "encoding/csv.errInvalidDelim", "encoding/csv.ErrBareQuote", "encoding/csv.ErrQuote", "encoding/csv.ErrFieldCount", "bufio.ErrBufferFull", "bufio.errNegativeRead", "io.ErrNoProgress", "unicode/utf8.first", "unicode/utf8.acceptRanges", "unicode.White_Space", "errors.errorType", "internal/bytealg.MaxLen"], apart := false, laid := [("unicode/utf8.acceptRanges", laid_unicode_utf8_acceptRanges), ("errors.errorType", laid_errors_errorType), ("io.EOF", laid_io_EOF), ("io.ErrNoProgress", laid_io_ErrNoProgress), ("unicode.White_Space", laid_unicode_White_Space), ("bufio.ErrBufferFull", laid_bufio_ErrBufferFull), ("bufio.errNegativeRead", laid_bufio_errNegativeRead), ("encoding/csv.ErrBareQuote", laid_encoding_csv_ErrBareQuote), ("encoding/csv.ErrQuote", laid_encoding_csv_ErrQuote), ("encoding/csv.ErrFieldCount", laid_encoding_csv_ErrFieldCount), ("encoding/csv.errInvalidDelim", laid_encoding_csv_errInvalidDelim), ("unicode/utf8.first", laid_unicode_utf8_first)] }
/-- NO THEOREM (fmt's text is open here; it may be false): for the released tool's asking of the row's closed facts alone. THE STATEMENT IS 'FnReadMatchesModelToldSaid' (Qxb6615582aGreatFmtCards.lean). -/
def FnReadMatchesModelFormAsk : Prop := fnReadMatchesModelRow.holds Tryz.pinned (OpenSpec.ofChange fnReadMatchesModelSpec)

/-- ITS FALSE NEIGHBOUR: 'it returns false'. Refute it at one input. -/
def fnReadMatchesModelWrong : ChangeSpec := { name := "fnReadMatchesModel", fn := fun _ => fun
  | [d1, d2] => { results := [.lit (.bool false)], args := [d1, d2] }
  | _ => none }
def FnReadMatchesModelWrongFormAsk : Prop := fnReadMatchesModelRow.holds Tryz.pinned (OpenSpec.ofChange fnReadMatchesModelWrong)

/-- 'zzlaws_internal_csvfile_b1.FnNextMatchesModel': WHATEVER THE INPUT: true; the input reads as it did. -/
def fnNextMatchesModelSpec : ChangeSpec := { name := "fnNextMatchesModel", fn := fun _ => fun
  | [d1, d2] => { results := [.lit (.bool true)], args := [d1, d2] }
  | _ => none }
def fnNextMatchesModelRow : OpenClaim := { program := "qxb6615582agreatfmt", sum := "9ed7ea386d42b484cd36ef56c9e40e74ee7f9397647d344d14aa9615228c1b06", func := "example.com/vestgate/vestgate/zzlaws_internal_csvfile_b1.FnNextMatchesModel", spec := "fnNextMatchesModel", stops := ["fmt.Sprintf, its operands' methods called", "fmt.errorf, its operands' methods called"], inPlace := ["internal/bytealg.IndexByte", "internal/bytealg.Index", "internal/reflectlite.ValueOf", "(internal/reflectlite.Value).Type", "(internal/reflectlite.Value).IsNil", "internal/reflectlite.TypeOf", "(internal/reflectlite.Value).Elem", "(internal/reflectlite.Value).Set", "internal/abi.NoEscape", "internal/bytealg.MakeNoZero", "fmt.errorf"], unfollowed := true, recurses := true, named := ["io.EOF", "encoding/csv.errInvalidDelim", "encoding/csv.ErrBareQuote", "encoding/csv.ErrQuote", "encoding/csv.ErrFieldCount", "bufio.ErrBufferFull", "bufio.errNegativeRead", "io.ErrNoProgress", "unicode/utf8.first", "unicode/utf8.acceptRanges", "unicode.White_Space", "errors.errorType", "internal/bytealg.MaxLen"], apart := false, laid := [("unicode/utf8.acceptRanges", laid_unicode_utf8_acceptRanges), ("errors.errorType", laid_errors_errorType), ("io.EOF", laid_io_EOF), ("io.ErrNoProgress", laid_io_ErrNoProgress), ("unicode.White_Space", laid_unicode_White_Space), ("bufio.ErrBufferFull", laid_bufio_ErrBufferFull), ("bufio.errNegativeRead", laid_bufio_errNegativeRead), ("encoding/csv.ErrBareQuote", laid_encoding_csv_ErrBareQuote), ("encoding/csv.ErrQuote", laid_encoding_csv_ErrQuote), ("encoding/csv.ErrFieldCount", laid_encoding_csv_ErrFieldCount), ("encoding/csv.errInvalidDelim", laid_encoding_csv_errInvalidDelim), ("unicode/utf8.first", laid_unicode_utf8_first)] }
/-- NO THEOREM (fmt's text is open here; it may be false): for the released tool's asking of the row's closed facts alone. THE STATEMENT IS 'FnNextMatchesModelToldSaid' (Qxb6615582aGreatFmtCards.lean). -/
def FnNextMatchesModelFormAsk : Prop := fnNextMatchesModelRow.holds Tryz.pinned (OpenSpec.ofChange fnNextMatchesModelSpec)

/-- ITS FALSE NEIGHBOUR: 'it returns false'. Refute it at one input. -/
def fnNextMatchesModelWrong : ChangeSpec := { name := "fnNextMatchesModel", fn := fun _ => fun
  | [d1, d2] => { results := [.lit (.bool false)], args := [d1, d2] }
  | _ => none }
def FnNextMatchesModelWrongFormAsk : Prop := fnNextMatchesModelRow.holds Tryz.pinned (OpenSpec.ofChange fnNextMatchesModelWrong)

/-- 'zzlaws_internal_csvfile_b1.FnReadIsNextFiltered': WHATEVER THE INPUT: true; the input reads as it did. -/
def fnReadIsNextFilteredSpec : ChangeSpec := { name := "fnReadIsNextFiltered", fn := fun _ => fun
  | [d1, d2] => { results := [.lit (.bool true)], args := [d1, d2] }
  | _ => none }
def fnReadIsNextFilteredRow : OpenClaim := { program := "qxb6615582agreatfmt", sum := "9ed7ea386d42b484cd36ef56c9e40e74ee7f9397647d344d14aa9615228c1b06", func := "example.com/vestgate/vestgate/zzlaws_internal_csvfile_b1.FnReadIsNextFiltered", spec := "fnReadIsNextFiltered", stops := ["fmt.Sprintf, its operands' methods called", "fmt.errorf, its operands' methods called"], inPlace := ["internal/bytealg.IndexByte", "internal/bytealg.Index", "internal/reflectlite.ValueOf", "(internal/reflectlite.Value).Type", "(internal/reflectlite.Value).IsNil", "internal/reflectlite.TypeOf", "(internal/reflectlite.Value).Elem", "(internal/reflectlite.Value).Set", "internal/abi.NoEscape", "internal/bytealg.MakeNoZero", "fmt.errorf", "fmt.Sprintf"], unfollowed := true, recurses := true, named := ["io.EOF", "encoding/csv.errInvalidDelim", "encoding/csv.ErrBareQuote", "encoding/csv.ErrQuote", "encoding/csv.ErrFieldCount", "bufio.ErrBufferFull", "bufio.errNegativeRead", "io.ErrNoProgress", "unicode/utf8.first", "unicode/utf8.acceptRanges", "unicode.White_Space", "errors.errorType", "internal/bytealg.MaxLen"], apart := false, laid := [("unicode/utf8.acceptRanges", laid_unicode_utf8_acceptRanges), ("errors.errorType", laid_errors_errorType), ("io.EOF", laid_io_EOF), ("io.ErrNoProgress", laid_io_ErrNoProgress), ("unicode.White_Space", laid_unicode_White_Space), ("bufio.ErrBufferFull", laid_bufio_ErrBufferFull), ("bufio.errNegativeRead", laid_bufio_errNegativeRead), ("encoding/csv.ErrBareQuote", laid_encoding_csv_ErrBareQuote), ("encoding/csv.ErrQuote", laid_encoding_csv_ErrQuote), ("encoding/csv.ErrFieldCount", laid_encoding_csv_ErrFieldCount), ("encoding/csv.errInvalidDelim", laid_encoding_csv_errInvalidDelim), ("unicode/utf8.first", laid_unicode_utf8_first)] }
/-- NO THEOREM (fmt's text is open here; it may be false): for the released tool's asking of the row's closed facts alone. THE STATEMENT IS 'FnReadIsNextFilteredToldSaid' (Qxb6615582aGreatFmtCards.lean). -/
def FnReadIsNextFilteredFormAsk : Prop := fnReadIsNextFilteredRow.holds Tryz.pinned (OpenSpec.ofChange fnReadIsNextFilteredSpec)

/-- ITS FALSE NEIGHBOUR: 'it returns false'. Refute it at one input. -/
def fnReadIsNextFilteredWrong : ChangeSpec := { name := "fnReadIsNextFiltered", fn := fun _ => fun
  | [d1, d2] => { results := [.lit (.bool false)], args := [d1, d2] }
  | _ => none }
def FnReadIsNextFilteredWrongFormAsk : Prop := fnReadIsNextFilteredRow.holds Tryz.pinned (OpenSpec.ofChange fnReadIsNextFilteredWrong)

/-- 'zzlaws_internal_csvfile_b1.FnFieldErrorfOnReadLines': WHATEVER THE INPUT: true; the input reads as it did. -/
def fnFieldErrorfOnReadLinesSpec : ChangeSpec := { name := "fnFieldErrorfOnReadLines", fn := fun _ => fun
  | [d1, d2, d3, d4] => { results := [.lit (.bool true)], args := [d1, d2, d3, d4] }
  | _ => none }
def fnFieldErrorfOnReadLinesRow : OpenClaim := { program := "qxb6615582agreatfmt", sum := "9ed7ea386d42b484cd36ef56c9e40e74ee7f9397647d344d14aa9615228c1b06", func := "example.com/vestgate/vestgate/zzlaws_internal_csvfile_b1.FnFieldErrorfOnReadLines", spec := "fnFieldErrorfOnReadLines", stops := ["fmt.Sprintf, its operands' methods called", "fmt.errorf, its operands' methods called"], inPlace := ["internal/bytealg.IndexByte", "internal/bytealg.Index", "internal/reflectlite.ValueOf", "(internal/reflectlite.Value).Type", "(internal/reflectlite.Value).IsNil", "internal/reflectlite.TypeOf", "(internal/reflectlite.Value).Elem", "(internal/reflectlite.Value).Set", "internal/abi.NoEscape", "internal/bytealg.MakeNoZero", "fmt.errorf", "fmt.Sprintf"], unfollowed := true, recurses := true, named := ["io.EOF", "encoding/csv.errInvalidDelim", "encoding/csv.ErrBareQuote", "encoding/csv.ErrQuote", "encoding/csv.ErrFieldCount", "bufio.ErrBufferFull", "bufio.errNegativeRead", "io.ErrNoProgress", "unicode/utf8.first", "unicode/utf8.acceptRanges", "unicode.White_Space", "errors.errorType", "internal/bytealg.MaxLen"], apart := false, laid := [("unicode/utf8.acceptRanges", laid_unicode_utf8_acceptRanges), ("errors.errorType", laid_errors_errorType), ("io.EOF", laid_io_EOF), ("io.ErrNoProgress", laid_io_ErrNoProgress), ("unicode.White_Space", laid_unicode_White_Space), ("bufio.ErrBufferFull", laid_bufio_ErrBufferFull), ("bufio.errNegativeRead", laid_bufio_errNegativeRead), ("encoding/csv.ErrBareQuote", laid_encoding_csv_ErrBareQuote), ("encoding/csv.ErrQuote", laid_encoding_csv_ErrQuote), ("encoding/csv.ErrFieldCount", laid_encoding_csv_ErrFieldCount), ("encoding/csv.errInvalidDelim", laid_encoding_csv_errInvalidDelim), ("unicode/utf8.first", laid_unicode_utf8_first)] }
/-- NO THEOREM (fmt's text is open here; it may be false): for the released tool's asking of the row's closed facts alone. THE STATEMENT IS 'FnFieldErrorfOnReadLinesToldSaid' (Qxb6615582aGreatFmtCards.lean). -/
def FnFieldErrorfOnReadLinesFormAsk : Prop := fnFieldErrorfOnReadLinesRow.holds Tryz.pinned (OpenSpec.ofChange fnFieldErrorfOnReadLinesSpec)

/-- ITS FALSE NEIGHBOUR: 'it returns false'. Refute it at one input. -/
def fnFieldErrorfOnReadLinesWrong : ChangeSpec := { name := "fnFieldErrorfOnReadLines", fn := fun _ => fun
  | [d1, d2, d3, d4] => { results := [.lit (.bool false)], args := [d1, d2, d3, d4] }
  | _ => none }
def FnFieldErrorfOnReadLinesWrongFormAsk : Prop := fnFieldErrorfOnReadLinesRow.holds Tryz.pinned (OpenSpec.ofChange fnFieldErrorfOnReadLinesWrong)

end Rows
end Go.Proofs.Qxb6615582aGreatFmt
