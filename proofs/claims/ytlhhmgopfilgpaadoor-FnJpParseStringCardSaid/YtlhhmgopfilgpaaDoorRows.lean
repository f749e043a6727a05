/-
  NARROWER THAN 'FOR EVERY INPUT', by the rows' own cells (each row's printed sentence says how): FnJrParseInt: laid · FnGjQuote: laid · FnMtBehind: laid · FnJpParseString: laid · FnMtLimit: laid.
  DERIVED. THE GIVEN ROWS OF THIS SEAT. 5 by the template 'for every input the law returns true; each argument reads behind the call as it read before'; 0 by the template 'total and deterministic' (their statements: YtlhhmgopfilgpaaDoorTotals.lean).
  GIVEN WITH THE SEED: the statements are not yours to turn. If you find one false, say at which input.
  Laid BY PROGRAM, IN A SANDBOX (cutbox-rows.mjs): the forced cells as the released guide's own fill.sh prints them over the translation 85c519b7796cdbdc… (all of the seat's roots in one cut). By AI agents, Wed Nov 11 2026. No macro, syntax, notation, axiom, sorry.
-/
import Derived.Test.YtlhhmgopfilgpaaDoorChecked
import GoSem.PinnedTables
import GoSem.Claim
import GoSem.ClaimJoined
import GoSem.ClaimMapViews
import Derived.JoinedTies
import Derived.KernelRfl
namespace Go.Proofs.YtlhhmgopfilgpaaDoor
/- THE CELL 'sum', in the pinned program and in every row, IS THE sha256 OF THE DUMP (.gsa) THAT YtlhhmgopfilgpaaDoorProg.lean LOADS. Nothing in Lean hashes anything: it is a label: what it is worth is what the hold of that sum in a sandbox is worth. -/
noncomputable def Tryd.pinned : Pinned := { name := "ytlhhmgopfilgpaadoor", sum := "85c519b7796cdbdce3b12b76ecf0bbed8fca9745c7e2e0ebfc79342c8e181998", checked := Tryd.checked }
namespace Rows
def none {H : Type} : Left H := { results := [], args := [] }

/- WHAT THE LISTED PACKAGE-LEVEL VARIABLES READ AS WHEN THE CALL BEGINS. Each datum BY PROGRAM (the guide's laid-datum.mjs) off the statement by which the dump's own 'gosem.cut.vars' lays the variable. In a bare row this is a premise. The card (YtlhhmgopfilgpaaDoorCards.lean) ties it to the program's text. -/
def laid_pub_tetrapla_pub_jsonparser_KeyPathNotFoundError {H : Type} : DataW H := .iface "*errors.errorString" (.ptr (.agg [.lit (.string [75, 101, 121, 32, 112, 97, 116, 104, 32, 110, 111, 116, 32, 102, 111, 117, 110, 100])]))
def laid_pub_tetrapla_pub_jsonparser_UnknownValueTypeError {H : Type} : DataW H := .iface "*errors.errorString" (.ptr (.agg [.lit (.string [85, 110, 107, 110, 111, 119, 110, 32, 118, 97, 108, 117, 101, 32, 116, 121, 112, 101])]))
def laid_pub_tetrapla_pub_jsonparser_MalformedJsonError {H : Type} : DataW H := .iface "*errors.errorString" (.ptr (.agg [.lit (.string [77, 97, 108, 102, 111, 114, 109, 101, 100, 32, 74, 83, 79, 78, 32, 101, 114, 114, 111, 114])]))
def laid_pub_tetrapla_pub_jsonparser_MalformedStringError {H : Type} : DataW H := .iface "*errors.errorString" (.ptr (.agg [.lit (.string [86, 97, 108, 117, 101, 32, 105, 115, 32, 115, 116, 114, 105, 110, 103, 44, 32, 98, 117, 116, 32, 99, 97, 110, 39, 116, 32, 102, 105, 110, 100, 32, 99, 108, 111, 115, 105, 110, 103, 32, 39, 34, 39, 32, 115, 121, 109, 98, 111, 108])]))
def laid_pub_tetrapla_pub_jsonparser_MalformedArrayError {H : Type} : DataW H := .iface "*errors.errorString" (.ptr (.agg [.lit (.string [86, 97, 108, 117, 101, 32, 105, 115, 32, 97, 114, 114, 97, 121, 44, 32, 98, 117, 116, 32, 99, 97, 110, 39, 116, 32, 102, 105, 110, 100, 32, 99, 108, 111, 115, 105, 110, 103, 32, 39, 93, 39, 32, 115, 121, 109, 98, 111, 108])]))
def laid_pub_tetrapla_pub_jsonparser_MalformedObjectError {H : Type} : DataW H := .iface "*errors.errorString" (.ptr (.agg [.lit (.string [86, 97, 108, 117, 101, 32, 108, 111, 111, 107, 115, 32, 108, 105, 107, 101, 32, 111, 98, 106, 101, 99, 116, 44, 32, 98, 117, 116, 32, 99, 97, 110, 39, 116, 32, 102, 105, 110, 100, 32, 99, 108, 111, 115, 105, 110, 103, 32, 39, 125, 39, 32, 115, 121, 109, 98, 111, 108])]))
def laid_pub_tetrapla_pub_jsonparser_MalformedValueError {H : Type} : DataW H := .iface "*errors.errorString" (.ptr (.agg [.lit (.string [86, 97, 108, 117, 101, 32, 108, 111, 111, 107, 115, 32, 108, 105, 107, 101, 32, 78, 117, 109, 98, 101, 114, 47, 66, 111, 111, 108, 101, 97, 110, 47, 78, 111, 110, 101, 44, 32, 98, 117, 116, 32, 99, 97, 110, 39, 116, 32, 102, 105, 110, 100, 32, 105, 116, 115, 32, 101, 110, 100, 58, 32, 39, 44, 39, 32, 111, 114, 32, 39, 125, 39, 32, 115, 121, 109, 98, 111, 108])]))
def laid_pub_tetrapla_pub_jsonparser_OverflowIntegerError {H : Type} : DataW H := .iface "*errors.errorString" (.ptr (.agg [.lit (.string [86, 97, 108, 117, 101, 32, 105, 115, 32, 110, 117, 109, 98, 101, 114, 44, 32, 98, 117, 116, 32, 111, 118, 101, 114, 102, 108, 111, 119, 101, 100, 32, 119, 104, 105, 108, 101, 32, 112, 97, 114, 115, 105, 110, 103])]))
def laid_pub_tetrapla_pub_jsonparser_MalformedStringEscapeError {H : Type} : DataW H := .iface "*errors.errorString" (.ptr (.agg [.lit (.string [69, 110, 99, 111, 117, 110, 116, 101, 114, 101, 100, 32, 97, 110, 32, 105, 110, 118, 97, 108, 105, 100, 32, 101, 115, 99, 97, 112, 101, 32, 115, 101, 113, 117, 101, 110, 99, 101, 32, 105, 110, 32, 97, 32, 115, 116, 114, 105, 110, 103])]))
def laid_pub_tetrapla_pub_jsonparser_NullValueError {H : Type} : DataW H := .iface "*errors.errorString" (.ptr (.agg [.lit (.string [86, 97, 108, 117, 101, 32, 105, 115, 32, 110, 117, 108, 108])]))
def laid_unicode_utf8_acceptRanges {H : Type} : DataW H := .agg [.agg [.lit (.int .u8 128), .lit (.int .u8 191)], .agg [.lit (.int .u8 160), .lit (.int .u8 191)], .agg [.lit (.int .u8 128), .lit (.int .u8 159)], .agg [.lit (.int .u8 144), .lit (.int .u8 191)], .agg [.lit (.int .u8 128), .lit (.int .u8 143)], .agg [.lit (.int .u8 0), .lit (.int .u8 0)], .agg [.lit (.int .u8 0), .lit (.int .u8 0)], .agg [.lit (.int .u8 0), .lit (.int .u8 0)], .agg [.lit (.int .u8 0), .lit (.int .u8 0)], .agg [.lit (.int .u8 0), .lit (.int .u8 0)], .agg [.lit (.int .u8 0), .lit (.int .u8 0)], .agg [.lit (.int .u8 0), .lit (.int .u8 0)], .agg [.lit (.int .u8 0), .lit (.int .u8 0)], .agg [.lit (.int .u8 0), .lit (.int .u8 0)], .agg [.lit (.int .u8 0), .lit (.int .u8 0)], .agg [.lit (.int .u8 0), .lit (.int .u8 0)]]
def laid_pub_tetrapla_pub_gjson_hexchars {H : Type} : DataW H := .agg [.lit (.int .u8 48), .lit (.int .u8 49), .lit (.int .u8 50), .lit (.int .u8 51), .lit (.int .u8 52), .lit (.int .u8 53), .lit (.int .u8 54), .lit (.int .u8 55), .lit (.int .u8 56), .lit (.int .u8 57), .lit (.int .u8 97), .lit (.int .u8 98), .lit (.int .u8 99), .lit (.int .u8 100), .lit (.int .u8 101), .lit (.int .u8 102)]
/-- One of Go's own tables, pinned by name: the form's constant. -/
def laid_unicode_utf8_first : DataW Unit := Go.Pinned.utf8First
def laid_pub_tetrapla_pub_jsonparser_DefaultConfig {H : Type} : DataW H := .agg [.lit (.bool false), .lit (.bool false), .lit (.int .i64 0)]
def laid_pub_tetrapla_pub_jsonparser_backslashCharEscapeTable {H : Type} : DataW H := .agg [.lit (.int .u8 0), .lit (.int .u8 0), .lit (.int .u8 0), .lit (.int .u8 0), .lit (.int .u8 0), .lit (.int .u8 0), .lit (.int .u8 0), .lit (.int .u8 0), .lit (.int .u8 0), .lit (.int .u8 0), .lit (.int .u8 0), .lit (.int .u8 0), .lit (.int .u8 0), .lit (.int .u8 0), .lit (.int .u8 0), .lit (.int .u8 0), .lit (.int .u8 0), .lit (.int .u8 0), .lit (.int .u8 0), .lit (.int .u8 0), .lit (.int .u8 0), .lit (.int .u8 0), .lit (.int .u8 0), .lit (.int .u8 0), .lit (.int .u8 0), .lit (.int .u8 0), .lit (.int .u8 0), .lit (.int .u8 0), .lit (.int .u8 0), .lit (.int .u8 0), .lit (.int .u8 0), .lit (.int .u8 0), .lit (.int .u8 0), .lit (.int .u8 0), .lit (.int .u8 34), .lit (.int .u8 0), .lit (.int .u8 0), .lit (.int .u8 0), .lit (.int .u8 0), .lit (.int .u8 0), .lit (.int .u8 0), .lit (.int .u8 0), .lit (.int .u8 0), .lit (.int .u8 0), .lit (.int .u8 0), .lit (.int .u8 0), .lit (.int .u8 0), .lit (.int .u8 47), .lit (.int .u8 0), .lit (.int .u8 0), .lit (.int .u8 0), .lit (.int .u8 0), .lit (.int .u8 0), .lit (.int .u8 0), .lit (.int .u8 0), .lit (.int .u8 0), .lit (.int .u8 0), .lit (.int .u8 0), .lit (.int .u8 0), .lit (.int .u8 0), .lit (.int .u8 0), .lit (.int .u8 0), .lit (.int .u8 0), .lit (.int .u8 0), .lit (.int .u8 0), .lit (.int .u8 0), .lit (.int .u8 0), .lit (.int .u8 0), .lit (.int .u8 0), .lit (.int .u8 0), .lit (.int .u8 0), .lit (.int .u8 0), .lit (.int .u8 0), .lit (.int .u8 0), .lit (.int .u8 0), .lit (.int .u8 0), .lit (.int .u8 0), .lit (.int .u8 0), .lit (.int .u8 0), .lit (.int .u8 0), .lit (.int .u8 0), .lit (.int .u8 0), .lit (.int .u8 0), .lit (.int .u8 0), .lit (.int .u8 0), .lit (.int .u8 0), .lit (.int .u8 0), .lit (.int .u8 0), .lit (.int .u8 0), .lit (.int .u8 0), .lit (.int .u8 0), .lit (.int .u8 0), .lit (.int .u8 92), .lit (.int .u8 0), .lit (.int .u8 0), .lit (.int .u8 0), .lit (.int .u8 0), .lit (.int .u8 0), .lit (.int .u8 8), .lit (.int .u8 0), .lit (.int .u8 0), .lit (.int .u8 0), .lit (.int .u8 12), .lit (.int .u8 0), .lit (.int .u8 0), .lit (.int .u8 0), .lit (.int .u8 0), .lit (.int .u8 0), .lit (.int .u8 0), .lit (.int .u8 0), .lit (.int .u8 10), .lit (.int .u8 0), .lit (.int .u8 0), .lit (.int .u8 0), .lit (.int .u8 13), .lit (.int .u8 0), .lit (.int .u8 9)]

/-- 'laws.FnJrParseInt': WHATEVER THE INPUT: true; the input reads as it did. -/
def fnJrParseIntSpec : ChangeSpec := { name := "fnJrParseInt", fn := fun _ => fun
  | [d] => { results := [.lit (.bool true)], args := [d] }
  | _ => none }
def fnJrParseIntRow : OpenClaim := { program := "ytlhhmgopfilgpaadoor", sum := "85c519b7796cdbdce3b12b76ecf0bbed8fca9745c7e2e0ebfc79342c8e181998", func := "pub-tetrapla/laws.FnJrParseInt", spec := "fnJrParseInt", named := ["pub-tetrapla/pub/jsonparser.OverflowIntegerError", "pub-tetrapla/pub/jsonparser.MalformedValueError", "pub-tetrapla/pub/jsonparser.KeyPathNotFoundError", "pub-tetrapla/pub/jsonparser.UnknownValueTypeError", "pub-tetrapla/pub/jsonparser.MalformedJsonError", "pub-tetrapla/pub/jsonparser.MalformedStringError", "pub-tetrapla/pub/jsonparser.MalformedArrayError", "pub-tetrapla/pub/jsonparser.MalformedObjectError", "pub-tetrapla/pub/jsonparser.MalformedStringEscapeError", "pub-tetrapla/pub/jsonparser.NullValueError"], apart := false, laid := [("pub-tetrapla/pub/jsonparser.KeyPathNotFoundError", laid_pub_tetrapla_pub_jsonparser_KeyPathNotFoundError), ("pub-tetrapla/pub/jsonparser.UnknownValueTypeError", laid_pub_tetrapla_pub_jsonparser_UnknownValueTypeError), ("pub-tetrapla/pub/jsonparser.MalformedJsonError", laid_pub_tetrapla_pub_jsonparser_MalformedJsonError), ("pub-tetrapla/pub/jsonparser.MalformedStringError", laid_pub_tetrapla_pub_jsonparser_MalformedStringError), ("pub-tetrapla/pub/jsonparser.MalformedArrayError", laid_pub_tetrapla_pub_jsonparser_MalformedArrayError), ("pub-tetrapla/pub/jsonparser.MalformedObjectError", laid_pub_tetrapla_pub_jsonparser_MalformedObjectError), ("pub-tetrapla/pub/jsonparser.MalformedValueError", laid_pub_tetrapla_pub_jsonparser_MalformedValueError), ("pub-tetrapla/pub/jsonparser.OverflowIntegerError", laid_pub_tetrapla_pub_jsonparser_OverflowIntegerError), ("pub-tetrapla/pub/jsonparser.MalformedStringEscapeError", laid_pub_tetrapla_pub_jsonparser_MalformedStringEscapeError), ("pub-tetrapla/pub/jsonparser.NullValueError", laid_pub_tetrapla_pub_jsonparser_NullValueError)] }
def FnJrParseIntSaid : Prop := fnJrParseIntRow.holds Tryd.pinned (OpenSpec.ofChange fnJrParseIntSpec)

/-- ITS FALSE NEIGHBOUR: 'it returns false'. Refute it at one input. -/
def fnJrParseIntWrong : ChangeSpec := { name := "fnJrParseInt", fn := fun _ => fun
  | [d] => { results := [.lit (.bool false)], args := [d] }
  | _ => none }
def FnJrParseIntWrongFalsely : Prop := fnJrParseIntRow.holds Tryd.pinned (OpenSpec.ofChange fnJrParseIntWrong)

/-- 'laws.FnGjQuote': WHATEVER THE INPUT: true; the input reads as it did. -/
def fnGjQuoteSpec : ChangeSpec := { name := "fnGjQuote", fn := fun _ => fun
  | [d] => { results := [.lit (.bool true)], args := [d] }
  | _ => none }
def fnGjQuoteRow : OpenClaim := { program := "ytlhhmgopfilgpaadoor", sum := "85c519b7796cdbdce3b12b76ecf0bbed8fca9745c7e2e0ebfc79342c8e181998", func := "pub-tetrapla/laws.FnGjQuote", spec := "fnGjQuote", recurses := true, named := ["pub-tetrapla/pub/gjson.hexchars", "unicode/utf8.first", "unicode/utf8.acceptRanges"], apart := false, laid := [("unicode/utf8.acceptRanges", laid_unicode_utf8_acceptRanges), ("pub-tetrapla/pub/gjson.hexchars", laid_pub_tetrapla_pub_gjson_hexchars), ("unicode/utf8.first", laid_unicode_utf8_first)] }
def FnGjQuoteSaid : Prop := fnGjQuoteRow.holds Tryd.pinned (OpenSpec.ofChange fnGjQuoteSpec)

/-- ITS FALSE NEIGHBOUR: 'it returns false'. Refute it at one input. -/
def fnGjQuoteWrong : ChangeSpec := { name := "fnGjQuote", fn := fun _ => fun
  | [d] => { results := [.lit (.bool false)], args := [d] }
  | _ => none }
def FnGjQuoteWrongFalsely : Prop := fnGjQuoteRow.holds Tryd.pinned (OpenSpec.ofChange fnGjQuoteWrong)

/-- 'laws.FnMtBehind': WHATEVER THE INPUT: true; the input reads as it did. -/
def fnMtBehindSpec : ChangeSpec := { name := "fnMtBehind", fn := fun _ => fun
  | [d1, d2] => { results := [.lit (.bool true)], args := [d1, d2] }
  | _ => none }
def fnMtBehindRow : OpenClaim := { program := "ytlhhmgopfilgpaadoor", sum := "85c519b7796cdbdce3b12b76ecf0bbed8fca9745c7e2e0ebfc79342c8e181998", func := "pub-tetrapla/laws.FnMtBehind", spec := "fnMtBehind", recurses := true, named := ["unicode/utf8.first", "unicode/utf8.acceptRanges"], apart := false, laid := [("unicode/utf8.acceptRanges", laid_unicode_utf8_acceptRanges), ("unicode/utf8.first", laid_unicode_utf8_first)] }
def FnMtBehindSaid : Prop := fnMtBehindRow.holds Tryd.pinned (OpenSpec.ofChange fnMtBehindSpec)

/-- ITS FALSE NEIGHBOUR: 'it returns false'. Refute it at one input. -/
def fnMtBehindWrong : ChangeSpec := { name := "fnMtBehind", fn := fun _ => fun
  | [d1, d2] => { results := [.lit (.bool false)], args := [d1, d2] }
  | _ => none }
def FnMtBehindWrongFalsely : Prop := fnMtBehindRow.holds Tryd.pinned (OpenSpec.ofChange fnMtBehindWrong)

/-- 'laws.FnJpParseString': WHATEVER THE INPUT: true; the input reads as it did. -/
def fnJpParseStringSpec : ChangeSpec := { name := "fnJpParseString", fn := fun _ => fun
  | [d] => { results := [.lit (.bool true)], args := [d] }
  | _ => none }
def fnJpParseStringRow : OpenClaim := { program := "ytlhhmgopfilgpaadoor", sum := "85c519b7796cdbdce3b12b76ecf0bbed8fca9745c7e2e0ebfc79342c8e181998", func := "pub-tetrapla/laws.FnJpParseString", spec := "fnJpParseString", inPlace := ["internal/bytealg.IndexByte"], named := ["pub-tetrapla/pub/jsonparser.MalformedValueError", "pub-tetrapla/pub/jsonparser.DefaultConfig", "pub-tetrapla/pub/jsonparser.MalformedStringEscapeError", "pub-tetrapla/pub/jsonparser.backslashCharEscapeTable"], apart := false, laid := [("pub-tetrapla/pub/jsonparser.DefaultConfig", laid_pub_tetrapla_pub_jsonparser_DefaultConfig), ("pub-tetrapla/pub/jsonparser.backslashCharEscapeTable", laid_pub_tetrapla_pub_jsonparser_backslashCharEscapeTable), ("pub-tetrapla/pub/jsonparser.MalformedValueError", laid_pub_tetrapla_pub_jsonparser_MalformedValueError), ("pub-tetrapla/pub/jsonparser.MalformedStringEscapeError", laid_pub_tetrapla_pub_jsonparser_MalformedStringEscapeError)] }
def FnJpParseStringSaid : Prop := fnJpParseStringRow.holds Tryd.pinned (OpenSpec.ofChange fnJpParseStringSpec)

/-- ITS FALSE NEIGHBOUR: 'it returns false'. Refute it at one input. -/
def fnJpParseStringWrong : ChangeSpec := { name := "fnJpParseString", fn := fun _ => fun
  | [d] => { results := [.lit (.bool false)], args := [d] }
  | _ => none }
def FnJpParseStringWrongFalsely : Prop := fnJpParseStringRow.holds Tryd.pinned (OpenSpec.ofChange fnJpParseStringWrong)

/-- 'laws.FnMtLimit': WHATEVER THE INPUT: true; the input reads as it did. -/
def fnMtLimitSpec : ChangeSpec := { name := "fnMtLimit", fn := fun _ => fun
  | [d1, d2, d3] => { results := [.lit (.bool true)], args := [d1, d2, d3] }
  | _ => none }
def fnMtLimitRow : OpenClaim := { program := "ytlhhmgopfilgpaadoor", sum := "85c519b7796cdbdce3b12b76ecf0bbed8fca9745c7e2e0ebfc79342c8e181998", func := "pub-tetrapla/laws.FnMtLimit", spec := "fnMtLimit", recurses := true, named := ["unicode/utf8.first", "unicode/utf8.acceptRanges"], apart := false, laid := [("unicode/utf8.acceptRanges", laid_unicode_utf8_acceptRanges), ("unicode/utf8.first", laid_unicode_utf8_first)] }
def FnMtLimitSaid : Prop := fnMtLimitRow.holds Tryd.pinned (OpenSpec.ofChange fnMtLimitSpec)

/-- ITS FALSE NEIGHBOUR: 'it returns false'. Refute it at one input. -/
def fnMtLimitWrong : ChangeSpec := { name := "fnMtLimit", fn := fun _ => fun
  | [d1, d2, d3] => { results := [.lit (.bool false)], args := [d1, d2, d3] }
  | _ => none }
def FnMtLimitWrongFalsely : Prop := fnMtLimitRow.holds Tryd.pinned (OpenSpec.ofChange fnMtLimitWrong)

/- THE SECOND FORM. 'bulk': how many values and letters a reading holds, each counted each time it is reached (what is shared counts as often as it is met; a slice's spare places count too). A statement '..UptoSaid' is the law's where the arguments, and the package variables that the reading takes, are together of bulk at most 1048576: NARROWER than '..Said'. Prove '..Said' where nothing that the law and all that it calls make is longer than what came in: it says more and counts as full. Else prove '..UptoSaid'. A law counts once. -/
mutual
def uptoBulk {H : Type} : DataW H → Nat
  | .lit (.string bytes) => bytes.length + 1
  | .lit _ => 1
  | .nil => 1
  | .ptr d => uptoBulk d + 1
  | .slice elems spare => uptoBulkAll elems + uptoBulkAll spare + 1
  | .agg parts => uptoBulkAll parts + 1
  | .iface _ d => uptoBulk d + 1
  | .map entries => uptoBulkEntries entries + 1
  | .held _ => 1
def uptoBulkAll {H : Type} : List (DataW H) → Nat
  | [] => 0
  | d :: r => uptoBulk d + uptoBulkAll r
def uptoBulkEntries {H : Type} : List (Lit × DataW H) → Nat
  | [] => 0
  | x :: r => uptoBulkEntry x + uptoBulkEntries r
def uptoBulkEntry {H : Type} : Lit × DataW H → Nat
  | (.string bytes, d) => bytes.length + uptoBulk d + 1
  | (_, d) => uptoBulk d + 1
 end
def uptoSmall : (H : Type) → List (DataW H) → Bool := fun _ ds => decide (uptoBulkAll ds ≤ 1048576)
def OpenSpec.upto (s : _root_.Go.ChangeSpec) : _root_.Go.OpenSpec := { _root_.Go.OpenSpec.ofChange s with cond := some uptoSmall }

/-- 'laws.FnJrParseInt', WHERE WHAT IT READS IS OF BULK AT MOST 1048576: true; the input reads as it did. -/
def fnJrParseIntUptoRow : OpenClaim := { program := "ytlhhmgopfilgpaadoor", sum := "85c519b7796cdbdce3b12b76ecf0bbed8fca9745c7e2e0ebfc79342c8e181998", func := "pub-tetrapla/laws.FnJrParseInt", spec := "fnJrParseInt", named := ["pub-tetrapla/pub/jsonparser.OverflowIntegerError", "pub-tetrapla/pub/jsonparser.MalformedValueError", "pub-tetrapla/pub/jsonparser.KeyPathNotFoundError", "pub-tetrapla/pub/jsonparser.UnknownValueTypeError", "pub-tetrapla/pub/jsonparser.MalformedJsonError", "pub-tetrapla/pub/jsonparser.MalformedStringError", "pub-tetrapla/pub/jsonparser.MalformedArrayError", "pub-tetrapla/pub/jsonparser.MalformedObjectError", "pub-tetrapla/pub/jsonparser.MalformedStringEscapeError", "pub-tetrapla/pub/jsonparser.NullValueError"], apart := false, laid := [("pub-tetrapla/pub/jsonparser.KeyPathNotFoundError", laid_pub_tetrapla_pub_jsonparser_KeyPathNotFoundError), ("pub-tetrapla/pub/jsonparser.UnknownValueTypeError", laid_pub_tetrapla_pub_jsonparser_UnknownValueTypeError), ("pub-tetrapla/pub/jsonparser.MalformedJsonError", laid_pub_tetrapla_pub_jsonparser_MalformedJsonError), ("pub-tetrapla/pub/jsonparser.MalformedStringError", laid_pub_tetrapla_pub_jsonparser_MalformedStringError), ("pub-tetrapla/pub/jsonparser.MalformedArrayError", laid_pub_tetrapla_pub_jsonparser_MalformedArrayError), ("pub-tetrapla/pub/jsonparser.MalformedObjectError", laid_pub_tetrapla_pub_jsonparser_MalformedObjectError), ("pub-tetrapla/pub/jsonparser.MalformedValueError", laid_pub_tetrapla_pub_jsonparser_MalformedValueError), ("pub-tetrapla/pub/jsonparser.OverflowIntegerError", laid_pub_tetrapla_pub_jsonparser_OverflowIntegerError), ("pub-tetrapla/pub/jsonparser.MalformedStringEscapeError", laid_pub_tetrapla_pub_jsonparser_MalformedStringEscapeError), ("pub-tetrapla/pub/jsonparser.NullValueError", laid_pub_tetrapla_pub_jsonparser_NullValueError)], narrowed := true }
def FnJrParseIntUptoSaid : Prop := fnJrParseIntUptoRow.holds Tryd.pinned (OpenSpec.upto fnJrParseIntSpec)

/-- 'laws.FnGjQuote', WHERE WHAT IT READS IS OF BULK AT MOST 1048576: true; the input reads as it did. -/
def fnGjQuoteUptoRow : OpenClaim := { program := "ytlhhmgopfilgpaadoor", sum := "85c519b7796cdbdce3b12b76ecf0bbed8fca9745c7e2e0ebfc79342c8e181998", func := "pub-tetrapla/laws.FnGjQuote", spec := "fnGjQuote", recurses := true, named := ["pub-tetrapla/pub/gjson.hexchars", "unicode/utf8.first", "unicode/utf8.acceptRanges"], apart := false, laid := [("unicode/utf8.acceptRanges", laid_unicode_utf8_acceptRanges), ("pub-tetrapla/pub/gjson.hexchars", laid_pub_tetrapla_pub_gjson_hexchars), ("unicode/utf8.first", laid_unicode_utf8_first)], narrowed := true }
def FnGjQuoteUptoSaid : Prop := fnGjQuoteUptoRow.holds Tryd.pinned (OpenSpec.upto fnGjQuoteSpec)

/-- 'laws.FnMtBehind', WHERE WHAT IT READS IS OF BULK AT MOST 1048576: true; the input reads as it did. -/
def fnMtBehindUptoRow : OpenClaim := { program := "ytlhhmgopfilgpaadoor", sum := "85c519b7796cdbdce3b12b76ecf0bbed8fca9745c7e2e0ebfc79342c8e181998", func := "pub-tetrapla/laws.FnMtBehind", spec := "fnMtBehind", recurses := true, named := ["unicode/utf8.first", "unicode/utf8.acceptRanges"], apart := false, laid := [("unicode/utf8.acceptRanges", laid_unicode_utf8_acceptRanges), ("unicode/utf8.first", laid_unicode_utf8_first)], narrowed := true }
def FnMtBehindUptoSaid : Prop := fnMtBehindUptoRow.holds Tryd.pinned (OpenSpec.upto fnMtBehindSpec)

/-- 'laws.FnJpParseString', WHERE WHAT IT READS IS OF BULK AT MOST 1048576: true; the input reads as it did. -/
def fnJpParseStringUptoRow : OpenClaim := { program := "ytlhhmgopfilgpaadoor", sum := "85c519b7796cdbdce3b12b76ecf0bbed8fca9745c7e2e0ebfc79342c8e181998", func := "pub-tetrapla/laws.FnJpParseString", spec := "fnJpParseString", inPlace := ["internal/bytealg.IndexByte"], named := ["pub-tetrapla/pub/jsonparser.MalformedValueError", "pub-tetrapla/pub/jsonparser.DefaultConfig", "pub-tetrapla/pub/jsonparser.MalformedStringEscapeError", "pub-tetrapla/pub/jsonparser.backslashCharEscapeTable"], apart := false, laid := [("pub-tetrapla/pub/jsonparser.DefaultConfig", laid_pub_tetrapla_pub_jsonparser_DefaultConfig), ("pub-tetrapla/pub/jsonparser.backslashCharEscapeTable", laid_pub_tetrapla_pub_jsonparser_backslashCharEscapeTable), ("pub-tetrapla/pub/jsonparser.MalformedValueError", laid_pub_tetrapla_pub_jsonparser_MalformedValueError), ("pub-tetrapla/pub/jsonparser.MalformedStringEscapeError", laid_pub_tetrapla_pub_jsonparser_MalformedStringEscapeError)], narrowed := true }
def FnJpParseStringUptoSaid : Prop := fnJpParseStringUptoRow.holds Tryd.pinned (OpenSpec.upto fnJpParseStringSpec)

/-- 'laws.FnMtLimit', WHERE WHAT IT READS IS OF BULK AT MOST 1048576: true; the input reads as it did. -/
def fnMtLimitUptoRow : OpenClaim := { program := "ytlhhmgopfilgpaadoor", sum := "85c519b7796cdbdce3b12b76ecf0bbed8fca9745c7e2e0ebfc79342c8e181998", func := "pub-tetrapla/laws.FnMtLimit", spec := "fnMtLimit", recurses := true, named := ["unicode/utf8.first", "unicode/utf8.acceptRanges"], apart := false, laid := [("unicode/utf8.acceptRanges", laid_unicode_utf8_acceptRanges), ("unicode/utf8.first", laid_unicode_utf8_first)], narrowed := true }
def FnMtLimitUptoSaid : Prop := fnMtLimitUptoRow.holds Tryd.pinned (OpenSpec.upto fnMtLimitSpec)

end Rows
end Go.Proofs.YtlhhmgopfilgpaaDoor
